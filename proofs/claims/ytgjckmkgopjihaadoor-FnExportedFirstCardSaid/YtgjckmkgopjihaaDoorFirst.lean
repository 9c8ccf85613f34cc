/-
  What stands behind the first letter of a name does not matter to whether it is exported (the law FnExportedFirst): for every name and every text behind it. Conditions: the library's tables hold what their initialisers lay (tied to the program's text by the card).
-/
import Derived.Test.YtgjckmkgopjihaaDoorLaid
namespace Go.Proofs.YtgjckmkgopjihaaDoor.fnExportedFirst
open Go.ChangeShapes Go.WideShapes Go.ChangeAt Go.RowKit Go.Shelf Go.Lib
open Go.ChangeMaps (open_string shut_string)

theorem up_Z (s : ByteArray) : upB (⟨#[90]⟩ ++ s) = true := by
  unfold upB
  rw [utf.decode_ascii ⟨#[90]⟩ s (by decide) (by decide)]
  decide

theorem up_cut (s t : ByteArray) (h : 0 < s.size) : upB (s ++ ⟨#[122]⟩ ++ t) = upB s := by
  unfold upB
  rw [ByteArray.append_assoc, utf.decode_cut s _ h (by rw [ByteArray.size_append]; have : (⟨#[122]⟩ : ByteArray).size = 1 := rfl; omega) (by rw [utf.get_append _ _ _ (by decide)]; decide)]

theorem law_empty (s t : ByteArray) (w : World) (h0 : s.toList.isEmpty = true) :
    Calls Tryd.prog 4 #[.string s, .string t] w fun e w' => e = .returned (.bool true) ∧ Below w.heap.size w w' := by
  go_enter Tryd.func4, Tryd.ntmps4
  go_wp2_with fail
  go_ret
  exact ⟨rfl, Below.refl _ _⟩

theorem law (s t : ByteArray) (w : World) (hs : s.size ≤ 140737488351232) (ht : t.size ≤ 140737488351232) (h0 : s.toList.isEmpty = false) (hp : 0 < s.size) (hT : Tabs w) :
    Calls Tryd.prog 4 #[.string s, .string t] w fun e w' => e = .returned (.bool true) ∧ Below w.heap.size w w' := by
  have hZ := Lib.hid (up_Z t)
  have hC := Lib.hid (up_cut s t hp)
  go_enter Tryd.func4, Tryd.ntmps4
  go_wp2_with fail
  refine (impl_any s w hT).mono ?_
  rintro e w1 ⟨rfl, hb⟩
  go_wp2_with fail
  refine (impl_any _ w1 (hT.below hb)).mono ?_
  rintro e w2 ⟨rfl, hb2⟩
  have hb' := hb.trans (hb2.mono hb.size)
  rw [hC.out]
  go_wp2_with fail
  refine (impl_any _ w2 (hT.below hb')).mono ?_
  rintro e w3 ⟨rfl, hb3⟩
  rw [hZ.out]
  go_wp2_with fail
  go_ret
  exact ⟨rfl, hb'.trans (hb3.mono hb'.size)⟩

theorem both (s t : ByteArray) (w : World) (hs : s.size ≤ 140737488351232) (ht : t.size ≤ 140737488351232) (hT : Tabs w) :
    Calls Tryd.prog 4 #[.string s, .string t] w fun e w' => e = .returned (.bool true) ∧ Below w.heap.size w w' := by
  have e : s.toList = s.data.toList := ByteArray.toList_eq s
  by_cases h : s.size = 0
  · exact law_empty s t w (by rw [e, List.isEmpty_iff]; exact List.eq_nil_of_length_eq_zero (by rw [Array.length_toList]; exact h))
  · refine law s t w hs ht ?_ (by omega) hT
    rw [e, List.isEmpty_eq_false_iff]
    intro hn
    apply h
    have := congrArg List.length hn
    rw [Array.length_toList] at this
    exact this

set_option maxRecDepth 100000 in
theorem lifted (os : Os) (started : os.Started) (H : Type) (enc : TypeId × Value → H) :
    ReturnsInHanded {} Tryd.checked os 4 .any (fun w args => (Rows.fnExportedFirstSpec.pre enc Tryd.prog Tryd.f4 [] false w args ∧ laidMetH Tryd.prog laidAll w) ∧ sizedMet enc Tryd.prog Tryd.f4 (OpenSpec.ofChange Rows.fnExportedFirstSpec) false w args)
      (Rows.fnExportedFirstSpec.post enc Tryd.prog Tryd.f4 false true false false) := by
  refine returnsInHanded_of_change_and (C := Tryd.checked) (X := fun w _ => laidMetH Tryd.prog laidAll w) (fun _ _ _ hh h => h.of_heap hh) own started (by kernel_rfl) Tryd.func4
    (ChangeSpec.witness_shaped (enc := enc) (C := Tryd.checked) (os := os) (X := fun w _ => laidMetH Tryd.prog laidAll w) false (World.laidAll Tryd.prog os laidAll) #[.string .empty, .string .empty] 8 (World.laidAll_os _ _ _)
      (World.shaped_of_ZipB (by kernel_rfl) (by kernel_rfl)) (by kernel_rfl) (by kernel_rfl) (by kernel_rfl)
      (by rw [MakeChecks.laidMetH_plain _ _ _ (by kernel_rfl)]; exact laidMet_laidAll _ (by kernel_rfl) (by kernel_rfl))) ?_
  intro W base args ds gs before hval0 hW _ hsz0 hL _
  have hval : ∀ (j : Nat) t v, Tryd.f4.params[j]? = some t → args[j]? = some v → Value.okWide Tryd.prog W .any base t v := hval0
  have hsz : (DataW.weightsEach Tryd.prog (Tryd.f4.params.toList ++ Rows.fnExportedFirstSpec.plain.varTypes Tryd.prog) (ds ++ gs)).all (· ≤ reachBytes) = true := hsz0
  have hW' := hW
  obtain ⟨p, q, hA0, hV, rfl, _, _⟩ := hW
  have hA : DataW.TrodAll enc Tryd.prog W 0 (fun _ => true) true Tryd.f4.params.toList args.toList ds p := hA0
  rw [Tryd.params4] at hA hval hsz
  obtain ⟨v0, v1, d0, d1, p0, p1, rfl, rfl, rfl, h0, h1⟩ := trodAll_two hA
  obtain ⟨rfl, rfl⟩ := trodVars_none hV
  obtain ⟨s, rfl, rfl, rfl, hs⟩ := open_string Tryd.underlying9 (hval 0 9 v0 rfl rfl) h0
  obtain ⟨r, rfl, rfl, rfl, hr⟩ := open_string Tryd.underlying9 (hval 1 9 v1 rfl rfl) h1
  simp only [List.append_nil] at hW'
  have hlen : s.data.toList.length ≤ reachBytes := sized_string hsz (j := 0) (t := 9) rfl rfl
  have hlen1 : r.data.toList.length ≤ reachBytes := sized_string hsz (j := 1) (t := 9) rfl rfl
  have e2 : reachBytes = 140737488351232 := rfl
  have hsize : s.size ≤ 140737488351232 := by
    have e : s.data.toList.length = s.size := by rw [Array.length_toList]; rfl
    omega
  have hsize1 : r.size ≤ 140737488351232 := by
    have e : r.data.toList.length = r.size := by rw [Array.length_toList]; rfl
    omega
  refine (both s r W hsize hsize1 (tabs_of_laid hL)).mono fun e W' ⟨he, hb⟩ => ?_
  subst he
  exact ⟨_, rfl, _, _, _, [], [], [], hW', trodAll_mk1 (shut_bool Tryd.underlying4 _), trodAll_mk2 (shut_string Tryd.underlying9 hs) (shut_string Tryd.underlying9 hr), rfl, hb.frame _, fun h => by cases h⟩

theorem said : Rows.FnExportedFirstSaid :=
  OpenClaim.holds_of_wide 4 Tryd.f4 rfl rfl rfl rfl rfl rfl rfl ⟨rfl, rfl, rfl, rfl, rfl⟩ rfl rfl rfl rfl rfl (by kernel_rfl) Tryd.func4 (by kernel_rfl)
    (of_decide_eq_true (by kernel_rfl)) (by unfold Func.isWrapper; first | (rw [if_pos (by decide +kernel)]; kernel_rfl) | (rw [if_neg (by decide +kernel)]; exact ⟨rfl, rfl⟩))
    (fun os started H enc _ => lifted os started H enc)

theorem plain (f : FuncId) (fn : Func) (hf : Tryd.pinned.checked.prog.funcNamed Rows.fnExportedFirstRow.func = some f) (hfn : Tryd.pinned.checked.prog.funcs[f]? = some fn) :
    false = Tryd.pinned.checked.prog.looks [] ∧ ∀ (j : Nat) t, fn.params[j]? = some t → Tryd.pinned.checked.prog.wantsStandIn t = false := by
  obtain rfl : f = 4 := Option.some.inj ((show Tryd.prog.funcNamed Rows.fnExportedFirstRow.func = some 4 by kernel_rfl).symm.trans hf) |>.symm
  obtain rfl : fn = Tryd.f4 := (Option.some.inj (Tryd.func4.symm.trans hfn)).symm
  refine ⟨by kernel_rfl, fun j t ht => ?_⟩
  rw [Tryd.params4] at ht
  obtain rfl : t = 9 := by simpa using Array.mem_of_getElem? ht
  exact (show Tryd.prog.wantsStandIn 9 = false by kernel_rfl)

theorem card : Rows.FnExportedFirstCardSaid :=
  Claim7.holds_tied_plain_at .later [] _ _ _ _ said (fun _ h => by cases h) (by kernel_rfl) (fun _ h => by cases h) fnExportedFirst_row_tie rfl ⟨rfl, rfl⟩ (by kernel_rfl) rfl plain (by kernel_rfl)
#print axioms card
end Go.Proofs.YtgjckmkgopjihaaDoor.fnExportedFirst
