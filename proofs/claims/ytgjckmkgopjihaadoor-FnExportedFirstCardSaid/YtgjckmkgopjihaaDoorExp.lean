/-
  impl.IsExported and spec.Exported answer whether the first rune that is decoded of a name is of upper case. Conditions: the library's tables hold what their initialisers lay.
-/
import Derived.Test.YtgjckmkgopjihaaDoorShelf
import Derived.Test.YtgjckmkgopjihaaDoorUtf
import Derived.WalkKit
import Derived.Lib.Hide
namespace Go.Proofs.YtgjckmkgopjihaaDoor
open Go.RowKit Go.Shelf Go.Lib

/-- The tables in a world. -/
structure Tabs (w : World) : Prop where
  u8 : Lib.Utf8Tabs 2 3 w
  pr : Lib.TabIs Tryd.prog w "unicode.properties" .u8 Lib.propertiesTab
  up : RVar 1 upperT w

theorem Tabs.below {w w' : World} (h : Tabs w) (hb : Below w.heap.size w w') : Tabs w' :=
  ⟨Utf8Tabs_below h.u8 hb, TabIs_below (show Tryd.prog.globalNamed "unicode.properties" = some 0 by kernel_rfl) h.pr hb, RVar_below h.up hb⟩

/-- Whether a name begins with an upper-case letter. -/
def upB (s : ByteArray) : Bool := isUpperU ((Lib.decodeGo s).1 : Int)

theorem decode_small (s : ByteArray) : (Lib.decodeGo s).1 ≤ 1114111 := by
  unfold Lib.decodeGo
  split
  · decide
  · rw [Lib.decode_at]
    unfold Lib.decodeN
    repeat' split
    all_goals first | (simp only; omega) | decide

theorem token_any (s : ByteArray) (w : World) (hT : Tabs w) :
    Calls Tryd.prog 10 #[.string s] w fun e w' => e = .returned (.bool (upB s)) ∧ Below w.heap.size w w' := by
  have hs := decode_small s
  go_enter Tryd.func10, Tryd.ntmps10
  go_wp2_with fail
  refine (Tryd.utf8_DecodeRuneInString s w hT.u8).mono ?_
  rintro e w1 ⟨rfl, hb⟩
  go_wp2_with fail
  refine (Tryd.unicode_IsUpper_all _ _ (by omega) (by omega) (hT.below hb).pr (hT.below hb).up).mono ?_
  rintro e w2 ⟨rfl, hb2⟩
  go_wp2_with fail
  go_ret
  exact ⟨rfl, hb.trans (hb2.mono hb.size)⟩

theorem ast_any (s : ByteArray) (w : World) (hT : Tabs w) :
    Calls Tryd.prog 7 #[.string s] w fun e w' => e = .returned (.bool (upB s)) ∧ Below w.heap.size w w' := by
  go_enter Tryd.func7, Tryd.ntmps7
  go_wp2_with fail
  refine (token_any s w hT).mono ?_
  rintro e w1 ⟨rfl, hb⟩
  go_wp2_with fail
  go_ret
  exact ⟨rfl, hb⟩

theorem impl_any (s : ByteArray) (w : World) (hT : Tabs w) :
    Calls Tryd.prog 5 #[.string s] w fun e w' => e = .returned (.bool (upB s)) ∧ Below w.heap.size w w' := by
  go_enter Tryd.func5, Tryd.ntmps5
  go_wp2_with fail
  refine (ast_any s w hT).mono ?_
  rintro e w1 ⟨rfl, hb⟩
  go_wp2_with fail
  go_ret
  exact ⟨rfl, hb⟩

theorem spec_any (s : ByteArray) (w : World) (hT : Tabs w) :
    Calls Tryd.prog 6 #[.string s] w fun e w' => e = .returned (.bool (upB s)) ∧ Below w.heap.size w w' := by
  have hs := decode_small s
  go_enter Tryd.func6, Tryd.ntmps6
  go_wp2_with fail
  refine (Tryd.utf8_DecodeRuneInString s w hT.u8).mono ?_
  rintro e w1 ⟨rfl, hb⟩
  go_wp2_with fail
  refine (Tryd.unicode_IsUpper_all _ _ (by omega) (by omega) (hT.below hb).pr (hT.below hb).up).mono ?_
  rintro e w2 ⟨rfl, hb2⟩
  go_wp2_with fail
  go_ret
  exact ⟨rfl, hb.trans (hb2.mono hb.size)⟩
end Go.Proofs.YtgjckmkgopjihaaDoor
