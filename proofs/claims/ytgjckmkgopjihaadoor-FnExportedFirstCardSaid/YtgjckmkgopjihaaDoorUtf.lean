/-
  The first rune that is decoded of a text does not hang on what stands behind a plain letter that follows the text. Conditions: the text is not empty; what follows begins with the letter z. No program in sight.
-/
import Derived.Lib.DecodeN
import Derived.Shelf.Unicode.DecodeSlow
namespace Go.Proofs.YtgjckmkgopjihaaDoor.utf

theorem get_append (s t : ByteArray) (i : Nat) (h : i < s.size) : (s ++ t).get! i = s.get! i := by
  have h1 : i < (s ++ t).size := by rw [ByteArray.size_append]; omega
  rw [Utf8W.get!_of_lt _ _ h1, Utf8W.get!_of_lt _ _ h, ByteArray.getElem_append_left h]

theorem get_append_right (s t : ByteArray) (i : Nat) (h : s.size ≤ i) (h2 : i < s.size + t.size) : (s ++ t).get! i = t.get! (i - s.size) := by
  have h1 : i < (s ++ t).size := by rw [ByteArray.size_append]; omega
  rw [Utf8W.get!_of_lt _ _ h1, Utf8W.get!_of_lt _ _ (by omega), ByteArray.getElem_append_right h]

theorem get_beyond (s : ByteArray) (i : Nat) (h : s.size ≤ i) : (s.get! i).toNat = 0 := by
  have : s.get! i = 0 := by
    show s.data[i]! = 0
    rw [getElem!_neg s.data i (by have : s.data.size = s.size := rfl; omega)]
    rfl
  rw [this]; rfl

set_option maxHeartbeats 1000000 in
theorem decodeN_cut (n m b0 b1 b2 b3 c1 c2 c3 : Nat) (hn : 1 ≤ n) (hm : n < m)
    (e1 : 1 < n → c1 = b1) (e2 : 2 < n → c2 = b2) (e3 : 3 < n → c3 = b3)
    (z1 : n = 1 → c1 = 122) (z2 : n = 2 → c2 = 122) (z3 : n = 3 → c3 = 122) :
    Lib.decodeN m b0 c1 c2 c3 = Lib.decodeN n b0 b1 b2 b3 := by
  have h : n = 1 ∨ n = 2 ∨ n = 3 ∨ 4 ≤ n := by omega
  rcases h with h | h | h | h
  · have := z1 h; subst h; subst this; simp [Lib.decodeN]
  · have := z2 h; have := e1 (by omega); subst h; subst c2; subst c1
    have hm1 : 1 < m := by omega
    simp [Lib.decodeN, hm1]
  · have := z3 h; have := e1 (by omega); have := e2 (by omega); subst h; subst c3; subst c2; subst c1
    have hm1 : 1 < m := by omega
    have hm2 : 2 < m := by omega
    simp [Lib.decodeN, hm1, hm2]
  · have := e1 (by omega); have := e2 (by omega); have := e3 (by omega); subst c3; subst c2; subst c1
    have hm1 : 1 < m := by omega
    have hm2 : 2 < m := by omega
    have hm3 : 3 < m := by omega
    have hn1 : 1 < n := by omega
    have hn2 : 2 < n := by omega
    have hn3 : 3 < n := by omega
    simp [Lib.decodeN, hm1, hm2, hm3, hn1, hn2, hn3]

theorem decode_cut (s t : ByteArray) (h : 0 < s.size) (ht : 0 < t.size) (hz : (t.get! 0).toNat = 122) : Lib.decodeGo (s ++ t) = Lib.decodeGo s := by
  have hs : (s ++ t).size = s.size + t.size := by rw [ByteArray.size_append]
  have h0 : ¬ s.size = 0 := by omega
  have h0' : ¬ (s ++ t).size = 0 := by omega
  simp only [Lib.decodeGo, h0, h0', if_false]
  rw [Lib.decode_at, Lib.decode_at, hs, get_append s t 0 h]
  refine decodeN_cut _ _ _ _ _ _ _ _ _ (by omega) (by omega) (fun h => ?_) (fun h => ?_) (fun h => ?_) (fun h => ?_) (fun h => ?_) (fun h => ?_)
  · rw [get_append s t _ (by omega)]
  · rw [get_append s t _ (by omega)]
  · rw [get_append s t _ (by omega)]
  · rw [get_append_right s t _ (by omega) (by omega), show 0 + 1 - s.size = 0 by omega]; exact hz
  · rw [get_append_right s t _ (by omega) (by omega), show 0 + 2 - s.size = 0 by omega]; exact hz
  · rw [get_append_right s t _ (by omega) (by omega), show 0 + 3 - s.size = 0 by omega]; exact hz

/-- A text that begins with an ASCII letter. -/
theorem decode_ascii (s t : ByteArray) (h : 0 < s.size) (ha : (s.get! 0).toNat < 128) : (Lib.decodeGo (s ++ t)).1 = (s.get! 0).toNat := by
  have hs : (s ++ t).size = s.size + t.size := by rw [ByteArray.size_append]
  have h0' : ¬ (s ++ t).size = 0 := by omega
  simp only [Lib.decodeGo, h0', if_false]
  rw [Lib.decode_at, get_append s t 0 h]
  simp [Lib.decodeN, ha]
end Go.Proofs.YtgjckmkgopjihaaDoor.utf
