/-
  What the rows' lists give: the library's tables in the world at the call. Conditions: the listed variables read as listed.
-/
import Derived.Test.YtgjckmkgopjihaaDoorCards
import Derived.Test.YtgjckmkgopjihaaDoorTie
import Derived.Test.YtgjckmkgopjihaaDoorExp
import Derived.ProofKit
import Derived.PinnedBridge
import Derived.Lay
import Derived.LaidOnce
import Derived.SevenTiedAt
import Derived.SizedLaws
namespace Go.Proofs.YtgjckmkgopjihaaDoor
open Go.ChangeShapes Go.WideShapes Go.ChangeAt Go.RowKit Go.Shelf Go.Lib

theorem own : ownKnob Tryd.prog.godebug = none := by kernel_rfl
theorem xU : RExtra Tryd.prog Tryd.lays261_ren := ⟨by kernel_rfl, by kernel_rfl, by kernel_rfl, by kernel_rfl, by kernel_rfl, by kernel_rfl, by kernel_rfl, by kernel_rfl⟩
theorem x8 : U8Extra Tryd.prog Tryd.lays260_ren := ⟨by kernel_rfl, by kernel_rfl, by kernel_rfl, by kernel_rfl, by kernel_rfl, by kernel_rfl, by kernel_rfl⟩
theorem accept_eq : (Rows.laid_unicode_utf8_acceptRanges : DataW Unit) = acceptData := by kernel_rfl
theorem props_eq : (Rows.laid_unicode_properties : DataW Unit) = tabData .u8 propertiesTab := by kernel_rfl
theorem up_eq : Rows.laid_unicode_Upper = rtabData upperT := Pinned.upper_eq
theorem first_eq : Rows.laid_unicode_utf8_first = firstData := Pinned.utf8First_eq
theorem gProps : Tryd.prog.globalNamed "unicode.properties" = some 0 := by kernel_rfl
theorem tProps : (Tryd.prog.globals[0]?).map (·.type) = some 28 := by kernel_rfl
theorem cells28 : Tryd.prog.cellsOf 28 = 256 := by kernel_rfl
theorem cells5 : Tryd.prog.cellsOf 5 = 1 := by kernel_rfl

def laidAll : List (String × DataW Unit) := Rows.fnExportedRow.laid

theorem tabIs_of_reads {P : Program} {W : World} {name : String} {k : IntKind} {zs : List Int} {g : Nat} {t e : TypeId} {n : Nat}
    (hg : P.globalNamed name = some g) (hty : (P.globals[g]?).map (·.type) = some t) (ht : P.underlying t = some (.array n e)) (he : P.underlying e = some (.int k)) (hce : P.cellsOf e = 1) (hct : P.cellsOf t = n)
    (h : VarReads P W name (tabData k zs)) : TabIs P W name k zs := by
  obtain ⟨g', t', cs, fuel, p, hg', ht', hvar, hd⟩ := h
  obtain rfl := Option.some.inj (hg.symm.trans hg')
  obtain rfl := Option.some.inj (hty.symm.trans ht')
  unfold TabIs
  rw [hvar, ← cells_of_tab ht he hce hct hd]

theorem tabs_of_laid {W : World} (h : laidMetH Tryd.prog laidAll W) : Tabs W := by
  rw [MakeChecks.laidMetH_plain _ _ _ (by kernel_rfl)] at h
  have h1 : VarReads Tryd.prog W _ (Rows.laid_unicode_utf8_acceptRanges : DataW Unit) := Lib.laidMet.reads h (.head _)
  have h2 : VarReads Tryd.prog W _ (Rows.laid_unicode_properties : DataW Unit) := Lib.laidMet.reads h (.tail _ (.head _))
  have h3 : VarReads Tryd.prog W _ Rows.laid_unicode_Upper := Lib.laidMet.reads h (.tail _ (.tail _ (.head _)))
  have h4 : VarReads Tryd.prog W _ Rows.laid_unicode_utf8_first := Lib.laidMet.reads h (.tail _ (.tail _ (.tail _ (.head _))))
  refine ⟨?_, ?_, ?_⟩
  · exact utf8Tabs_of_reads Tryd.lays260 x8 (first_eq ▸ h4) (accept_eq ▸ h1)
  · exact tabIs_of_reads gProps tProps Tryd.underlying28 Tryd.underlying5 cells5 cells28 (props_eq ▸ h2)
  · exact rvar_of_reads Tryd.lays261 xU (by kernel_rfl) (by kernel_rfl) (up_eq ▸ h3)
end Go.Proofs.YtgjckmkgopjihaaDoor
