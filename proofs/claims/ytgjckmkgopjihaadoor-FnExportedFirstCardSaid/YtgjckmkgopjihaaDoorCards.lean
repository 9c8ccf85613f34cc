/-
  DERIVED. GIVEN WITH THE SEED: THE CARDS: each row of YtgjckmkgopjihaaDoorRows.lean that lists a variable, with what it lists TIED to the program's text (the seventh form; the later family's looks); each row that meets fmt, with fmt's text TOLD by the authors' own Lean function (tested against real Go, not proved from fmt's source: count such statements apart). THE CARD IS WHAT COUNTS. Prove the row's statement (the work); the ties are given (YtgjckmkgopjihaaDoorTie.lean); close each card by the builder's one call (the guide's Derived/Test/ToyasCard.lean, 'card_holds'). Laid BY PROGRAM, IN A SANDBOX (cutbox-door.mjs). By AI agents, Wed Nov 11 2026. No macro, syntax, notation, axiom, sorry.
-/
import Derived.Test.YtgjckmkgopjihaaDoorRows
import GoSem.ClaimSeven
namespace Go.Proofs.YtgjckmkgopjihaaDoor
namespace Rows

/-- THE TIED CARD OF 'laws.FnExported'. -/
def fnExportedCard : Claim7 := { stood := { row := fnExportedRow, standIns := [], harness := (true, "120556d6293219e169f218efc224e744114cdeb29eac8c588c481797a47fed2b"), looks := false }, kinds := [], alts := [], laidByText := true, laidKinds := [.data, .data, .pinned, .pinned], laidTests := true, laidLooks := .later }
def FnExportedCardSaid : Prop := Claim7.holds Tryd.pinned (.plain (OpenSpec.ofChange fnExportedSpec)) fnExportedCard

/-- THE TIED CARD OF 'laws.FnExportedFirst'. -/
def fnExportedFirstCard : Claim7 := { stood := { row := fnExportedFirstRow, standIns := [], harness := (true, "120556d6293219e169f218efc224e744114cdeb29eac8c588c481797a47fed2b"), looks := false }, kinds := [], alts := [], laidByText := true, laidKinds := [.data, .data, .pinned, .pinned], laidTests := true, laidLooks := .later }
def FnExportedFirstCardSaid : Prop := Claim7.holds Tryd.pinned (.plain (OpenSpec.ofChange fnExportedFirstSpec)) fnExportedFirstCard

/-- THE SECOND FORM's CARD OF 'laws.FnExported'. -/
def fnExportedUptoCard : Claim7 := { stood := { row := fnExportedUptoRow, standIns := [], harness := (true, "120556d6293219e169f218efc224e744114cdeb29eac8c588c481797a47fed2b"), looks := false }, kinds := [], alts := [], laidByText := true, laidKinds := [.data, .data, .pinned, .pinned], laidTests := true, laidLooks := .later }
def FnExportedUptoCardSaid : Prop := Claim7.holds Tryd.pinned (.plain (OpenSpec.upto fnExportedSpec)) fnExportedUptoCard

/-- THE SECOND FORM's CARD OF 'laws.FnExportedFirst'. -/
def fnExportedFirstUptoCard : Claim7 := { stood := { row := fnExportedFirstUptoRow, standIns := [], harness := (true, "120556d6293219e169f218efc224e744114cdeb29eac8c588c481797a47fed2b"), looks := false }, kinds := [], alts := [], laidByText := true, laidKinds := [.data, .data, .pinned, .pinned], laidTests := true, laidLooks := .later }
def FnExportedFirstUptoCardSaid : Prop := Claim7.holds Tryd.pinned (.plain (OpenSpec.upto fnExportedFirstSpec)) fnExportedFirstUptoCard
end Rows
end Go.Proofs.YtgjckmkgopjihaaDoor
