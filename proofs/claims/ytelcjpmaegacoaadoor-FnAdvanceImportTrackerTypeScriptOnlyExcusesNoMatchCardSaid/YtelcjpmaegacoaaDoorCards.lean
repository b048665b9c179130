/-
  DERIVED. GIVEN WITH THE SEED: THE CARDS: each row of YtelcjpmaegacoaaDoorRows.lean that lists a variable, with what it lists TIED to the program's text (the seventh form; the later family's looks); each row that meets fmt, with fmt's text TOLD by the authors' own Lean function (tested against real Go, not proved from fmt's source: count such statements apart). THE CARD IS WHAT COUNTS. Prove the row's statement (the work); the ties are given (YtelcjpmaegacoaaDoorTie.lean); close each card by the builder's one call (the guide's Derived/Test/ToyasCard.lean, 'card_holds'). Laid BY PROGRAM, IN A SANDBOX (cutbox-door.mjs). By AI agents, Wed Nov 11 2026. No macro, syntax, notation, axiom, sorry.
-/
import Derived.Test.YtelcjpmaegacoaaDoorRows
import GoSem.ClaimSeven
namespace Go.Proofs.YtelcjpmaegacoaaDoor
namespace Rows

/-- THE TIED CARD OF 'n011_305.FnAdvanceImportTrackerTypeScriptOnlyExcusesNoMatch'. -/
def fnAdvanceImportTrackerTypeScriptOnlyExcusesNoMatchCard : Claim7 := { stood := { row := fnAdvanceImportTrackerTypeScriptOnlyExcusesNoMatchRow, standIns := [], harness := (true, "1d410fd1f1bc80a38a415cb58727f27f2f4ba1ce0ee6e3ab93983aa7ffa22ede"), looks := true }, kinds := [], alts := [], laidByText := true, laidKinds := [.data], laidTests := true, laidLooks := .later }
def FnAdvanceImportTrackerTypeScriptOnlyExcusesNoMatchCardSaid : Prop := Claim7.holds Tryd.pinned (.plain (OpenSpec.ofChange fnAdvanceImportTrackerTypeScriptOnlyExcusesNoMatchSpec)) fnAdvanceImportTrackerTypeScriptOnlyExcusesNoMatchCard

/-- THE SECOND FORM's CARD OF 'n011_305.FnAdvanceImportTrackerTypeScriptOnlyExcusesNoMatch'. -/
def fnAdvanceImportTrackerTypeScriptOnlyExcusesNoMatchUptoCard : Claim7 := { stood := { row := fnAdvanceImportTrackerTypeScriptOnlyExcusesNoMatchUptoRow, standIns := [], harness := (true, "1d410fd1f1bc80a38a415cb58727f27f2f4ba1ce0ee6e3ab93983aa7ffa22ede"), looks := true }, kinds := [], alts := [], laidByText := true, laidKinds := [.data], laidTests := true, laidLooks := .later }
def FnAdvanceImportTrackerTypeScriptOnlyExcusesNoMatchUptoCardSaid : Prop := Claim7.holds Tryd.pinned (.plain (OpenSpec.upto fnAdvanceImportTrackerTypeScriptOnlyExcusesNoMatchSpec)) fnAdvanceImportTrackerTypeScriptOnlyExcusesNoMatchUptoCard
end Rows
end Go.Proofs.YtelcjpmaegacoaaDoor
