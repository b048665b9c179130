/-
  DERIVED. GIVEN WITH THE SEED: THE CARDS: each row of YtnjjenellkpkaaaDoorRows.lean that lists a variable, with what it lists TIED to the program's text (the seventh form; the later family's looks); each row that meets fmt, with fmt's text TOLD by the authors' own Lean function (tested against real Go, not proved from fmt's source: count such statements apart). THE CARD IS WHAT COUNTS. Prove the row's statement (the work); the ties are given (YtnjjenellkpkaaaDoorTie.lean); close each card by the builder's one call (the guide's Derived/Test/ToyasCard.lean, 'card_holds'). Laid BY PROGRAM, IN A SANDBOX (cutbox-door.mjs). By AI agents, Wed Nov 11 2026. No macro, syntax, notation, axiom, sorry.
-/
import Derived.Test.YtnjjenellkpkaaaDoorRows
import GoSem.ClaimSeven
namespace Go.Proofs.YtnjjenellkpkaaaDoor
namespace Rows

/-- THE TIED CARD OF 'n011_301.FnTryToGetImportedEnumValueMatchesLastKeyAtEnumRoot'. -/
def fnTryToGetImportedEnumValueMatchesLastKeyAtEnumRootCard : Claim7 := { stood := { row := fnTryToGetImportedEnumValueMatchesLastKeyAtEnumRootRow, standIns := [], harness := (true, "059ba6a038d226628a3f382af72ceef36099e71613b910cff68e071728d6671e"), looks := true }, kinds := [], alts := [], laidByText := true, laidKinds := [.data], laidTests := true, laidLooks := .later }
def FnTryToGetImportedEnumValueMatchesLastKeyAtEnumRootCardSaid : Prop := Claim7.holds Tryd.pinned (.plain (OpenSpec.ofChange fnTryToGetImportedEnumValueMatchesLastKeyAtEnumRootSpec)) fnTryToGetImportedEnumValueMatchesLastKeyAtEnumRootCard

/-- THE SECOND FORM's CARD OF 'n011_301.FnTryToGetImportedEnumValueMatchesLastKeyAtEnumRoot'. -/
def fnTryToGetImportedEnumValueMatchesLastKeyAtEnumRootUptoCard : Claim7 := { stood := { row := fnTryToGetImportedEnumValueMatchesLastKeyAtEnumRootUptoRow, standIns := [], harness := (true, "059ba6a038d226628a3f382af72ceef36099e71613b910cff68e071728d6671e"), looks := true }, kinds := [], alts := [], laidByText := true, laidKinds := [.data], laidTests := true, laidLooks := .later }
def FnTryToGetImportedEnumValueMatchesLastKeyAtEnumRootUptoCardSaid : Prop := Claim7.holds Tryd.pinned (.plain (OpenSpec.upto fnTryToGetImportedEnumValueMatchesLastKeyAtEnumRootSpec)) fnTryToGetImportedEnumValueMatchesLastKeyAtEnumRootUptoCard
end Rows
end Go.Proofs.YtnjjenellkpkaaaDoor
