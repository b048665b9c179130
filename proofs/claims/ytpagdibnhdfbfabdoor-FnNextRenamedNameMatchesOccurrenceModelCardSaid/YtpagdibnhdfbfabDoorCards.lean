/-
  DERIVED. GIVEN WITH THE SEED: THE CARDS: each row of YtpagdibnhdfbfabDoorRows.lean that lists a variable, with what it lists TIED to the program's text (the seventh form; the later family's looks); each row that meets fmt, with fmt's text TOLD by the authors' own Lean function (tested against real Go, not proved from fmt's source: count such statements apart). THE CARD IS WHAT COUNTS. Prove the row's statement (the work); the ties are given (YtpagdibnhdfbfabDoorTie.lean); close each card by the builder's one call (the guide's Derived/Test/ToyasCard.lean, 'card_holds'). Laid BY PROGRAM, IN A SANDBOX (cutbox-door.mjs). By AI agents, Wed Nov 11 2026. No macro, syntax, notation, axiom, sorry.
-/
import Derived.Test.YtpagdibnhdfbfabDoorRows
import GoSem.ClaimSeven
namespace Go.Proofs.YtpagdibnhdfbfabDoor
namespace Rows

/-- THE TIED CARD OF 'n011_64.FnNextRenamedNameMatchesOccurrenceModel'. -/
def fnNextRenamedNameMatchesOccurrenceModelCard : Claim7 := { stood := { row := fnNextRenamedNameMatchesOccurrenceModelRow, standIns := [], harness := (true, "4c09e0cae87c849f84ebe98171666d20ebd3d7a57c52682cb21f54330aa15cdb"), looks := false }, kinds := [], alts := [], laidByText := true, laidKinds := [.data, .data, .data], laidTests := true, laidLooks := .later }
def FnNextRenamedNameMatchesOccurrenceModelCardSaid : Prop := Claim7.holds Tryd.pinned (.plain (OpenSpec.ofChange fnNextRenamedNameMatchesOccurrenceModelSpec)) fnNextRenamedNameMatchesOccurrenceModelCard

/-- THE SECOND FORM's CARD OF 'n011_64.FnNextRenamedNameMatchesOccurrenceModel'. -/
def fnNextRenamedNameMatchesOccurrenceModelUptoCard : Claim7 := { stood := { row := fnNextRenamedNameMatchesOccurrenceModelUptoRow, standIns := [], harness := (true, "4c09e0cae87c849f84ebe98171666d20ebd3d7a57c52682cb21f54330aa15cdb"), looks := false }, kinds := [], alts := [], laidByText := true, laidKinds := [.data, .data, .data], laidTests := true, laidLooks := .later }
def FnNextRenamedNameMatchesOccurrenceModelUptoCardSaid : Prop := Claim7.holds Tryd.pinned (.plain (OpenSpec.upto fnNextRenamedNameMatchesOccurrenceModelSpec)) fnNextRenamedNameMatchesOccurrenceModelUptoCard
end Rows
end Go.Proofs.YtpagdibnhdfbfabDoor
