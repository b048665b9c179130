/-
  DERIVED. GIVEN WITH THE SEED: THE CARDS: each row of YtdajemigdciphacDoorRows.lean that lists a variable, with what it lists TIED to the program's text (the seventh form; the later family's looks); each row that meets fmt, with fmt's text TOLD by the authors' own Lean function (tested against real Go, not proved from fmt's source: count such statements apart). THE CARD IS WHAT COUNTS. Prove the row's statement (the work); the ties are given (YtdajemigdciphacDoorTie.lean); close each card by the builder's one call (the guide's Derived/Test/ToyasCard.lean, 'card_holds'). Laid BY PROGRAM, IN A SANDBOX (cutbox-door.mjs). By AI agents, Wed Nov 11 2026. No macro, syntax, notation, axiom, sorry.
-/
import Derived.Test.YtdajemigdciphacDoorRows
import GoSem.ClaimSeven
namespace Go.Proofs.YtdajemigdciphacDoor
namespace Rows

/-- THE TIED CARD OF 'n011_93.FnStepWalkCoversText'. -/
def fnStepWalkCoversTextCard : Claim7 := { stood := { row := fnStepWalkCoversTextRow, standIns := [], harness := (true, "a1d9a7317388d618cbe3912f021f982c4be3b11b676d2da8db434d3d2c030a80"), looks := false }, kinds := [], alts := [], laidByText := true, laidKinds := [.data, .pinned], laidTests := true, laidLooks := .later }
def FnStepWalkCoversTextCardSaid : Prop := Claim7.holds Tryd.pinned (.plain (OpenSpec.ofChange fnStepWalkCoversTextSpec)) fnStepWalkCoversTextCard

/-- THE SECOND FORM's CARD OF 'n011_93.FnStepWalkCoversText'. -/
def fnStepWalkCoversTextUptoCard : Claim7 := { stood := { row := fnStepWalkCoversTextUptoRow, standIns := [], harness := (true, "a1d9a7317388d618cbe3912f021f982c4be3b11b676d2da8db434d3d2c030a80"), looks := false }, kinds := [], alts := [], laidByText := true, laidKinds := [.data, .pinned], laidTests := true, laidLooks := .later }
def FnStepWalkCoversTextUptoCardSaid : Prop := Claim7.holds Tryd.pinned (.plain (OpenSpec.upto fnStepWalkCoversTextSpec)) fnStepWalkCoversTextUptoCard
end Rows
end Go.Proofs.YtdajemigdciphacDoor
