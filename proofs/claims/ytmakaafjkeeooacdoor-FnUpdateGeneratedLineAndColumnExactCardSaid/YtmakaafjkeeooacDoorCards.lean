/-
  DERIVED. GIVEN WITH THE SEED: THE CARDS: each row of YtmakaafjkeeooacDoorRows.lean that lists a variable, with what it lists TIED to the program's text (the seventh form; the later family's looks); each row that meets fmt, with fmt's text TOLD by the authors' own Lean function (tested against real Go, not proved from fmt's source: count such statements apart). THE CARD IS WHAT COUNTS. Prove the row's statement (the work); the ties are given (YtmakaafjkeeooacDoorTie.lean); close each card by the builder's one call (the guide's Derived/Test/ToyasCard.lean, 'card_holds'). Laid BY PROGRAM, IN A SANDBOX (cutbox-door.mjs). By AI agents, Wed Nov 11 2026. No macro, syntax, notation, axiom, sorry.
-/
import Derived.Test.YtmakaafjkeeooacDoorRows
import GoSem.ClaimSeven
namespace Go.Proofs.YtmakaafjkeeooacDoor
namespace Rows

/-- THE TIED CARD OF 'n011_123.FnUpdateGeneratedLineAndColumnExact'. -/
def fnUpdateGeneratedLineAndColumnExactCard : Claim7 := { stood := { row := fnUpdateGeneratedLineAndColumnExactRow, standIns := [], harness := (true, "1238137c8589a0266693ff88cb55cefeabca39d4325fa0960fb4fd802a6864e7"), looks := false }, kinds := [], alts := [], laidByText := true, laidKinds := [.widerDeep], laidTests := true, laidLooks := .later }
def FnUpdateGeneratedLineAndColumnExactCardSaid : Prop := Claim7.holds Tryd.pinned (.plain (OpenSpec.ofChange fnUpdateGeneratedLineAndColumnExactSpec)) fnUpdateGeneratedLineAndColumnExactCard

/-- THE SECOND FORM's CARD OF 'n011_123.FnUpdateGeneratedLineAndColumnExact'. -/
def fnUpdateGeneratedLineAndColumnExactUptoCard : Claim7 := { stood := { row := fnUpdateGeneratedLineAndColumnExactUptoRow, standIns := [], harness := (true, "1238137c8589a0266693ff88cb55cefeabca39d4325fa0960fb4fd802a6864e7"), looks := false }, kinds := [], alts := [], laidByText := true, laidKinds := [.widerDeep], laidTests := true, laidLooks := .later }
def FnUpdateGeneratedLineAndColumnExactUptoCardSaid : Prop := Claim7.holds Tryd.pinned (.plain (OpenSpec.upto fnUpdateGeneratedLineAndColumnExactSpec)) fnUpdateGeneratedLineAndColumnExactUptoCard
end Rows
end Go.Proofs.YtmakaafjkeeooacDoor
