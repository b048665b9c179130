/-
  DERIVED. GIVEN WITH THE SEED: THE CARDS: each row of YtfljkbfacncdgaaDoorRows.lean that lists a variable, with what it lists TIED to the program's text (the seventh form; the later family's looks); each row that meets fmt, with fmt's text TOLD by the authors' own Lean function (tested against real Go, not proved from fmt's source: count such statements apart). THE CARD IS WHAT COUNTS. Prove the row's statement (the work); the ties are given (YtfljkbfacncdgaaDoorTie.lean); close each card by the builder's one call (the guide's Derived/Test/ToyasCard.lean, 'card_holds'). Laid BY PROGRAM, IN A SANDBOX (cutbox-door.mjs). By AI agents, Wed Nov 11 2026. No macro, syntax, notation, axiom, sorry.
-/
import Derived.Test.YtfljkbfacncdgaaDoorRows
import GoSem.ClaimSeven
namespace Go.Proofs.YtfljkbfacncdgaaDoor
namespace Rows

/-- THE TIED CARD OF 'n011_196.FnEnforceNoCyclicChunkImportsErrsIffStaticCycle'. -/
def fnEnforceNoCyclicChunkImportsErrsIffStaticCycleCard : Claim7 := { stood := { row := fnEnforceNoCyclicChunkImportsErrsIffStaticCycleRow, standIns := [], harness := (true, "0198b03d40ce1361ee229b8ae9593b3bda2924f883ea19ffeef0a6af9b1ee62e"), looks := false }, kinds := [], alts := [], laidByText := true, laidKinds := [.data, .pinned], laidTests := true, laidLooks := .later }
def FnEnforceNoCyclicChunkImportsErrsIffStaticCycleCardSaid : Prop := Claim7.holds Tryd.pinned (.plain (OpenSpec.ofChange fnEnforceNoCyclicChunkImportsErrsIffStaticCycleSpec)) fnEnforceNoCyclicChunkImportsErrsIffStaticCycleCard

/-- THE SECOND FORM's CARD OF 'n011_196.FnEnforceNoCyclicChunkImportsErrsIffStaticCycle'. -/
def fnEnforceNoCyclicChunkImportsErrsIffStaticCycleUptoCard : Claim7 := { stood := { row := fnEnforceNoCyclicChunkImportsErrsIffStaticCycleUptoRow, standIns := [], harness := (true, "0198b03d40ce1361ee229b8ae9593b3bda2924f883ea19ffeef0a6af9b1ee62e"), looks := false }, kinds := [], alts := [], laidByText := true, laidKinds := [.data, .pinned], laidTests := true, laidLooks := .later }
def FnEnforceNoCyclicChunkImportsErrsIffStaticCycleUptoCardSaid : Prop := Claim7.holds Tryd.pinned (.plain (OpenSpec.upto fnEnforceNoCyclicChunkImportsErrsIffStaticCycleSpec)) fnEnforceNoCyclicChunkImportsErrsIffStaticCycleUptoCard
end Rows
end Go.Proofs.YtfljkbfacncdgaaDoor
