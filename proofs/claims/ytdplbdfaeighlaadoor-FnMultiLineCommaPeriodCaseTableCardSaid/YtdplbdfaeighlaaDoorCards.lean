/-
  DERIVED. GIVEN WITH THE SEED: THE CARDS: each row of YtdplbdfaeighlaaDoorRows.lean that lists a variable, with what it lists TIED to the program's text (the seventh form; the later family's looks); each row that meets fmt, with fmt's text TOLD by the authors' own Lean function (tested against real Go, not proved from fmt's source: count such statements apart). THE CARD IS WHAT COUNTS. Prove the row's statement (the work); the ties are given (YtdplbdfaeighlaaDoorTie.lean); close each card by the builder's one call (the guide's Derived/Test/ToyasCard.lean, 'card_holds'). Laid BY PROGRAM, IN A SANDBOX (cutbox-door.mjs). By AI agents, Wed Nov 11 2026. No macro, syntax, notation, axiom, sorry.
-/
import Derived.Test.YtdplbdfaeighlaaDoorRows
import GoSem.ClaimSeven
namespace Go.Proofs.YtdplbdfaeighlaaDoor
namespace Rows

/-- THE TIED CARD OF 'n011_165.FnMultiLineCommaPeriodCaseTable'. -/
def fnMultiLineCommaPeriodCaseTableCard : Claim7 := { stood := { row := fnMultiLineCommaPeriodCaseTableRow, standIns := [], harness := (true, "54c4891d400e93ecefaa96033768ecd705794a30bd23dd3d199f816bcb4011aa"), looks := false }, kinds := [], alts := [], laidByText := true, laidKinds := [.data, .pinned, .pinned], laidTests := true, laidLooks := .later }
def FnMultiLineCommaPeriodCaseTableCardSaid : Prop := Claim7.holds Tryd.pinned (.plain (OpenSpec.ofChange fnMultiLineCommaPeriodCaseTableSpec)) fnMultiLineCommaPeriodCaseTableCard

/-- THE SECOND FORM's CARD OF 'n011_165.FnMultiLineCommaPeriodCaseTable'. -/
def fnMultiLineCommaPeriodCaseTableUptoCard : Claim7 := { stood := { row := fnMultiLineCommaPeriodCaseTableUptoRow, standIns := [], harness := (true, "54c4891d400e93ecefaa96033768ecd705794a30bd23dd3d199f816bcb4011aa"), looks := false }, kinds := [], alts := [], laidByText := true, laidKinds := [.data, .pinned, .pinned], laidTests := true, laidLooks := .later }
def FnMultiLineCommaPeriodCaseTableUptoCardSaid : Prop := Claim7.holds Tryd.pinned (.plain (OpenSpec.upto fnMultiLineCommaPeriodCaseTableSpec)) fnMultiLineCommaPeriodCaseTableUptoCard
end Rows
end Go.Proofs.YtdplbdfaeighlaaDoor
