/-
  DERIVED. GIVEN WITH THE SEED: THE CARDS: each row of YtmhiekokjogkhaaFmtRows.lean that lists a variable, with what it lists TIED to the program's text (the seventh form; the later family's looks); each row that meets fmt, with fmt's text TOLD by the authors' own Lean function (tested against real Go, not proved from fmt's source: count such statements apart). THE CARD IS WHAT COUNTS. Prove the row's statement (the work); the ties are given (YtmhiekokjogkhaaFmtTie.lean); close each card by the builder's one call (the guide's Derived/Test/ToyasCard.lean, 'card_holds'). Laid BY PROGRAM, IN A SANDBOX (cutbox-door.mjs). By AI agents, Wed Nov 11 2026. No macro, syntax, notation, axiom, sorry.
-/
import Derived.Test.YtmhiekokjogkhaaFmtRows
import GoSem.ClaimSeven
namespace Go.Proofs.YtmhiekokjogkhaaFmt
namespace Rows

/-- THE TOLD AND TIED CARD OF 'n011_125.FnPrintIdentAsciiEscapesExact'. -/
def fnPrintIdentAsciiEscapesExactCard : Claim7 := { stood := { row := fnPrintIdentAsciiEscapesExactRow, standIns := [], harness := (true, "b71fca3f40ba3d49d7245d910d607a14ef214b073244d314a6c2cf0bdcdb525e"), looks := false }, told := true, laidByText := true, laidKinds := [.data, .pinned], laidTests := true, laidLooks := .later, goes := false }
def FnPrintIdentAsciiEscapesExactToldSaid : Prop := Claim7.holds Tryf.pinned (.plain (OpenSpec.ofChange fnPrintIdentAsciiEscapesExactSpec)) fnPrintIdentAsciiEscapesExactCard
/-- ITS FALSE NEIGHBOUR. Refute it at one input. -/
def FnPrintIdentAsciiEscapesExactToldWrongFalsely : Prop := Claim7.holds Tryf.pinned (.plain (OpenSpec.ofChange fnPrintIdentAsciiEscapesExactWrong)) fnPrintIdentAsciiEscapesExactCard
end Rows
end Go.Proofs.YtmhiekokjogkhaaFmt
