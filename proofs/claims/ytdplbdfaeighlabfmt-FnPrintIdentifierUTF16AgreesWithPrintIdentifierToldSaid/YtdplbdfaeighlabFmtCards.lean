/-
  DERIVED. GIVEN WITH THE SEED: THE CARDS: each row of YtdplbdfaeighlabFmtRows.lean that lists a variable, with what it lists TIED to the program's text (the seventh form; the later family's looks); each row that meets fmt, with fmt's text TOLD by the authors' own Lean function (tested against real Go, not proved from fmt's source: count such statements apart). THE CARD IS WHAT COUNTS. Prove the row's statement (the work); the ties are given (YtdplbdfaeighlabFmtTie.lean); close each card by the builder's one call (the guide's Derived/Test/ToyasCard.lean, 'card_holds'). Laid BY PROGRAM, IN A SANDBOX (cutbox-door.mjs). By AI agents, Wed Nov 11 2026. No macro, syntax, notation, axiom, sorry.
-/
import Derived.Test.YtdplbdfaeighlabFmtRows
import GoSem.ClaimSeven
namespace Go.Proofs.YtdplbdfaeighlabFmt
namespace Rows

/-- THE TOLD CARD OF 'n011_208.FnPrintIdentifierUTF16AgreesWithPrintIdentifier'. -/
def fnPrintIdentifierUTF16AgreesWithPrintIdentifierCard : Claim7 := { stood := { row := fnPrintIdentifierUTF16AgreesWithPrintIdentifierRow, standIns := [], harness := (true, "2811903b8c4a45dd05a9479287396cfa1f1f19c0a19440e82d1289dc40e18439"), looks := false }, told := true, goes := false }
def FnPrintIdentifierUTF16AgreesWithPrintIdentifierToldSaid : Prop := Claim7.holds Tryf.pinned (.plain (OpenSpec.ofChange fnPrintIdentifierUTF16AgreesWithPrintIdentifierSpec)) fnPrintIdentifierUTF16AgreesWithPrintIdentifierCard
/-- ITS FALSE NEIGHBOUR. Refute it at one input. -/
def FnPrintIdentifierUTF16AgreesWithPrintIdentifierToldWrongFalsely : Prop := Claim7.holds Tryf.pinned (.plain (OpenSpec.ofChange fnPrintIdentifierUTF16AgreesWithPrintIdentifierWrong)) fnPrintIdentifierUTF16AgreesWithPrintIdentifierCard
end Rows
end Go.Proofs.YtdplbdfaeighlabFmt
