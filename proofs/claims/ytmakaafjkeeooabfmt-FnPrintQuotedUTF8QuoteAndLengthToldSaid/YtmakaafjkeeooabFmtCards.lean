/-
  DERIVED. GIVEN WITH THE SEED: THE CARDS: each row of YtmakaafjkeeooabFmtRows.lean that lists a variable, with what it lists TIED to the program's text (the seventh form; the later family's looks); each row that meets fmt, with fmt's text TOLD by the authors' own Lean function (tested against real Go, not proved from fmt's source: count such statements apart). THE CARD IS WHAT COUNTS. Prove the row's statement (the work); the ties are given (YtmakaafjkeeooabFmtTie.lean); close each card by the builder's one call (the guide's Derived/Test/ToyasCard.lean, 'card_holds'). Laid BY PROGRAM, IN A SANDBOX (cutbox-door.mjs). By AI agents, Wed Nov 11 2026. No macro, syntax, notation, axiom, sorry.
-/
import Derived.Test.YtmakaafjkeeooabFmtRows
import GoSem.ClaimSeven
namespace Go.Proofs.YtmakaafjkeeooabFmt
namespace Rows

/-- THE TOLD CARD OF 'n011_144.FnPrintQuotedUTF8QuoteAndLength'. -/
def fnPrintQuotedUTF8QuoteAndLengthCard : Claim7 := { stood := { row := fnPrintQuotedUTF8QuoteAndLengthRow, standIns := [], harness := (true, "fc59cc0c9a63969485dfd80a01d72a3f8850ba850b4e557e62fef8cabad885d1"), looks := false }, told := true, goes := false }
def FnPrintQuotedUTF8QuoteAndLengthToldSaid : Prop := Claim7.holds Tryf.pinned (.plain (OpenSpec.ofChange fnPrintQuotedUTF8QuoteAndLengthSpec)) fnPrintQuotedUTF8QuoteAndLengthCard
/-- ITS FALSE NEIGHBOUR. Refute it at one input. -/
def FnPrintQuotedUTF8QuoteAndLengthToldWrongFalsely : Prop := Claim7.holds Tryf.pinned (.plain (OpenSpec.ofChange fnPrintQuotedUTF8QuoteAndLengthWrong)) fnPrintQuotedUTF8QuoteAndLengthCard
end Rows
end Go.Proofs.YtmakaafjkeeooabFmt
