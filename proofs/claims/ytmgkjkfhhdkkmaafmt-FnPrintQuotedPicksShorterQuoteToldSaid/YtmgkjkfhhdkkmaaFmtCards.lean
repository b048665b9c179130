/-
  DERIVED. GIVEN WITH THE SEED: THE CARDS: each row of YtmgkjkfhhdkkmaaFmtRows.lean that lists a variable, with what it lists TIED to the program's text (the seventh form; the later family's looks); each row that meets fmt, with fmt's text TOLD by the authors' own Lean function (tested against real Go, not proved from fmt's source: count such statements apart). THE CARD IS WHAT COUNTS. Prove the row's statement (the work); the ties are given (YtmgkjkfhhdkkmaaFmtTie.lean); close each card by the builder's one call (the guide's Derived/Test/ToyasCard.lean, 'card_holds'). Laid BY PROGRAM, IN A SANDBOX (cutbox-door.mjs). By AI agents, Wed Nov 11 2026. No macro, syntax, notation, axiom, sorry.
-/
import Derived.Test.YtmgkjkfhhdkkmaaFmtRows
import GoSem.ClaimSeven
namespace Go.Proofs.YtmgkjkfhhdkkmaaFmt
namespace Rows

/-- THE TOLD AND TIED CARD OF 'n011_104.FnPrintQuotedPicksShorterQuote'. -/
def fnPrintQuotedPicksShorterQuoteCard : Claim7 := { stood := { row := fnPrintQuotedPicksShorterQuoteRow, standIns := [], harness := (true, "cce5fe4c13965dae4e3eeafabc7b72453b5afd758e10bb68c360e01a47abe9d8"), looks := false }, told := true, laidByText := true, laidKinds := [.data, .data, .data, .pinned, .pinned], laidTests := true, laidLooks := .later, goes := false }
def FnPrintQuotedPicksShorterQuoteToldSaid : Prop := Claim7.holds Tryf.pinned (.plain (OpenSpec.ofChange fnPrintQuotedPicksShorterQuoteSpec)) fnPrintQuotedPicksShorterQuoteCard
/-- ITS FALSE NEIGHBOUR. Refute it at one input. -/
def FnPrintQuotedPicksShorterQuoteToldWrongFalsely : Prop := Claim7.holds Tryf.pinned (.plain (OpenSpec.ofChange fnPrintQuotedPicksShorterQuoteWrong)) fnPrintQuotedPicksShorterQuoteCard
end Rows
end Go.Proofs.YtmgkjkfhhdkkmaaFmt
