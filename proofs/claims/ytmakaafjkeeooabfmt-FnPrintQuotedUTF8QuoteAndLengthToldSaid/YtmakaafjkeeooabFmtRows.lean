/-
  No cell of these rows narrows 'for every input' (looked for: loops, veiled, ifaces, maps, wideKeys, modest, calm, conditions, laid).
  DERIVED. THE GIVEN ROWS OF THIS SEAT. 1 by the template 'for every input the law returns true; each argument reads behind the call as it read before'; 0 by the template 'total and deterministic' (their statements: YtmakaafjkeeooabFmtTotals.lean).
  GIVEN WITH THE SEED: the statements are not yours to turn. If you find one false, say at which input.
  Laid BY PROGRAM, IN A SANDBOX (cutbox-rows.mjs): the forced cells as the released guide's own fill.sh prints them over the translation ee84c2fbb9539c6a… (all of the seat's roots in one cut). By AI agents, Wed Nov 11 2026. No macro, syntax, notation, axiom, sorry.
-/
import Derived.Test.YtmakaafjkeeooabFmtChecked
import GoSem.Claim
import GoSem.ClaimJoined
import GoSem.ClaimMapViews
import Derived.JoinedTies
import Derived.KernelRfl
namespace Go.Proofs.YtmakaafjkeeooabFmt
/- THE CELL 'sum', in the pinned program and in every row, IS THE sha256 OF THE DUMP (.gsa) THAT YtmakaafjkeeooabFmtProg.lean LOADS. Nothing in Lean hashes anything: it is a label: what it is worth is what the hold of that sum in a sandbox is worth. -/
noncomputable def Tryf.pinned : Pinned := { name := "ytmakaafjkeeooabfmt", sum := "ee84c2fbb9539c6af91694116df20d99256a1cf1b3abd9a9f6ef31e19c0e5ab6", checked := Tryf.checked }
namespace Rows
def none {H : Type} : Left H := { results := [], args := [] }

/-- 'n011_144.FnPrintQuotedUTF8QuoteAndLength': WHATEVER THE INPUT: true; the input reads as it did. -/
def fnPrintQuotedUTF8QuoteAndLengthSpec : ChangeSpec := { name := "fnPrintQuotedUTF8QuoteAndLength", fn := fun _ => fun
  | [d1, d2, d3, d4] => { results := [.lit (.bool true)], args := [d1, d2, d3, d4] }
  | _ => none }
def fnPrintQuotedUTF8QuoteAndLengthRow : OpenClaim := { program := "ytmakaafjkeeooabfmt", sum := "ee84c2fbb9539c6af91694116df20d99256a1cf1b3abd9a9f6ef31e19c0e5ab6", func := "github.com/evanw/esbuild/n011_144.FnPrintQuotedUTF8QuoteAndLength", spec := "fnPrintQuotedUTF8QuoteAndLength", stops := ["fmt.Sprintf"], inPlace := ["fmt.Sprintf"], plainKeys := false, apart := false }
/-- NO THEOREM (fmt's text is open here; it may be false): for the released tool's asking of the row's closed facts alone. THE STATEMENT IS 'FnPrintQuotedUTF8QuoteAndLengthToldSaid' (YtmakaafjkeeooabFmtCards.lean). -/
def FnPrintQuotedUTF8QuoteAndLengthFormAsk : Prop := fnPrintQuotedUTF8QuoteAndLengthRow.holds Tryf.pinned (OpenSpec.ofChange fnPrintQuotedUTF8QuoteAndLengthSpec)

/-- ITS FALSE NEIGHBOUR: 'it returns false'. Refute it at one input. -/
def fnPrintQuotedUTF8QuoteAndLengthWrong : ChangeSpec := { name := "fnPrintQuotedUTF8QuoteAndLength", fn := fun _ => fun
  | [d1, d2, d3, d4] => { results := [.lit (.bool false)], args := [d1, d2, d3, d4] }
  | _ => none }
def FnPrintQuotedUTF8QuoteAndLengthWrongFormAsk : Prop := fnPrintQuotedUTF8QuoteAndLengthRow.holds Tryf.pinned (OpenSpec.ofChange fnPrintQuotedUTF8QuoteAndLengthWrong)

end Rows
end Go.Proofs.YtmakaafjkeeooabFmt
