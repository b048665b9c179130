/-
  No cell of these rows narrows 'for every input' (looked for: loops, veiled, ifaces, maps, wideKeys, modest, calm, conditions, laid).
  DERIVED. THE GIVEN ROWS OF THIS SEAT. 1 by the template 'for every input the law returns true; each argument reads behind the call as it read before'; 0 by the template 'total and deterministic' (their statements: YtdplbdfaeighlabFmtTotals.lean).
  GIVEN WITH THE SEED: the statements are not yours to turn. If you find one false, say at which input.
  Laid BY PROGRAM, IN A SANDBOX (cutbox-rows.mjs): the forced cells as the released guide's own fill.sh prints them over the translation 2c3438ef6f6e3bdf… (all of the seat's roots in one cut). By AI agents, Wed Nov 11 2026. No macro, syntax, notation, axiom, sorry.
-/
import Derived.Test.YtdplbdfaeighlabFmtChecked
import GoSem.Claim
import GoSem.ClaimJoined
import GoSem.ClaimMapViews
import Derived.JoinedTies
import Derived.KernelRfl
namespace Go.Proofs.YtdplbdfaeighlabFmt
/- THE CELL 'sum', in the pinned program and in every row, IS THE sha256 OF THE DUMP (.gsa) THAT YtdplbdfaeighlabFmtProg.lean LOADS. Nothing in Lean hashes anything: it is a label: what it is worth is what the hold of that sum in a sandbox is worth. -/
noncomputable def Tryf.pinned : Pinned := { name := "ytdplbdfaeighlabfmt", sum := "2c3438ef6f6e3bdf721e040dee95100474efb47faf9556ee3058752daba308fa", checked := Tryf.checked }
namespace Rows
def none {H : Type} : Left H := { results := [], args := [] }

/-- 'n011_208.FnPrintIdentifierUTF16AgreesWithPrintIdentifier': WHATEVER THE INPUT: true; the input reads as it did. -/
def fnPrintIdentifierUTF16AgreesWithPrintIdentifierSpec : ChangeSpec := { name := "fnPrintIdentifierUTF16AgreesWithPrintIdentifier", fn := fun _ => fun
  | [d1, d2] => { results := [.lit (.bool true)], args := [d1, d2] }
  | _ => none }
def fnPrintIdentifierUTF16AgreesWithPrintIdentifierRow : OpenClaim := { program := "ytdplbdfaeighlabfmt", sum := "2c3438ef6f6e3bdf721e040dee95100474efb47faf9556ee3058752daba308fa", func := "github.com/evanw/esbuild/n011_208.FnPrintIdentifierUTF16AgreesWithPrintIdentifier", spec := "fnPrintIdentifierUTF16AgreesWithPrintIdentifier", stops := ["fmt.Sprintf"], inPlace := ["fmt.Sprintf"], plainKeys := false, apart := false }
/-- NO THEOREM (fmt's text is open here; it may be false): for the released tool's asking of the row's closed facts alone. THE STATEMENT IS 'FnPrintIdentifierUTF16AgreesWithPrintIdentifierToldSaid' (YtdplbdfaeighlabFmtCards.lean). -/
def FnPrintIdentifierUTF16AgreesWithPrintIdentifierFormAsk : Prop := fnPrintIdentifierUTF16AgreesWithPrintIdentifierRow.holds Tryf.pinned (OpenSpec.ofChange fnPrintIdentifierUTF16AgreesWithPrintIdentifierSpec)

/-- ITS FALSE NEIGHBOUR: 'it returns false'. Refute it at one input. -/
def fnPrintIdentifierUTF16AgreesWithPrintIdentifierWrong : ChangeSpec := { name := "fnPrintIdentifierUTF16AgreesWithPrintIdentifier", fn := fun _ => fun
  | [d1, d2] => { results := [.lit (.bool false)], args := [d1, d2] }
  | _ => none }
def FnPrintIdentifierUTF16AgreesWithPrintIdentifierWrongFormAsk : Prop := fnPrintIdentifierUTF16AgreesWithPrintIdentifierRow.holds Tryf.pinned (OpenSpec.ofChange fnPrintIdentifierUTF16AgreesWithPrintIdentifierWrong)

end Rows
end Go.Proofs.YtdplbdfaeighlabFmt
