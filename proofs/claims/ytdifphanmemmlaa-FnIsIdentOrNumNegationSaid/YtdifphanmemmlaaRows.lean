/-
  No cell of these rows narrows 'for every input' (looked for: loops, veiled, ifaces, maps, wideKeys, modest, calm, conditions, laid).
  DERIVED. THE GIVEN ROWS OF THIS SEAT. 6 by the template 'for every input the law returns true; each argument reads behind the call as it read before'; 0 by the template 'total and deterministic' (their statements: YtdifphanmemmlaaTotals.lean).
  GIVEN WITH THE SEED: the statements are not yours to turn. If you find one false, say at which input.
  Laid BY PROGRAM, IN A SANDBOX (cutbox-rows.mjs): the forced cells as the released guide's own fill.sh prints them over the translation ece75408b31cf647… (all of the seat's roots in one cut). By AI agents, Wed Nov 11 2026. No macro, syntax, notation, axiom, sorry.
-/
import Derived.Test.YtdifphanmemmlaaChecked
import GoSem.Claim
import GoSem.ClaimJoined
import GoSem.ClaimMapViews
import Derived.JoinedTies
import Derived.KernelRfl
namespace Go.Proofs.Ytdifphanmemmlaa
/- THE CELL 'sum', in the pinned program and in every row, IS THE sha256 OF THE DUMP (.gsa) THAT YtdifphanmemmlaaProg.lean LOADS. Nothing in Lean hashes anything: it is a label: what it is worth is what the hold of that sum in a sandbox is worth. -/
noncomputable def Try.pinned : Pinned := { name := "ytdifphanmemmlaa", sum := "ece75408b31cf647dfa82b83eb4dcb664da34be8de319d7b22f81706f8e81b6f", checked := Try.checked }
namespace Rows
def none {H : Type} : Left H := { results := [], args := [] }

/-- 'n011_230.FnIsUpperASCIIModel': WHATEVER THE INPUT: true; the input reads as it did. -/
def fnIsUpperASCIIModelSpec : ChangeSpec := { name := "fnIsUpperASCIIModel", fn := fun _ => fun
  | [d] => { results := [.lit (.bool true)], args := [d] }
  | _ => none }
def fnIsUpperASCIIModelRow : OpenClaim := { program := "ytdifphanmemmlaa", sum := "ece75408b31cf647dfa82b83eb4dcb664da34be8de319d7b22f81706f8e81b6f", func := "github.com/evanw/esbuild/n011_230.FnIsUpperASCIIModel", spec := "fnIsUpperASCIIModel", plainKeys := false, apart := false }
def FnIsUpperASCIIModelSaid : Prop := fnIsUpperASCIIModelRow.holds Try.pinned (OpenSpec.ofChange fnIsUpperASCIIModelSpec)

/-- ITS FALSE NEIGHBOUR: 'it returns false'. Refute it at one input. -/
def fnIsUpperASCIIModelWrong : ChangeSpec := { name := "fnIsUpperASCIIModel", fn := fun _ => fun
  | [d] => { results := [.lit (.bool false)], args := [d] }
  | _ => none }
def FnIsUpperASCIIModelWrongFalsely : Prop := fnIsUpperASCIIModelRow.holds Try.pinned (OpenSpec.ofChange fnIsUpperASCIIModelWrong)

/-- 'n011_29.FnSlotLessMatchesPackedKey': WHATEVER THE INPUT: true; the input reads as it did. -/
def fnSlotLessMatchesPackedKeySpec : ChangeSpec := { name := "fnSlotLessMatchesPackedKey", fn := fun _ => fun
  | [d1, d2, d3, d4] => { results := [.lit (.bool true)], args := [d1, d2, d3, d4] }
  | _ => none }
def fnSlotLessMatchesPackedKeyRow : OpenClaim := { program := "ytdifphanmemmlaa", sum := "ece75408b31cf647dfa82b83eb4dcb664da34be8de319d7b22f81706f8e81b6f", func := "github.com/evanw/esbuild/n011_29.FnSlotLessMatchesPackedKey", spec := "fnSlotLessMatchesPackedKey", plainKeys := false, apart := false }
def FnSlotLessMatchesPackedKeySaid : Prop := fnSlotLessMatchesPackedKeyRow.holds Try.pinned (OpenSpec.ofChange fnSlotLessMatchesPackedKeySpec)

/-- ITS FALSE NEIGHBOUR: 'it returns false'. Refute it at one input. -/
def fnSlotLessMatchesPackedKeyWrong : ChangeSpec := { name := "fnSlotLessMatchesPackedKey", fn := fun _ => fun
  | [d1, d2, d3, d4] => { results := [.lit (.bool false)], args := [d1, d2, d3, d4] }
  | _ => none }
def FnSlotLessMatchesPackedKeyWrongFalsely : Prop := fnSlotLessMatchesPackedKeyRow.holds Try.pinned (OpenSpec.ofChange fnSlotLessMatchesPackedKeyWrong)

/-- 'n011_146.FnIsBrowserClosedForm': WHATEVER THE INPUT: true; the input reads as it did. -/
def fnIsBrowserClosedFormSpec : ChangeSpec := { name := "fnIsBrowserClosedForm", fn := fun _ => fun
  | [d] => { results := [.lit (.bool true)], args := [d] }
  | _ => none }
def fnIsBrowserClosedFormRow : OpenClaim := { program := "ytdifphanmemmlaa", sum := "ece75408b31cf647dfa82b83eb4dcb664da34be8de319d7b22f81706f8e81b6f", func := "github.com/evanw/esbuild/n011_146.FnIsBrowserClosedForm", spec := "fnIsBrowserClosedForm", plainKeys := false, apart := false }
def FnIsBrowserClosedFormSaid : Prop := fnIsBrowserClosedFormRow.holds Try.pinned (OpenSpec.ofChange fnIsBrowserClosedFormSpec)

/-- ITS FALSE NEIGHBOUR: 'it returns false'. Refute it at one input. -/
def fnIsBrowserClosedFormWrong : ChangeSpec := { name := "fnIsBrowserClosedForm", fn := fun _ => fun
  | [d] => { results := [.lit (.bool false)], args := [d] }
  | _ => none }
def FnIsBrowserClosedFormWrongFalsely : Prop := fnIsBrowserClosedFormRow.holds Try.pinned (OpenSpec.ofChange fnIsBrowserClosedFormWrong)

/-- 'n011_69.FnIsIdentOrNumNegation': WHATEVER THE INPUT: true; the input reads as it did. -/
def fnIsIdentOrNumNegationSpec : ChangeSpec := { name := "fnIsIdentOrNumNegation", fn := fun _ => fun
  | [d] => { results := [.lit (.bool true)], args := [d] }
  | _ => none }
def fnIsIdentOrNumNegationRow : OpenClaim := { program := "ytdifphanmemmlaa", sum := "ece75408b31cf647dfa82b83eb4dcb664da34be8de319d7b22f81706f8e81b6f", func := "github.com/evanw/esbuild/n011_69.FnIsIdentOrNumNegation", spec := "fnIsIdentOrNumNegation", inPlace := ["math.Float64bits", "math.Float64frombits"], plainKeys := false, apart := false }
def FnIsIdentOrNumNegationSaid : Prop := fnIsIdentOrNumNegationRow.holds Try.pinned (OpenSpec.ofChange fnIsIdentOrNumNegationSpec)

/-- ITS FALSE NEIGHBOUR: 'it returns false'. Refute it at one input. -/
def fnIsIdentOrNumNegationWrong : ChangeSpec := { name := "fnIsIdentOrNumNegation", fn := fun _ => fun
  | [d] => { results := [.lit (.bool false)], args := [d] }
  | _ => none }
def FnIsIdentOrNumNegationWrongFalsely : Prop := fnIsIdentOrNumNegationRow.holds Try.pinned (OpenSpec.ofChange fnIsIdentOrNumNegationWrong)

/-- 'n011_146.FnApplyOverridesMatchesBitModel': WHATEVER THE INPUT: true; the input reads as it did. -/
def fnApplyOverridesMatchesBitModelSpec : ChangeSpec := { name := "fnApplyOverridesMatchesBitModel", fn := fun _ => fun
  | [d1, d2, d3] => { results := [.lit (.bool true)], args := [d1, d2, d3] }
  | _ => none }
def fnApplyOverridesMatchesBitModelRow : OpenClaim := { program := "ytdifphanmemmlaa", sum := "ece75408b31cf647dfa82b83eb4dcb664da34be8de319d7b22f81706f8e81b6f", func := "github.com/evanw/esbuild/n011_146.FnApplyOverridesMatchesBitModel", spec := "fnApplyOverridesMatchesBitModel", plainKeys := false, apart := false }
def FnApplyOverridesMatchesBitModelSaid : Prop := fnApplyOverridesMatchesBitModelRow.holds Try.pinned (OpenSpec.ofChange fnApplyOverridesMatchesBitModelSpec)

/-- ITS FALSE NEIGHBOUR: 'it returns false'. Refute it at one input. -/
def fnApplyOverridesMatchesBitModelWrong : ChangeSpec := { name := "fnApplyOverridesMatchesBitModel", fn := fun _ => fun
  | [d1, d2, d3] => { results := [.lit (.bool false)], args := [d1, d2, d3] }
  | _ => none }
def FnApplyOverridesMatchesBitModelWrongFalsely : Prop := fnApplyOverridesMatchesBitModelRow.holds Try.pinned (OpenSpec.ofChange fnApplyOverridesMatchesBitModelWrong)

/-- 'n011_156.FnCSSFeatureHasAfterOverrides': WHATEVER THE INPUT: true; the input reads as it did. -/
def fnCSSFeatureHasAfterOverridesSpec : ChangeSpec := { name := "fnCSSFeatureHasAfterOverrides", fn := fun _ => fun
  | [d1, d2, d3, d4] => { results := [.lit (.bool true)], args := [d1, d2, d3, d4] }
  | _ => none }
def fnCSSFeatureHasAfterOverridesRow : OpenClaim := { program := "ytdifphanmemmlaa", sum := "ece75408b31cf647dfa82b83eb4dcb664da34be8de319d7b22f81706f8e81b6f", func := "github.com/evanw/esbuild/n011_156.FnCSSFeatureHasAfterOverrides", spec := "fnCSSFeatureHasAfterOverrides", plainKeys := false, apart := false }
def FnCSSFeatureHasAfterOverridesSaid : Prop := fnCSSFeatureHasAfterOverridesRow.holds Try.pinned (OpenSpec.ofChange fnCSSFeatureHasAfterOverridesSpec)

/-- ITS FALSE NEIGHBOUR: 'it returns false'. Refute it at one input. -/
def fnCSSFeatureHasAfterOverridesWrong : ChangeSpec := { name := "fnCSSFeatureHasAfterOverrides", fn := fun _ => fun
  | [d1, d2, d3, d4] => { results := [.lit (.bool false)], args := [d1, d2, d3, d4] }
  | _ => none }
def FnCSSFeatureHasAfterOverridesWrongFalsely : Prop := fnCSSFeatureHasAfterOverridesRow.holds Try.pinned (OpenSpec.ofChange fnCSSFeatureHasAfterOverridesWrong)

/- THE SECOND FORM. 'bulk': how many values and letters a reading holds, each counted each time it is reached (what is shared counts as often as it is met; a slice's spare places count too). A statement '..UptoSaid' is the law's where the arguments, and the package variables that the reading takes, are together of bulk at most 1048576: NARROWER than '..Said'. Prove '..Said' where nothing that the law and all that it calls make is longer than what came in: it says more and counts as full. Else prove '..UptoSaid'. A law counts once. -/
mutual
def uptoBulk {H : Type} : DataW H → Nat
  | .lit (.string bytes) => bytes.length + 1
  | .lit _ => 1
  | .nil => 1
  | .ptr d => uptoBulk d + 1
  | .slice elems spare => uptoBulkAll elems + uptoBulkAll spare + 1
  | .agg parts => uptoBulkAll parts + 1
  | .iface _ d => uptoBulk d + 1
  | .map entries => uptoBulkEntries entries + 1
  | .held _ => 1
def uptoBulkAll {H : Type} : List (DataW H) → Nat
  | [] => 0
  | d :: r => uptoBulk d + uptoBulkAll r
def uptoBulkEntries {H : Type} : List (Lit × DataW H) → Nat
  | [] => 0
  | x :: r => uptoBulkEntry x + uptoBulkEntries r
def uptoBulkEntry {H : Type} : Lit × DataW H → Nat
  | (.string bytes, d) => bytes.length + uptoBulk d + 1
  | (_, d) => uptoBulk d + 1
 end
def uptoSmall : (H : Type) → List (DataW H) → Bool := fun _ ds => decide (uptoBulkAll ds ≤ 1048576)
def OpenSpec.upto (s : _root_.Go.ChangeSpec) : _root_.Go.OpenSpec := { _root_.Go.OpenSpec.ofChange s with cond := some uptoSmall }

/-- 'n011_230.FnIsUpperASCIIModel', WHERE WHAT IT READS IS OF BULK AT MOST 1048576: true; the input reads as it did. -/
def fnIsUpperASCIIModelUptoRow : OpenClaim := { program := "ytdifphanmemmlaa", sum := "ece75408b31cf647dfa82b83eb4dcb664da34be8de319d7b22f81706f8e81b6f", func := "github.com/evanw/esbuild/n011_230.FnIsUpperASCIIModel", spec := "fnIsUpperASCIIModel", plainKeys := false, apart := false, narrowed := true }
def FnIsUpperASCIIModelUptoSaid : Prop := fnIsUpperASCIIModelUptoRow.holds Try.pinned (OpenSpec.upto fnIsUpperASCIIModelSpec)

/-- 'n011_29.FnSlotLessMatchesPackedKey', WHERE WHAT IT READS IS OF BULK AT MOST 1048576: true; the input reads as it did. -/
def fnSlotLessMatchesPackedKeyUptoRow : OpenClaim := { program := "ytdifphanmemmlaa", sum := "ece75408b31cf647dfa82b83eb4dcb664da34be8de319d7b22f81706f8e81b6f", func := "github.com/evanw/esbuild/n011_29.FnSlotLessMatchesPackedKey", spec := "fnSlotLessMatchesPackedKey", plainKeys := false, apart := false, narrowed := true }
def FnSlotLessMatchesPackedKeyUptoSaid : Prop := fnSlotLessMatchesPackedKeyUptoRow.holds Try.pinned (OpenSpec.upto fnSlotLessMatchesPackedKeySpec)

/-- 'n011_146.FnIsBrowserClosedForm', WHERE WHAT IT READS IS OF BULK AT MOST 1048576: true; the input reads as it did. -/
def fnIsBrowserClosedFormUptoRow : OpenClaim := { program := "ytdifphanmemmlaa", sum := "ece75408b31cf647dfa82b83eb4dcb664da34be8de319d7b22f81706f8e81b6f", func := "github.com/evanw/esbuild/n011_146.FnIsBrowserClosedForm", spec := "fnIsBrowserClosedForm", plainKeys := false, apart := false, narrowed := true }
def FnIsBrowserClosedFormUptoSaid : Prop := fnIsBrowserClosedFormUptoRow.holds Try.pinned (OpenSpec.upto fnIsBrowserClosedFormSpec)

/-- 'n011_69.FnIsIdentOrNumNegation', WHERE WHAT IT READS IS OF BULK AT MOST 1048576: true; the input reads as it did. -/
def fnIsIdentOrNumNegationUptoRow : OpenClaim := { program := "ytdifphanmemmlaa", sum := "ece75408b31cf647dfa82b83eb4dcb664da34be8de319d7b22f81706f8e81b6f", func := "github.com/evanw/esbuild/n011_69.FnIsIdentOrNumNegation", spec := "fnIsIdentOrNumNegation", inPlace := ["math.Float64bits", "math.Float64frombits"], plainKeys := false, apart := false, narrowed := true }
def FnIsIdentOrNumNegationUptoSaid : Prop := fnIsIdentOrNumNegationUptoRow.holds Try.pinned (OpenSpec.upto fnIsIdentOrNumNegationSpec)

/-- 'n011_146.FnApplyOverridesMatchesBitModel', WHERE WHAT IT READS IS OF BULK AT MOST 1048576: true; the input reads as it did. -/
def fnApplyOverridesMatchesBitModelUptoRow : OpenClaim := { program := "ytdifphanmemmlaa", sum := "ece75408b31cf647dfa82b83eb4dcb664da34be8de319d7b22f81706f8e81b6f", func := "github.com/evanw/esbuild/n011_146.FnApplyOverridesMatchesBitModel", spec := "fnApplyOverridesMatchesBitModel", plainKeys := false, apart := false, narrowed := true }
def FnApplyOverridesMatchesBitModelUptoSaid : Prop := fnApplyOverridesMatchesBitModelUptoRow.holds Try.pinned (OpenSpec.upto fnApplyOverridesMatchesBitModelSpec)

/-- 'n011_156.FnCSSFeatureHasAfterOverrides', WHERE WHAT IT READS IS OF BULK AT MOST 1048576: true; the input reads as it did. -/
def fnCSSFeatureHasAfterOverridesUptoRow : OpenClaim := { program := "ytdifphanmemmlaa", sum := "ece75408b31cf647dfa82b83eb4dcb664da34be8de319d7b22f81706f8e81b6f", func := "github.com/evanw/esbuild/n011_156.FnCSSFeatureHasAfterOverrides", spec := "fnCSSFeatureHasAfterOverrides", plainKeys := false, apart := false, narrowed := true }
def FnCSSFeatureHasAfterOverridesUptoSaid : Prop := fnCSSFeatureHasAfterOverridesUptoRow.holds Try.pinned (OpenSpec.upto fnCSSFeatureHasAfterOverridesSpec)

end Rows
end Go.Proofs.Ytdifphanmemmlaa
