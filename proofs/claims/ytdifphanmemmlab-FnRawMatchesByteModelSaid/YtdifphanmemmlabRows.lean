/-
  No cell of these rows narrows 'for every input' (looked for: loops, veiled, ifaces, maps, wideKeys, modest, calm, conditions, laid).
  DERIVED. THE GIVEN ROWS OF THIS SEAT. 4 by the template 'for every input the law returns true; each argument reads behind the call as it read before'; 0 by the template 'total and deterministic' (their statements: YtdifphanmemmlabTotals.lean).
  GIVEN WITH THE SEED: the statements are not yours to turn. If you find one false, say at which input.
  Laid BY PROGRAM, IN A SANDBOX (cutbox-rows.mjs): the forced cells as the released guide's own fill.sh prints them over the translation 1faa883fedc18f1a… (all of the seat's roots in one cut). By AI agents, Wed Nov 11 2026. No macro, syntax, notation, axiom, sorry.
-/
import Derived.Test.YtdifphanmemmlabChecked
import GoSem.Claim
import GoSem.ClaimJoined
import GoSem.ClaimMapViews
import Derived.JoinedTies
import Derived.KernelRfl
namespace Go.Proofs.Ytdifphanmemmlab
/- THE CELL 'sum', in the pinned program and in every row, IS THE sha256 OF THE DUMP (.gsa) THAT YtdifphanmemmlabProg.lean LOADS. Nothing in Lean hashes anything: it is a label: what it is worth is what the hold of that sum in a sandbox is worth. -/
noncomputable def Try.pinned : Pinned := { name := "ytdifphanmemmlab", sum := "1faa883fedc18f1a6909921d7ccd6e5f7f6562845edbd74d0765cfa32665a87e", checked := Try.checked }
namespace Rows
def none {H : Type} : Left H := { results := [], args := [] }

/-- 'n011_291.FnCSSFeatureApplyOverridesBitModel': WHATEVER THE INPUT: true; the input reads as it did. -/
def fnCSSFeatureApplyOverridesBitModelSpec : ChangeSpec := { name := "fnCSSFeatureApplyOverridesBitModel", fn := fun _ => fun
  | [d1, d2, d3] => { results := [.lit (.bool true)], args := [d1, d2, d3] }
  | _ => none }
def fnCSSFeatureApplyOverridesBitModelRow : OpenClaim := { program := "ytdifphanmemmlab", sum := "1faa883fedc18f1a6909921d7ccd6e5f7f6562845edbd74d0765cfa32665a87e", func := "github.com/evanw/esbuild/n011_291.FnCSSFeatureApplyOverridesBitModel", spec := "fnCSSFeatureApplyOverridesBitModel", apart := false }
def FnCSSFeatureApplyOverridesBitModelSaid : Prop := fnCSSFeatureApplyOverridesBitModelRow.holds Try.pinned (OpenSpec.ofChange fnCSSFeatureApplyOverridesBitModelSpec)

/-- ITS FALSE NEIGHBOUR: 'it returns false'. Refute it at one input. -/
def fnCSSFeatureApplyOverridesBitModelWrong : ChangeSpec := { name := "fnCSSFeatureApplyOverridesBitModel", fn := fun _ => fun
  | [d1, d2, d3] => { results := [.lit (.bool false)], args := [d1, d2, d3] }
  | _ => none }
def FnCSSFeatureApplyOverridesBitModelWrongFalsely : Prop := fnCSSFeatureApplyOverridesBitModelRow.holds Try.pinned (OpenSpec.ofChange fnCSSFeatureApplyOverridesBitModelWrong)

/-- 'n011_213.FnRawMatchesByteModel': WHATEVER THE INPUT: true; the input reads as it did. -/
def fnRawMatchesByteModelSpec : ChangeSpec := { name := "fnRawMatchesByteModel", fn := fun _ => fun
  | [d1, d2, d3] => { results := [.lit (.bool true)], args := [d1, d2, d3] }
  | _ => none }
def fnRawMatchesByteModelRow : OpenClaim := { program := "ytdifphanmemmlab", sum := "1faa883fedc18f1a6909921d7ccd6e5f7f6562845edbd74d0765cfa32665a87e", func := "github.com/evanw/esbuild/n011_213.FnRawMatchesByteModel", spec := "fnRawMatchesByteModel", apart := false }
def FnRawMatchesByteModelSaid : Prop := fnRawMatchesByteModelRow.holds Try.pinned (OpenSpec.ofChange fnRawMatchesByteModelSpec)

/-- ITS FALSE NEIGHBOUR: 'it returns false'. Refute it at one input. -/
def fnRawMatchesByteModelWrong : ChangeSpec := { name := "fnRawMatchesByteModel", fn := fun _ => fun
  | [d1, d2, d3] => { results := [.lit (.bool false)], args := [d1, d2, d3] }
  | _ => none }
def FnRawMatchesByteModelWrongFalsely : Prop := fnRawMatchesByteModelRow.holds Try.pinned (OpenSpec.ofChange fnRawMatchesByteModelWrong)

/-- 'n011_213.FnLocAgreesWithRangeAndIdentifier': WHATEVER THE INPUT: true; the input reads as it did. -/
def fnLocAgreesWithRangeAndIdentifierSpec : ChangeSpec := { name := "fnLocAgreesWithRangeAndIdentifier", fn := fun _ => fun
  | [d1, d2, d3] => { results := [.lit (.bool true)], args := [d1, d2, d3] }
  | _ => none }
def fnLocAgreesWithRangeAndIdentifierRow : OpenClaim := { program := "ytdifphanmemmlab", sum := "1faa883fedc18f1a6909921d7ccd6e5f7f6562845edbd74d0765cfa32665a87e", func := "github.com/evanw/esbuild/n011_213.FnLocAgreesWithRangeAndIdentifier", spec := "fnLocAgreesWithRangeAndIdentifier", apart := false }
def FnLocAgreesWithRangeAndIdentifierSaid : Prop := fnLocAgreesWithRangeAndIdentifierRow.holds Try.pinned (OpenSpec.ofChange fnLocAgreesWithRangeAndIdentifierSpec)

/-- ITS FALSE NEIGHBOUR: 'it returns false'. Refute it at one input. -/
def fnLocAgreesWithRangeAndIdentifierWrong : ChangeSpec := { name := "fnLocAgreesWithRangeAndIdentifier", fn := fun _ => fun
  | [d1, d2, d3] => { results := [.lit (.bool false)], args := [d1, d2, d3] }
  | _ => none }
def FnLocAgreesWithRangeAndIdentifierWrongFalsely : Prop := fnLocAgreesWithRangeAndIdentifierRow.holds Try.pinned (OpenSpec.ofChange fnLocAgreesWithRangeAndIdentifierWrong)

/-- 'n011_23.FnComesBeforeIsLexicographic': WHATEVER THE INPUT: true; the input reads as it did. -/
def fnComesBeforeIsLexicographicSpec : ChangeSpec := { name := "fnComesBeforeIsLexicographic", fn := fun _ => fun
  | [d1, d2, d3, d4] => { results := [.lit (.bool true)], args := [d1, d2, d3, d4] }
  | _ => none }
def fnComesBeforeIsLexicographicRow : OpenClaim := { program := "ytdifphanmemmlab", sum := "1faa883fedc18f1a6909921d7ccd6e5f7f6562845edbd74d0765cfa32665a87e", func := "github.com/evanw/esbuild/n011_23.FnComesBeforeIsLexicographic", spec := "fnComesBeforeIsLexicographic", apart := false }
def FnComesBeforeIsLexicographicSaid : Prop := fnComesBeforeIsLexicographicRow.holds Try.pinned (OpenSpec.ofChange fnComesBeforeIsLexicographicSpec)

/-- ITS FALSE NEIGHBOUR: 'it returns false'. Refute it at one input. -/
def fnComesBeforeIsLexicographicWrong : ChangeSpec := { name := "fnComesBeforeIsLexicographic", fn := fun _ => fun
  | [d1, d2, d3, d4] => { results := [.lit (.bool false)], args := [d1, d2, d3, d4] }
  | _ => none }
def FnComesBeforeIsLexicographicWrongFalsely : Prop := fnComesBeforeIsLexicographicRow.holds Try.pinned (OpenSpec.ofChange fnComesBeforeIsLexicographicWrong)

/- THE SECOND FORM. 'bulk': how many values and letters a reading holds, each counted each time it is reached (what is shared counts as often as it is met; a slice's spare places count too). A statement '..UptoSaid' is the law's where the arguments, and the package variables that the reading takes, are together of bulk at most 1048576: NARROWER than '..Said'. Prove '..Said' where nothing that the law and all that it calls make is longer than what came in: it says more and counts as full. Else prove '..UptoSaid'. A law counts once. -/
mutual
def uptoBulk {H : Type} : DataW H → Nat
  | .lit (.string bytes) => bytes.length + 1
  | .lit _ => 1
  | .nil => 1
  | .ptr d => uptoBulk d + 1
  | .slice elems spare => uptoBulkAll elems + uptoBulkAll spare + 1
  | .agg parts => uptoBulkAll parts + 1
  | .iface _ d => uptoBulk d + 1
  | .map entries => uptoBulkEntries entries + 1
  | .held _ => 1
def uptoBulkAll {H : Type} : List (DataW H) → Nat
  | [] => 0
  | d :: r => uptoBulk d + uptoBulkAll r
def uptoBulkEntries {H : Type} : List (Lit × DataW H) → Nat
  | [] => 0
  | x :: r => uptoBulkEntry x + uptoBulkEntries r
def uptoBulkEntry {H : Type} : Lit × DataW H → Nat
  | (.string bytes, d) => bytes.length + uptoBulk d + 1
  | (_, d) => uptoBulk d + 1
 end
def uptoSmall : (H : Type) → List (DataW H) → Bool := fun _ ds => decide (uptoBulkAll ds ≤ 1048576)
def OpenSpec.upto (s : _root_.Go.ChangeSpec) : _root_.Go.OpenSpec := { _root_.Go.OpenSpec.ofChange s with cond := some uptoSmall }

/-- 'n011_291.FnCSSFeatureApplyOverridesBitModel', WHERE WHAT IT READS IS OF BULK AT MOST 1048576: true; the input reads as it did. -/
def fnCSSFeatureApplyOverridesBitModelUptoRow : OpenClaim := { program := "ytdifphanmemmlab", sum := "1faa883fedc18f1a6909921d7ccd6e5f7f6562845edbd74d0765cfa32665a87e", func := "github.com/evanw/esbuild/n011_291.FnCSSFeatureApplyOverridesBitModel", spec := "fnCSSFeatureApplyOverridesBitModel", apart := false, narrowed := true }
def FnCSSFeatureApplyOverridesBitModelUptoSaid : Prop := fnCSSFeatureApplyOverridesBitModelUptoRow.holds Try.pinned (OpenSpec.upto fnCSSFeatureApplyOverridesBitModelSpec)

/-- 'n011_213.FnRawMatchesByteModel', WHERE WHAT IT READS IS OF BULK AT MOST 1048576: true; the input reads as it did. -/
def fnRawMatchesByteModelUptoRow : OpenClaim := { program := "ytdifphanmemmlab", sum := "1faa883fedc18f1a6909921d7ccd6e5f7f6562845edbd74d0765cfa32665a87e", func := "github.com/evanw/esbuild/n011_213.FnRawMatchesByteModel", spec := "fnRawMatchesByteModel", apart := false, narrowed := true }
def FnRawMatchesByteModelUptoSaid : Prop := fnRawMatchesByteModelUptoRow.holds Try.pinned (OpenSpec.upto fnRawMatchesByteModelSpec)

/-- 'n011_213.FnLocAgreesWithRangeAndIdentifier', WHERE WHAT IT READS IS OF BULK AT MOST 1048576: true; the input reads as it did. -/
def fnLocAgreesWithRangeAndIdentifierUptoRow : OpenClaim := { program := "ytdifphanmemmlab", sum := "1faa883fedc18f1a6909921d7ccd6e5f7f6562845edbd74d0765cfa32665a87e", func := "github.com/evanw/esbuild/n011_213.FnLocAgreesWithRangeAndIdentifier", spec := "fnLocAgreesWithRangeAndIdentifier", apart := false, narrowed := true }
def FnLocAgreesWithRangeAndIdentifierUptoSaid : Prop := fnLocAgreesWithRangeAndIdentifierUptoRow.holds Try.pinned (OpenSpec.upto fnLocAgreesWithRangeAndIdentifierSpec)

/-- 'n011_23.FnComesBeforeIsLexicographic', WHERE WHAT IT READS IS OF BULK AT MOST 1048576: true; the input reads as it did. -/
def fnComesBeforeIsLexicographicUptoRow : OpenClaim := { program := "ytdifphanmemmlab", sum := "1faa883fedc18f1a6909921d7ccd6e5f7f6562845edbd74d0765cfa32665a87e", func := "github.com/evanw/esbuild/n011_23.FnComesBeforeIsLexicographic", spec := "fnComesBeforeIsLexicographic", apart := false, narrowed := true }
def FnComesBeforeIsLexicographicUptoSaid : Prop := fnComesBeforeIsLexicographicUptoRow.holds Try.pinned (OpenSpec.upto fnComesBeforeIsLexicographicSpec)

end Rows
end Go.Proofs.Ytdifphanmemmlab
