/-
  No cell of these rows narrows 'for every input' (looked for: loops, veiled, ifaces, maps, wideKeys, modest, calm, conditions, laid).
  DERIVED. THE GIVEN ROWS OF THIS SEAT. 6 by the template 'for every input the law returns true; each argument reads behind the call as it read before'; 0 by the template 'total and deterministic' (their statements: YtjgomgagaolhgaaTotals.lean).
  GIVEN WITH THE SEED: the statements are not yours to turn. If you find one false, say at which input.
  Laid BY PROGRAM, IN A SANDBOX (cutbox-rows.mjs): the forced cells as the released guide's own fill.sh prints them over the translation a2f6781c6e05b005… (all of the seat's roots in one cut). By AI agents, Wed Nov 11 2026. No macro, syntax, notation, axiom, sorry.
-/
import Derived.Test.YtjgomgagaolhgaaChecked
import GoSem.Claim
import GoSem.ClaimJoined
import GoSem.ClaimMapViews
import Derived.JoinedTies
import Derived.KernelRfl
namespace Go.Proofs.Ytjgomgagaolhgaa
/- THE CELL 'sum', in the pinned program and in every row, IS THE sha256 OF THE DUMP (.gsa) THAT YtjgomgagaolhgaaProg.lean LOADS. Nothing in Lean hashes anything: it is a label: what it is worth is what the hold of that sum in a sandbox is worth. -/
noncomputable def Try.pinned : Pinned := { name := "ytjgomgagaolhgaa", sum := "a2f6781c6e05b005016295b34390d05b0b867deaaf87bda5d4036ca26d01bedd", checked := Try.checked }
namespace Rows
def none {H : Type} : Left H := { results := [], args := [] }

/-- 'n011_265.FnCurrentLineLengthFreshPrinter': WHATEVER THE INPUT: true; the input reads as it did. -/
def fnCurrentLineLengthFreshPrinterSpec : ChangeSpec := { name := "fnCurrentLineLengthFreshPrinter", fn := fun _ => fun
  | [d] => { results := [.lit (.bool true)], args := [d] }
  | _ => none }
def fnCurrentLineLengthFreshPrinterRow : OpenClaim := { program := "ytjgomgagaolhgaa", sum := "a2f6781c6e05b005016295b34390d05b0b867deaaf87bda5d4036ca26d01bedd", func := "github.com/evanw/esbuild/n011_265.FnCurrentLineLengthFreshPrinter", spec := "fnCurrentLineLengthFreshPrinter", plainKeys := false, apart := false }
def FnCurrentLineLengthFreshPrinterSaid : Prop := fnCurrentLineLengthFreshPrinterRow.holds Try.pinned (OpenSpec.ofChange fnCurrentLineLengthFreshPrinterSpec)

/-- ITS FALSE NEIGHBOUR: 'it returns false'. Refute it at one input. -/
def fnCurrentLineLengthFreshPrinterWrong : ChangeSpec := { name := "fnCurrentLineLengthFreshPrinter", fn := fun _ => fun
  | [d] => { results := [.lit (.bool false)], args := [d] }
  | _ => none }
def FnCurrentLineLengthFreshPrinterWrongFalsely : Prop := fnCurrentLineLengthFreshPrinterRow.holds Try.pinned (OpenSpec.ofChange fnCurrentLineLengthFreshPrinterWrong)

/-- 'n011_265.FnSpaceBeforeOperatorAtMostOnce': WHATEVER THE INPUT: true; the input reads as it did. -/
def fnSpaceBeforeOperatorAtMostOnceSpec : ChangeSpec := { name := "fnSpaceBeforeOperatorAtMostOnce", fn := fun _ => fun
  | [d1, d2, d3, d4] => { results := [.lit (.bool true)], args := [d1, d2, d3, d4] }
  | _ => none }
def fnSpaceBeforeOperatorAtMostOnceRow : OpenClaim := { program := "ytjgomgagaolhgaa", sum := "a2f6781c6e05b005016295b34390d05b0b867deaaf87bda5d4036ca26d01bedd", func := "github.com/evanw/esbuild/n011_265.FnSpaceBeforeOperatorAtMostOnce", spec := "fnSpaceBeforeOperatorAtMostOnce", plainKeys := false, apart := false }
def FnSpaceBeforeOperatorAtMostOnceSaid : Prop := fnSpaceBeforeOperatorAtMostOnceRow.holds Try.pinned (OpenSpec.ofChange fnSpaceBeforeOperatorAtMostOnceSpec)

/-- ITS FALSE NEIGHBOUR: 'it returns false'. Refute it at one input. -/
def fnSpaceBeforeOperatorAtMostOnceWrong : ChangeSpec := { name := "fnSpaceBeforeOperatorAtMostOnce", fn := fun _ => fun
  | [d1, d2, d3, d4] => { results := [.lit (.bool false)], args := [d1, d2, d3, d4] }
  | _ => none }
def FnSpaceBeforeOperatorAtMostOnceWrongFalsely : Prop := fnSpaceBeforeOperatorAtMostOnceRow.holds Try.pinned (OpenSpec.ofChange fnSpaceBeforeOperatorAtMostOnceWrong)

/-- 'n011_104.FnCurrentLineLengthCacheAgrees': WHATEVER THE INPUT: true; the input reads as it did. -/
def fnCurrentLineLengthCacheAgreesSpec : ChangeSpec := { name := "fnCurrentLineLengthCacheAgrees", fn := fun _ => fun
  | [d1, d2] => { results := [.lit (.bool true)], args := [d1, d2] }
  | _ => none }
def fnCurrentLineLengthCacheAgreesRow : OpenClaim := { program := "ytjgomgagaolhgaa", sum := "a2f6781c6e05b005016295b34390d05b0b867deaaf87bda5d4036ca26d01bedd", func := "github.com/evanw/esbuild/n011_104.FnCurrentLineLengthCacheAgrees", spec := "fnCurrentLineLengthCacheAgrees", plainKeys := false, apart := false }
def FnCurrentLineLengthCacheAgreesSaid : Prop := fnCurrentLineLengthCacheAgreesRow.holds Try.pinned (OpenSpec.ofChange fnCurrentLineLengthCacheAgreesSpec)

/-- ITS FALSE NEIGHBOUR: 'it returns false'. Refute it at one input. -/
def fnCurrentLineLengthCacheAgreesWrong : ChangeSpec := { name := "fnCurrentLineLengthCacheAgrees", fn := fun _ => fun
  | [d1, d2] => { results := [.lit (.bool false)], args := [d1, d2] }
  | _ => none }
def FnCurrentLineLengthCacheAgreesWrongFalsely : Prop := fnCurrentLineLengthCacheAgreesRow.holds Try.pinned (OpenSpec.ofChange fnCurrentLineLengthCacheAgreesWrong)

/-- 'n011_301.FnPrintIndentMatchesClampedWidth': WHATEVER THE INPUT: true; the input reads as it did. -/
def fnPrintIndentMatchesClampedWidthSpec : ChangeSpec := { name := "fnPrintIndentMatchesClampedWidth", fn := fun _ => fun
  | [d1, d2, d3, d4, d5] => { results := [.lit (.bool true)], args := [d1, d2, d3, d4, d5] }
  | _ => none }
def fnPrintIndentMatchesClampedWidthRow : OpenClaim := { program := "ytjgomgagaolhgaa", sum := "a2f6781c6e05b005016295b34390d05b0b867deaaf87bda5d4036ca26d01bedd", func := "github.com/evanw/esbuild/n011_301.FnPrintIndentMatchesClampedWidth", spec := "fnPrintIndentMatchesClampedWidth", plainKeys := false, apart := false }
def FnPrintIndentMatchesClampedWidthSaid : Prop := fnPrintIndentMatchesClampedWidthRow.holds Try.pinned (OpenSpec.ofChange fnPrintIndentMatchesClampedWidthSpec)

/-- ITS FALSE NEIGHBOUR: 'it returns false'. Refute it at one input. -/
def fnPrintIndentMatchesClampedWidthWrong : ChangeSpec := { name := "fnPrintIndentMatchesClampedWidth", fn := fun _ => fun
  | [d1, d2, d3, d4, d5] => { results := [.lit (.bool false)], args := [d1, d2, d3, d4, d5] }
  | _ => none }
def FnPrintIndentMatchesClampedWidthWrongFalsely : Prop := fnPrintIndentMatchesClampedWidthRow.holds Try.pinned (OpenSpec.ofChange fnPrintIndentMatchesClampedWidthWrong)

/-- 'n011_125.FnPrintIndentAppendsClosedFormSpaces': WHATEVER THE INPUT: true; the input reads as it did. -/
def fnPrintIndentAppendsClosedFormSpacesSpec : ChangeSpec := { name := "fnPrintIndentAppendsClosedFormSpaces", fn := fun _ => fun
  | [d1, d2, d3] => { results := [.lit (.bool true)], args := [d1, d2, d3] }
  | _ => none }
def fnPrintIndentAppendsClosedFormSpacesRow : OpenClaim := { program := "ytjgomgagaolhgaa", sum := "a2f6781c6e05b005016295b34390d05b0b867deaaf87bda5d4036ca26d01bedd", func := "github.com/evanw/esbuild/n011_125.FnPrintIndentAppendsClosedFormSpaces", spec := "fnPrintIndentAppendsClosedFormSpaces", plainKeys := false, apart := false }
def FnPrintIndentAppendsClosedFormSpacesSaid : Prop := fnPrintIndentAppendsClosedFormSpacesRow.holds Try.pinned (OpenSpec.ofChange fnPrintIndentAppendsClosedFormSpacesSpec)

/-- ITS FALSE NEIGHBOUR: 'it returns false'. Refute it at one input. -/
def fnPrintIndentAppendsClosedFormSpacesWrong : ChangeSpec := { name := "fnPrintIndentAppendsClosedFormSpaces", fn := fun _ => fun
  | [d1, d2, d3] => { results := [.lit (.bool false)], args := [d1, d2, d3] }
  | _ => none }
def FnPrintIndentAppendsClosedFormSpacesWrongFalsely : Prop := fnPrintIndentAppendsClosedFormSpacesRow.holds Try.pinned (OpenSpec.ofChange fnPrintIndentAppendsClosedFormSpacesWrong)

/-- 'n011_4.FnBestQuoteSwapSymmetry': WHATEVER THE INPUT: true; the input reads as it did. -/
def fnBestQuoteSwapSymmetrySpec : ChangeSpec := { name := "fnBestQuoteSwapSymmetry", fn := fun _ => fun
  | [d1, d2] => { results := [.lit (.bool true)], args := [d1, d2] }
  | _ => none }
def fnBestQuoteSwapSymmetryRow : OpenClaim := { program := "ytjgomgagaolhgaa", sum := "a2f6781c6e05b005016295b34390d05b0b867deaaf87bda5d4036ca26d01bedd", func := "github.com/evanw/esbuild/n011_4.FnBestQuoteSwapSymmetry", spec := "fnBestQuoteSwapSymmetry", plainKeys := false, apart := false }
def FnBestQuoteSwapSymmetrySaid : Prop := fnBestQuoteSwapSymmetryRow.holds Try.pinned (OpenSpec.ofChange fnBestQuoteSwapSymmetrySpec)

/-- ITS FALSE NEIGHBOUR: 'it returns false'. Refute it at one input. -/
def fnBestQuoteSwapSymmetryWrong : ChangeSpec := { name := "fnBestQuoteSwapSymmetry", fn := fun _ => fun
  | [d1, d2] => { results := [.lit (.bool false)], args := [d1, d2] }
  | _ => none }
def FnBestQuoteSwapSymmetryWrongFalsely : Prop := fnBestQuoteSwapSymmetryRow.holds Try.pinned (OpenSpec.ofChange fnBestQuoteSwapSymmetryWrong)

/- THE SECOND FORM. 'bulk': how many values and letters a reading holds, each counted each time it is reached (what is shared counts as often as it is met; a slice's spare places count too). A statement '..UptoSaid' is the law's where the arguments, and the package variables that the reading takes, are together of bulk at most 1048576: NARROWER than '..Said'. Prove '..Said' where nothing that the law and all that it calls make is longer than what came in: it says more and counts as full. Else prove '..UptoSaid'. A law counts once. -/
mutual
def uptoBulk {H : Type} : DataW H → Nat
  | .lit (.string bytes) => bytes.length + 1
  | .lit _ => 1
  | .nil => 1
  | .ptr d => uptoBulk d + 1
  | .slice elems spare => uptoBulkAll elems + uptoBulkAll spare + 1
  | .agg parts => uptoBulkAll parts + 1
  | .iface _ d => uptoBulk d + 1
  | .map entries => uptoBulkEntries entries + 1
  | .held _ => 1
def uptoBulkAll {H : Type} : List (DataW H) → Nat
  | [] => 0
  | d :: r => uptoBulk d + uptoBulkAll r
def uptoBulkEntries {H : Type} : List (Lit × DataW H) → Nat
  | [] => 0
  | x :: r => uptoBulkEntry x + uptoBulkEntries r
def uptoBulkEntry {H : Type} : Lit × DataW H → Nat
  | (.string bytes, d) => bytes.length + uptoBulk d + 1
  | (_, d) => uptoBulk d + 1
 end
def uptoSmall : (H : Type) → List (DataW H) → Bool := fun _ ds => decide (uptoBulkAll ds ≤ 1048576)
def OpenSpec.upto (s : _root_.Go.ChangeSpec) : _root_.Go.OpenSpec := { _root_.Go.OpenSpec.ofChange s with cond := some uptoSmall }

/-- 'n011_265.FnCurrentLineLengthFreshPrinter', WHERE WHAT IT READS IS OF BULK AT MOST 1048576: true; the input reads as it did. -/
def fnCurrentLineLengthFreshPrinterUptoRow : OpenClaim := { program := "ytjgomgagaolhgaa", sum := "a2f6781c6e05b005016295b34390d05b0b867deaaf87bda5d4036ca26d01bedd", func := "github.com/evanw/esbuild/n011_265.FnCurrentLineLengthFreshPrinter", spec := "fnCurrentLineLengthFreshPrinter", plainKeys := false, apart := false, narrowed := true }
def FnCurrentLineLengthFreshPrinterUptoSaid : Prop := fnCurrentLineLengthFreshPrinterUptoRow.holds Try.pinned (OpenSpec.upto fnCurrentLineLengthFreshPrinterSpec)

/-- 'n011_265.FnSpaceBeforeOperatorAtMostOnce', WHERE WHAT IT READS IS OF BULK AT MOST 1048576: true; the input reads as it did. -/
def fnSpaceBeforeOperatorAtMostOnceUptoRow : OpenClaim := { program := "ytjgomgagaolhgaa", sum := "a2f6781c6e05b005016295b34390d05b0b867deaaf87bda5d4036ca26d01bedd", func := "github.com/evanw/esbuild/n011_265.FnSpaceBeforeOperatorAtMostOnce", spec := "fnSpaceBeforeOperatorAtMostOnce", plainKeys := false, apart := false, narrowed := true }
def FnSpaceBeforeOperatorAtMostOnceUptoSaid : Prop := fnSpaceBeforeOperatorAtMostOnceUptoRow.holds Try.pinned (OpenSpec.upto fnSpaceBeforeOperatorAtMostOnceSpec)

/-- 'n011_104.FnCurrentLineLengthCacheAgrees', WHERE WHAT IT READS IS OF BULK AT MOST 1048576: true; the input reads as it did. -/
def fnCurrentLineLengthCacheAgreesUptoRow : OpenClaim := { program := "ytjgomgagaolhgaa", sum := "a2f6781c6e05b005016295b34390d05b0b867deaaf87bda5d4036ca26d01bedd", func := "github.com/evanw/esbuild/n011_104.FnCurrentLineLengthCacheAgrees", spec := "fnCurrentLineLengthCacheAgrees", plainKeys := false, apart := false, narrowed := true }
def FnCurrentLineLengthCacheAgreesUptoSaid : Prop := fnCurrentLineLengthCacheAgreesUptoRow.holds Try.pinned (OpenSpec.upto fnCurrentLineLengthCacheAgreesSpec)

/-- 'n011_301.FnPrintIndentMatchesClampedWidth', WHERE WHAT IT READS IS OF BULK AT MOST 1048576: true; the input reads as it did. -/
def fnPrintIndentMatchesClampedWidthUptoRow : OpenClaim := { program := "ytjgomgagaolhgaa", sum := "a2f6781c6e05b005016295b34390d05b0b867deaaf87bda5d4036ca26d01bedd", func := "github.com/evanw/esbuild/n011_301.FnPrintIndentMatchesClampedWidth", spec := "fnPrintIndentMatchesClampedWidth", plainKeys := false, apart := false, narrowed := true }
def FnPrintIndentMatchesClampedWidthUptoSaid : Prop := fnPrintIndentMatchesClampedWidthUptoRow.holds Try.pinned (OpenSpec.upto fnPrintIndentMatchesClampedWidthSpec)

/-- 'n011_125.FnPrintIndentAppendsClosedFormSpaces', WHERE WHAT IT READS IS OF BULK AT MOST 1048576: true; the input reads as it did. -/
def fnPrintIndentAppendsClosedFormSpacesUptoRow : OpenClaim := { program := "ytjgomgagaolhgaa", sum := "a2f6781c6e05b005016295b34390d05b0b867deaaf87bda5d4036ca26d01bedd", func := "github.com/evanw/esbuild/n011_125.FnPrintIndentAppendsClosedFormSpaces", spec := "fnPrintIndentAppendsClosedFormSpaces", plainKeys := false, apart := false, narrowed := true }
def FnPrintIndentAppendsClosedFormSpacesUptoSaid : Prop := fnPrintIndentAppendsClosedFormSpacesUptoRow.holds Try.pinned (OpenSpec.upto fnPrintIndentAppendsClosedFormSpacesSpec)

/-- 'n011_4.FnBestQuoteSwapSymmetry', WHERE WHAT IT READS IS OF BULK AT MOST 1048576: true; the input reads as it did. -/
def fnBestQuoteSwapSymmetryUptoRow : OpenClaim := { program := "ytjgomgagaolhgaa", sum := "a2f6781c6e05b005016295b34390d05b0b867deaaf87bda5d4036ca26d01bedd", func := "github.com/evanw/esbuild/n011_4.FnBestQuoteSwapSymmetry", spec := "fnBestQuoteSwapSymmetry", plainKeys := false, apart := false, narrowed := true }
def FnBestQuoteSwapSymmetryUptoSaid : Prop := fnBestQuoteSwapSymmetryUptoRow.holds Try.pinned (OpenSpec.upto fnBestQuoteSwapSymmetrySpec)

end Rows
end Go.Proofs.Ytjgomgagaolhgaa
