/-
  No cell of these rows narrows 'for every input' (looked for: loops, veiled, ifaces, maps, wideKeys, modest, calm, conditions, laid).
  DERIVED. THE GIVEN ROWS OF THIS SEAT. 6 by the template 'for every input the law returns true; each argument reads behind the call as it read before'; 0 by the template 'total and deterministic' (their statements: YtjgomgagaolhgabTotals.lean).
  GIVEN WITH THE SEED: the statements are not yours to turn. If you find one false, say at which input.
  Laid BY PROGRAM, IN A SANDBOX (cutbox-rows.mjs): the forced cells as the released guide's own fill.sh prints them over the translation de7f85dfba2eed3e… (all of the seat's roots in one cut). By AI agents, Wed Nov 11 2026. No macro, syntax, notation, axiom, sorry.
-/
import Derived.Test.YtjgomgagaolhgabChecked
import GoSem.Claim
import GoSem.ClaimJoined
import GoSem.ClaimMapViews
import Derived.JoinedTies
import Derived.KernelRfl
namespace Go.Proofs.Ytjgomgagaolhgab
/- THE CELL 'sum', in the pinned program and in every row, IS THE sha256 OF THE DUMP (.gsa) THAT YtjgomgagaolhgabProg.lean LOADS. Nothing in Lean hashes anything: it is a label: what it is worth is what the hold of that sum in a sandbox is worth. -/
noncomputable def Try.pinned : Pinned := { name := "ytjgomgagaolhgab", sum := "de7f85dfba2eed3ee6bd872f733d61a95075a2d829b499ac3f19a11051cadd40", checked := Try.checked }
namespace Rows
def none {H : Type} : Left H := { results := [], args := [] }

/-- 'n011_61.FnCCIASwapSymmetricInvolution': WHATEVER THE INPUT: true; the input reads as it did. -/
def fnCCIASwapSymmetricInvolutionSpec : ChangeSpec := { name := "fnCCIASwapSymmetricInvolution", fn := fun _ => fun
  | [d1, d2, d3] => { results := [.lit (.bool true)], args := [d1, d2, d3] }
  | _ => none }
def fnCCIASwapSymmetricInvolutionRow : OpenClaim := { program := "ytjgomgagaolhgab", sum := "de7f85dfba2eed3ee6bd872f733d61a95075a2d829b499ac3f19a11051cadd40", func := "github.com/evanw/esbuild/n011_61.FnCCIASwapSymmetricInvolution", spec := "fnCCIASwapSymmetricInvolution", plainKeys := false, apart := false }
def FnCCIASwapSymmetricInvolutionSaid : Prop := fnCCIASwapSymmetricInvolutionRow.holds Try.pinned (OpenSpec.ofChange fnCCIASwapSymmetricInvolutionSpec)

/-- ITS FALSE NEIGHBOUR: 'it returns false'. Refute it at one input. -/
def fnCCIASwapSymmetricInvolutionWrong : ChangeSpec := { name := "fnCCIASwapSymmetricInvolution", fn := fun _ => fun
  | [d1, d2, d3] => { results := [.lit (.bool false)], args := [d1, d2, d3] }
  | _ => none }
def FnCCIASwapSymmetricInvolutionWrongFalsely : Prop := fnCCIASwapSymmetricInvolutionRow.holds Try.pinned (OpenSpec.ofChange fnCCIASwapSymmetricInvolutionWrong)

/-- 'n011_79.FnStableRefArraySwapInvolution': WHATEVER THE INPUT: true; the input reads as it did. -/
def fnStableRefArraySwapInvolutionSpec : ChangeSpec := { name := "fnStableRefArraySwapInvolution", fn := fun _ => fun
  | [d1, d2, d3, d4, d5] => { results := [.lit (.bool true)], args := [d1, d2, d3, d4, d5] }
  | _ => none }
def fnStableRefArraySwapInvolutionRow : OpenClaim := { program := "ytjgomgagaolhgab", sum := "de7f85dfba2eed3ee6bd872f733d61a95075a2d829b499ac3f19a11051cadd40", func := "github.com/evanw/esbuild/n011_79.FnStableRefArraySwapInvolution", spec := "fnStableRefArraySwapInvolution", plainKeys := false, apart := false }
def FnStableRefArraySwapInvolutionSaid : Prop := fnStableRefArraySwapInvolutionRow.holds Try.pinned (OpenSpec.ofChange fnStableRefArraySwapInvolutionSpec)

/-- ITS FALSE NEIGHBOUR: 'it returns false'. Refute it at one input. -/
def fnStableRefArraySwapInvolutionWrong : ChangeSpec := { name := "fnStableRefArraySwapInvolution", fn := fun _ => fun
  | [d1, d2, d3, d4, d5] => { results := [.lit (.bool false)], args := [d1, d2, d3, d4, d5] }
  | _ => none }
def FnStableRefArraySwapInvolutionWrongFalsely : Prop := fnStableRefArraySwapInvolutionRow.holds Try.pinned (OpenSpec.ofChange fnStableRefArraySwapInvolutionWrong)

/-- 'n011_102.FnStableSymbolCountArraySwapExchanges': WHATEVER THE INPUT: true; the input reads as it did. -/
def fnStableSymbolCountArraySwapExchangesSpec : ChangeSpec := { name := "fnStableSymbolCountArraySwapExchanges", fn := fun _ => fun
  | [d1, d2, d3, d4, d5, d6] => { results := [.lit (.bool true)], args := [d1, d2, d3, d4, d5, d6] }
  | _ => none }
def fnStableSymbolCountArraySwapExchangesRow : OpenClaim := { program := "ytjgomgagaolhgab", sum := "de7f85dfba2eed3ee6bd872f733d61a95075a2d829b499ac3f19a11051cadd40", func := "github.com/evanw/esbuild/n011_102.FnStableSymbolCountArraySwapExchanges", spec := "fnStableSymbolCountArraySwapExchanges", plainKeys := false, apart := false }
def FnStableSymbolCountArraySwapExchangesSaid : Prop := fnStableSymbolCountArraySwapExchangesRow.holds Try.pinned (OpenSpec.ofChange fnStableSymbolCountArraySwapExchangesSpec)

/-- ITS FALSE NEIGHBOUR: 'it returns false'. Refute it at one input. -/
def fnStableSymbolCountArraySwapExchangesWrong : ChangeSpec := { name := "fnStableSymbolCountArraySwapExchanges", fn := fun _ => fun
  | [d1, d2, d3, d4, d5, d6] => { results := [.lit (.bool false)], args := [d1, d2, d3, d4, d5, d6] }
  | _ => none }
def FnStableSymbolCountArraySwapExchangesWrongFalsely : Prop := fnStableSymbolCountArraySwapExchangesRow.holds Try.pinned (OpenSpec.ofChange fnStableSymbolCountArraySwapExchangesWrong)

/-- 'n011_102.FnNewMinifyRenamerFreshSlots': WHATEVER THE INPUT: true; the input reads as it did. -/
def fnNewMinifyRenamerFreshSlotsSpec : ChangeSpec := { name := "fnNewMinifyRenamerFreshSlots", fn := fun _ => fun
  | [d1, d2, d3, d4] => { results := [.lit (.bool true)], args := [d1, d2, d3, d4] }
  | _ => none }
def fnNewMinifyRenamerFreshSlotsRow : OpenClaim := { program := "ytjgomgagaolhgab", sum := "de7f85dfba2eed3ee6bd872f733d61a95075a2d829b499ac3f19a11051cadd40", func := "github.com/evanw/esbuild/n011_102.FnNewMinifyRenamerFreshSlots", spec := "fnNewMinifyRenamerFreshSlots", plainKeys := false, apart := false }
def FnNewMinifyRenamerFreshSlotsSaid : Prop := fnNewMinifyRenamerFreshSlotsRow.holds Try.pinned (OpenSpec.ofChange fnNewMinifyRenamerFreshSlotsSpec)

/-- ITS FALSE NEIGHBOUR: 'it returns false'. Refute it at one input. -/
def fnNewMinifyRenamerFreshSlotsWrong : ChangeSpec := { name := "fnNewMinifyRenamerFreshSlots", fn := fun _ => fun
  | [d1, d2, d3, d4] => { results := [.lit (.bool false)], args := [d1, d2, d3, d4] }
  | _ => none }
def FnNewMinifyRenamerFreshSlotsWrongFalsely : Prop := fnNewMinifyRenamerFreshSlotsRow.holds Try.pinned (OpenSpec.ofChange fnNewMinifyRenamerFreshSlotsWrong)

/-- 'n011_211.FnAppendOrExtendTouchesOnlyLast': WHATEVER THE INPUT: true; the input reads as it did. -/
def fnAppendOrExtendTouchesOnlyLastSpec : ChangeSpec := { name := "fnAppendOrExtendTouchesOnlyLast", fn := fun _ => fun
  | [d1, d2, d3, d4, d5] => { results := [.lit (.bool true)], args := [d1, d2, d3, d4, d5] }
  | _ => none }
def fnAppendOrExtendTouchesOnlyLastRow : OpenClaim := { program := "ytjgomgagaolhgab", sum := "de7f85dfba2eed3ee6bd872f733d61a95075a2d829b499ac3f19a11051cadd40", func := "github.com/evanw/esbuild/n011_211.FnAppendOrExtendTouchesOnlyLast", spec := "fnAppendOrExtendTouchesOnlyLast", plainKeys := false, apart := false }
def FnAppendOrExtendTouchesOnlyLastSaid : Prop := fnAppendOrExtendTouchesOnlyLastRow.holds Try.pinned (OpenSpec.ofChange fnAppendOrExtendTouchesOnlyLastSpec)

/-- ITS FALSE NEIGHBOUR: 'it returns false'. Refute it at one input. -/
def fnAppendOrExtendTouchesOnlyLastWrong : ChangeSpec := { name := "fnAppendOrExtendTouchesOnlyLast", fn := fun _ => fun
  | [d1, d2, d3, d4, d5] => { results := [.lit (.bool false)], args := [d1, d2, d3, d4, d5] }
  | _ => none }
def FnAppendOrExtendTouchesOnlyLastWrongFalsely : Prop := fnAppendOrExtendTouchesOnlyLastRow.holds Try.pinned (OpenSpec.ofChange fnAppendOrExtendTouchesOnlyLastWrong)

/-- 'n011_92.FnDefaultLoaderMapIsFreshEachCall': WHATEVER THE INPUT: true; the input reads as it did. -/
def fnDefaultLoaderMapIsFreshEachCallSpec : ChangeSpec := { name := "fnDefaultLoaderMapIsFreshEachCall", fn := fun _ => fun
  | [d1, d2, d3] => { results := [.lit (.bool true)], args := [d1, d2, d3] }
  | _ => none }
def fnDefaultLoaderMapIsFreshEachCallRow : OpenClaim := { program := "ytjgomgagaolhgab", sum := "de7f85dfba2eed3ee6bd872f733d61a95075a2d829b499ac3f19a11051cadd40", func := "github.com/evanw/esbuild/n011_92.FnDefaultLoaderMapIsFreshEachCall", spec := "fnDefaultLoaderMapIsFreshEachCall", plainKeys := false, apart := false }
def FnDefaultLoaderMapIsFreshEachCallSaid : Prop := fnDefaultLoaderMapIsFreshEachCallRow.holds Try.pinned (OpenSpec.ofChange fnDefaultLoaderMapIsFreshEachCallSpec)

/-- ITS FALSE NEIGHBOUR: 'it returns false'. Refute it at one input. -/
def fnDefaultLoaderMapIsFreshEachCallWrong : ChangeSpec := { name := "fnDefaultLoaderMapIsFreshEachCall", fn := fun _ => fun
  | [d1, d2, d3] => { results := [.lit (.bool false)], args := [d1, d2, d3] }
  | _ => none }
def FnDefaultLoaderMapIsFreshEachCallWrongFalsely : Prop := fnDefaultLoaderMapIsFreshEachCallRow.holds Try.pinned (OpenSpec.ofChange fnDefaultLoaderMapIsFreshEachCallWrong)

/- THE SECOND FORM. 'bulk': how many values and letters a reading holds, each counted each time it is reached (what is shared counts as often as it is met; a slice's spare places count too). A statement '..UptoSaid' is the law's where the arguments, and the package variables that the reading takes, are together of bulk at most 1048576: NARROWER than '..Said'. Prove '..Said' where nothing that the law and all that it calls make is longer than what came in: it says more and counts as full. Else prove '..UptoSaid'. A law counts once. -/
mutual
def uptoBulk {H : Type} : DataW H → Nat
  | .lit (.string bytes) => bytes.length + 1
  | .lit _ => 1
  | .nil => 1
  | .ptr d => uptoBulk d + 1
  | .slice elems spare => uptoBulkAll elems + uptoBulkAll spare + 1
  | .agg parts => uptoBulkAll parts + 1
  | .iface _ d => uptoBulk d + 1
  | .map entries => uptoBulkEntries entries + 1
  | .held _ => 1
def uptoBulkAll {H : Type} : List (DataW H) → Nat
  | [] => 0
  | d :: r => uptoBulk d + uptoBulkAll r
def uptoBulkEntries {H : Type} : List (Lit × DataW H) → Nat
  | [] => 0
  | x :: r => uptoBulkEntry x + uptoBulkEntries r
def uptoBulkEntry {H : Type} : Lit × DataW H → Nat
  | (.string bytes, d) => bytes.length + uptoBulk d + 1
  | (_, d) => uptoBulk d + 1
 end
def uptoSmall : (H : Type) → List (DataW H) → Bool := fun _ ds => decide (uptoBulkAll ds ≤ 1048576)
def OpenSpec.upto (s : _root_.Go.ChangeSpec) : _root_.Go.OpenSpec := { _root_.Go.OpenSpec.ofChange s with cond := some uptoSmall }

/-- 'n011_61.FnCCIASwapSymmetricInvolution', WHERE WHAT IT READS IS OF BULK AT MOST 1048576: true; the input reads as it did. -/
def fnCCIASwapSymmetricInvolutionUptoRow : OpenClaim := { program := "ytjgomgagaolhgab", sum := "de7f85dfba2eed3ee6bd872f733d61a95075a2d829b499ac3f19a11051cadd40", func := "github.com/evanw/esbuild/n011_61.FnCCIASwapSymmetricInvolution", spec := "fnCCIASwapSymmetricInvolution", plainKeys := false, apart := false, narrowed := true }
def FnCCIASwapSymmetricInvolutionUptoSaid : Prop := fnCCIASwapSymmetricInvolutionUptoRow.holds Try.pinned (OpenSpec.upto fnCCIASwapSymmetricInvolutionSpec)

/-- 'n011_79.FnStableRefArraySwapInvolution', WHERE WHAT IT READS IS OF BULK AT MOST 1048576: true; the input reads as it did. -/
def fnStableRefArraySwapInvolutionUptoRow : OpenClaim := { program := "ytjgomgagaolhgab", sum := "de7f85dfba2eed3ee6bd872f733d61a95075a2d829b499ac3f19a11051cadd40", func := "github.com/evanw/esbuild/n011_79.FnStableRefArraySwapInvolution", spec := "fnStableRefArraySwapInvolution", plainKeys := false, apart := false, narrowed := true }
def FnStableRefArraySwapInvolutionUptoSaid : Prop := fnStableRefArraySwapInvolutionUptoRow.holds Try.pinned (OpenSpec.upto fnStableRefArraySwapInvolutionSpec)

/-- 'n011_102.FnStableSymbolCountArraySwapExchanges', WHERE WHAT IT READS IS OF BULK AT MOST 1048576: true; the input reads as it did. -/
def fnStableSymbolCountArraySwapExchangesUptoRow : OpenClaim := { program := "ytjgomgagaolhgab", sum := "de7f85dfba2eed3ee6bd872f733d61a95075a2d829b499ac3f19a11051cadd40", func := "github.com/evanw/esbuild/n011_102.FnStableSymbolCountArraySwapExchanges", spec := "fnStableSymbolCountArraySwapExchanges", plainKeys := false, apart := false, narrowed := true }
def FnStableSymbolCountArraySwapExchangesUptoSaid : Prop := fnStableSymbolCountArraySwapExchangesUptoRow.holds Try.pinned (OpenSpec.upto fnStableSymbolCountArraySwapExchangesSpec)

/-- 'n011_102.FnNewMinifyRenamerFreshSlots', WHERE WHAT IT READS IS OF BULK AT MOST 1048576: true; the input reads as it did. -/
def fnNewMinifyRenamerFreshSlotsUptoRow : OpenClaim := { program := "ytjgomgagaolhgab", sum := "de7f85dfba2eed3ee6bd872f733d61a95075a2d829b499ac3f19a11051cadd40", func := "github.com/evanw/esbuild/n011_102.FnNewMinifyRenamerFreshSlots", spec := "fnNewMinifyRenamerFreshSlots", plainKeys := false, apart := false, narrowed := true }
def FnNewMinifyRenamerFreshSlotsUptoSaid : Prop := fnNewMinifyRenamerFreshSlotsUptoRow.holds Try.pinned (OpenSpec.upto fnNewMinifyRenamerFreshSlotsSpec)

/-- 'n011_211.FnAppendOrExtendTouchesOnlyLast', WHERE WHAT IT READS IS OF BULK AT MOST 1048576: true; the input reads as it did. -/
def fnAppendOrExtendTouchesOnlyLastUptoRow : OpenClaim := { program := "ytjgomgagaolhgab", sum := "de7f85dfba2eed3ee6bd872f733d61a95075a2d829b499ac3f19a11051cadd40", func := "github.com/evanw/esbuild/n011_211.FnAppendOrExtendTouchesOnlyLast", spec := "fnAppendOrExtendTouchesOnlyLast", plainKeys := false, apart := false, narrowed := true }
def FnAppendOrExtendTouchesOnlyLastUptoSaid : Prop := fnAppendOrExtendTouchesOnlyLastUptoRow.holds Try.pinned (OpenSpec.upto fnAppendOrExtendTouchesOnlyLastSpec)

/-- 'n011_92.FnDefaultLoaderMapIsFreshEachCall', WHERE WHAT IT READS IS OF BULK AT MOST 1048576: true; the input reads as it did. -/
def fnDefaultLoaderMapIsFreshEachCallUptoRow : OpenClaim := { program := "ytjgomgagaolhgab", sum := "de7f85dfba2eed3ee6bd872f733d61a95075a2d829b499ac3f19a11051cadd40", func := "github.com/evanw/esbuild/n011_92.FnDefaultLoaderMapIsFreshEachCall", spec := "fnDefaultLoaderMapIsFreshEachCall", plainKeys := false, apart := false, narrowed := true }
def FnDefaultLoaderMapIsFreshEachCallUptoSaid : Prop := fnDefaultLoaderMapIsFreshEachCallUptoRow.holds Try.pinned (OpenSpec.upto fnDefaultLoaderMapIsFreshEachCallSpec)

end Rows
end Go.Proofs.Ytjgomgagaolhgab
