/- FnCookedAndRawTemplateContentsWhole: a block of a function, by its number; words for the encoder. -/
import Derived.Test.YtalpfbbceggcaaaDoorCwT
import Derived.Test.YtalpfbbceggcaaaDoorCwV
import Derived.Test.YtalpfbbceggcaaaDoorStr
import Derived.Test.YtalpfbbceggcaaaDoorSl
import Derived.Great.BuildSlice
import Derived.Laws.MakeOwn
import Derived.WalkKit
import Derived.ProofKit
import Derived.OpenShut
import Derived.Below
import Derived.WalkLawsBesides
import Derived.Lib.Hide
import Derived.Outline
import Derived.RegionTactic
import Derived.Deep.QuietTactic
import Derived.BigQuiet
import Derived.WalkSpells
import Derived.Deep.OwnRows
import Derived.IntWalk
import Derived.Deep.DeepMust
namespace Go.Proofs.YtalpfbbceggcaaaDoor.CwK
open Go.RowKit Mem Args Own Str CwP CwH CwG CwA CwB CwT
set_option linter.unusedVariables false
/-- The first block of the number n. -/
def blk (n : Nat) : Code → Option Code
  | .seq a b => match blk n a with | some c => some c | none => blk n b
  | .cond _ a b => match blk n a with | some c => some c | none => blk n b
  | .block i b => bif i == n then some (.block i b) else blk n b
  | .loop b => blk n b
  | .rangeFunc _ _ a b => match blk n a with | some c => some c | none => blk n b
  | .scope b => blk n b
  | _ => none
/-- .. of the body of f. -/
def blkOf (n : Nat) (f : Func) : Code := match f.body with | some c => (blk n c).getD .skip | none => .skip
theorem getD_app (a b : List Int) (j : Nat) : (a ++ b).getD (a.length + j) 0 = b.getD j 0 := by simp only [List.getD]; rw [List.getElem?_append_right (by omega), Nat.add_sub_cancel_left]
theorem gr_of {w w' : World} {v v' : Value} (h2 : w.grownBy w' v.ownBlock) (h3 : v'.ownBlock = v.ownBlock ∨ v'.ownBlock = some w.heap.size) : Gr w w' v v' := by
  refine ⟨h2.os, h2.tape, h2.output, h2.size, fun j hj hv => h2.block j hj (fun e => hv e.symm), ?_⟩
  rcases h3 with e | e
  · exact .inl e
  · exact .inr ⟨_, e, Nat.le_refl _⟩
theorem esc_z {u : Int} (h : ¬ (8 ≤ u ∧ u ≤ 13)) : esc u = 0 := by
  unfold esc
  rw [if_neg (by omega), if_neg (by omega), if_neg (by omega), if_neg (by omega), if_neg (by omega), if_neg (by omega)]
theorem u16b {x : Int} (h : (Lit.int .u16 x).wf = true) : 0 ≤ x ∧ x ≤ 65535 := by simp [Lit.wf, IntKind.min, IntKind.max, IntKind.bits, IntKind.signed] at h; omega
theorem by_u8 {c : Int} (h : CwV.By c) : (Lit.int .u8 c).wf = true := by have := h.1; have := h.2; simp [Lit.wf, IntKind.min, IntKind.max, IntKind.bits, IntKind.signed]; omega
theorem ub_of {w : World} {A : Option Addr} {n c : Nat} {U : List Int} (h : IsInts .u16 w A n c U) (i : Nat) : 0 ≤ U.getD i 0 ∧ U.getD i 0 ≤ 65535 := by
  by_cases hi : i < n
  · exact u16b (h.wf_at i hi)
  · have hl := h.2.2.1
    have : U.getD i 0 = 0 := by simp [List.getD, List.getElem?_eq_none (show U.length ≤ i by omega)]
    omega
theorem mo_b {w : World} {A : Option Addr} {n c : Nat} {M : List Int} (h : IsInts .u8 w A n c M) (i : Nat) : 0 ≤ mo M i ∧ mo M i ≤ 255 := by
  unfold mo
  split
  · omega
  · rename_i h0
    have hl := h.2.2.1
    have := h.wf_at (i % M.length) (by rw [← hl]; exact Nat.mod_lt _ (by omega))
    exact bounds_u8 this
end Go.Proofs.YtalpfbbceggcaaaDoor.CwK
