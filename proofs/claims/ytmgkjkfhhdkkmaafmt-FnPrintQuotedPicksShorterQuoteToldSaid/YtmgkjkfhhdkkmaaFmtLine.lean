/- The start of the last line of a text of bytes, and what currentLineLength leaves in the printer. Plain. -/
import Derived.Test.YtmgkjkfhhdkkmaaFmtSl
namespace Go.Proofs.YtmgkjkfhhdkkmaaFmt.Line
open Go.RowKit Mem

def isNl (z : Int) : Bool := z == 13 || z == 10
/-- Where the line that ends at i begins, looked for downwards as far as stop; old if there is no break. -/
def nlFrom (zs : List Int) (stop : Nat) (old : Int) : Nat → Int
  | 0 => old
  | i + 1 => if i + 1 ≤ stop then old else if isNl (zs.getD i 0) then ((i + 1 : Nat) : Int) else nlFrom zs stop old i
theorem nl_hit (zs : List Int) (e0 : Nat) (s0 : Int) (j : Nat) (h : e0 < j + 1) (hx : isNl (zs.getD j 0) = true) : nlFrom zs e0 s0 (j + 1) = (j : Int) + 1 := by
  simp only [nlFrom]; rw [if_neg (by omega), if_pos hx]; omega
theorem nl_miss (zs : List Int) (e0 : Nat) (s0 : Int) (j : Nat) (h : e0 < j + 1) (hx : isNl (zs.getD j 0) = false) : nlFrom zs e0 s0 (j + 1) = nlFrom zs e0 s0 j := by
  rw [nlFrom, if_neg (by omega), if_neg (by rw [hx]; simp)]
theorem nl_stop (zs : List Int) (e0 : Nat) (s0 : Int) (k : Nat) (h : k ≤ e0) : nlFrom zs e0 s0 k = s0 := by
  cases k with
  | zero => rfl
  | succ k => rw [nlFrom, if_pos h]
theorem nl_bounds (zs : List Int) : ∀ k : Nat, 0 ≤ nlFrom zs 0 0 k ∧ nlFrom zs 0 0 k ≤ k
  | 0 => by simp [nlFrom]
  | k + 1 => by
    have ih := nl_bounds zs k
    rw [nlFrom, if_neg (by omega)]
    split
    · omega
    · omega
theorem nl_step (zs : List Int) (e0 : Nat) (s0 : Int) (k : Nat) (h : e0 < k + 1) : nlFrom zs e0 s0 (k + 1) = if isNl (zs.getD k 0) then ((k + 1 : Nat) : Int) else nlFrom zs e0 s0 k := by
  rw [nlFrom, if_neg (by omega)]
theorem nl_two (zs : List Int) (cut : Nat) : ∀ k : Nat, cut ≤ k → nlFrom zs cut (nlFrom zs 0 0 cut) k = nlFrom zs 0 0 k
  | 0, h => by have : cut = 0 := by omega
               subst this; rfl
  | k + 1, h => by
    rcases Nat.lt_or_ge cut (k + 1) with hlt | hge
    · rw [nl_step _ _ _ _ hlt, nl_step zs 0 0 k (by omega), nl_two zs cut k (by omega)]
    · have : cut = k + 1 := by omega
      subst this
      rw [nl_stop _ _ _ _ (Nat.le_refl _)]
theorem nl_take (zs : List Int) (cut : Nat) : ∀ k : Nat, k ≤ cut → nlFrom (zs.take cut) 0 0 k = nlFrom zs 0 0 k
  | 0, _ => rfl
  | k + 1, h => by
    have e : (zs.take cut).getD k 0 = zs.getD k 0 := by simp [List.getD, show k < cut from by omega]
    rw [nlFrom, nlFrom, e, nl_take zs cut k (by omega)]

/-- What the call leaves: the two fields in the printer's block, nothing else written. -/
def LineDone (w : World) (p : Nat) (t : TypeId) (cs : List Value) (os oe : Nat) (S : Int) (n : Nat) (w' : World) : Prop :=
  Row w' p t ((cs.set os (.int .i64 S)).set oe (.int .i64 n)) ∧ w.grownBy w' (some p) ∧ w'.heap.size = w.heap.size
theorem line_done_hit {w : World} {p n j os oe : Nat} {t : TypeId} {cs : List Value} {S S' : Int} (h : Row w p t cs) (he : S = S') (hf : S' = (j : Int) + 1) :
    Ending.returned (.int .i64 ((n : Int) - ((j : Int) + 1))) = .returned (.int .i64 ((n : Int) - S)) ∧ LineDone w p t cs os oe S n ((w.setCell ⟨p, os, none⟩ (.int .i64 ((j : Int) + 1))).setCell ⟨p, oe, none⟩ (.int .i64 n)) := by
  subst he
  rw [hf]
  exact ⟨rfl, (h.set os _).set oe _, grown_set (grown_set (grown_refl _ _) _ _) _ _, by simp⟩
theorem line_done_miss {w : World} {p n os oe : Nat} {t : TypeId} {cs : List Value} {S S' s0 : Int} (h : Row w p t cs) (he : S = S') (hf : S' = s0) (hs : cs[os]? = some (.int .i64 s0)) :
    Ending.returned (.int .i64 ((n : Int) - s0)) = .returned (.int .i64 ((n : Int) - S)) ∧ LineDone w p t cs os oe S n (w.setCell ⟨p, oe, none⟩ (.int .i64 n)) := by
  subst he
  rw [hf]
  refine ⟨rfl, ?_, grown_set (grown_refl _ _) _ _, by simp⟩
  have e : cs.set os (.int .i64 s0) = cs := by
    apply List.ext_getElem?
    intro i
    rw [List.getElem?_set]
    split
    · rename_i hi
      subst hi
      split
      · exact hs.symm
      · rename_i hl
        rw [List.getElem?_eq_none (by omega)]
    · rfl
  rw [e]
  exact h.set oe _
end Go.Proofs.YtmgkjkfhhdkkmaaFmt.Line
