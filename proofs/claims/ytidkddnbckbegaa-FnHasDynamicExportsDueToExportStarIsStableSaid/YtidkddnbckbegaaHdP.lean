/- FnHasDynamicExportsDueToExportStarIsStable: the search as a function. Plain. -/
import Derived.WalkKit
namespace Go.Proofs.Ytidkddnbckbegaa.HdP
set_option linter.unusedVariables false
/-- Kinds that are dynamic. -/
def dyn (x : Int) : Bool := x == 1 || x == 3
def upv (V : Nat → Bool) (s : Nat) : Nat → Bool := fun x => if x = s then true else V x
theorem upv_self (V : Nat → Bool) (s : Nat) : upv V s s = true := if_pos rfl
theorem upv_ne (V : Nat → Bool) {s x : Nat} (h : x ≠ s) : upv V s x = V x := if_neg h
/-- The stars of file s, one by one. -/
def goL (g : (Nat → Bool) → Nat → Bool × (Nat → Bool)) (s : Nat) : List Int → (Nat → Bool) → Bool × (Nat → Bool)
  | [], V => (false, V)
  | t :: ts, V => if t < 0 then (true, V) else if t.toNat = s then goL g s ts V else if (g V t.toNat).1 = true then (true, V) else goL g s ts (g V t.toNat).2
def go (K : Nat → Int) (Z : Nat → List Int) : Nat → (Nat → Bool) → Nat → Bool × (Nat → Bool)
  | 0, V, _ => (false, V)
  | f + 1, V, s => if dyn (K s) = true then (true, V) else if V s = true then (false, V) else goL (go K Z f) s (Z s) (upv V s)
section
variable {K : Nat → Int} {Z : Nat → List Int} {f s : Nat} {V : Nat → Bool} {g : (Nat → Bool) → Nat → Bool × (Nat → Bool)} {t : Int} {ts : List Int}
theorem go_dyn (h : dyn (K s) = true) : go K Z (f + 1) V s = (true, V) := by unfold go; rw [if_pos h]
theorem go_seen (h : dyn (K s) = false) (hv : V s = true) : go K Z (f + 1) V s = (false, V) := by unfold go; rw [if_neg (by rw [h]; decide), if_pos hv]
theorem go_scan (h : dyn (K s) = false) (hv : V s = false) : go K Z (f + 1) V s = goL (go K Z f) s (Z s) (upv V s) := by
  conv => lhs; unfold go
  rw [if_neg (by rw [h]; decide), if_neg (by rw [hv]; decide)]
theorem goL_nil : goL g s [] V = (false, V) := rfl
theorem goL_ext (h : t < 0) : goL g s (t :: ts) V = (true, V) := by unfold goL; rw [if_pos h]
theorem goL_self (h : ¬ t < 0) (e : t.toNat = s) : goL g s (t :: ts) V = goL g s ts V := by
  conv => lhs; unfold goL
  rw [if_neg h, if_pos e]
theorem goL_yes (h : ¬ t < 0) (e : t.toNat ≠ s) (hg : (g V t.toNat).1 = true) : goL g s (t :: ts) V = (true, V) := by unfold goL; rw [if_neg h, if_neg e, if_pos hg]
theorem goL_no (h : ¬ t < 0) (e : t.toNat ≠ s) (hg : (g V t.toNat).1 = false) : goL g s (t :: ts) V = goL g s ts (g V t.toNat).2 := by
  conv => lhs; unfold goL
  rw [if_neg h, if_neg e, if_neg (by rw [hg]; decide)]
end
/-- How many are not visited. -/
def uv (V : Nat → Bool) : Nat → Nat
  | 0 => 0
  | n + 1 => uv V n + if V n = true then 0 else 1
theorem uv_le (V : Nat → Bool) : ∀ n, uv V n ≤ n
  | 0 => Nat.le_refl _
  | n + 1 => by
    have := uv_le V n
    show uv V n + (if V n = true then 0 else 1) ≤ n + 1
    split <;> omega
theorem uv_mono {V V' : Nat → Bool} (h : ∀ x, V x = true → V' x = true) : ∀ n, uv V' n ≤ uv V n
  | 0 => Nat.le_refl _
  | n + 1 => by
    have := uv_mono h n
    have := h n
    show uv V' n + (if V' n = true then 0 else 1) ≤ uv V n + (if V n = true then 0 else 1)
    split <;> split <;> first | omega | simp_all
theorem uv_up {V : Nat → Bool} {s : Nat} (hv : V s = false) : ∀ {n}, uv (upv V s) n + (if s < n then 1 else 0) = uv V n
  | 0 => by simp [uv]
  | n + 1 => by
    have ih := uv_up hv (n := n)
    show uv (upv V s) n + (if upv V s n = true then 0 else 1) + _ = uv V n + (if V n = true then 0 else 1)
    by_cases e : n = s
    · subst e
      rw [upv_self, hv, if_pos rfl, if_pos (Nat.lt_succ_self _), if_neg (by decide)]
      rw [if_neg (Nat.lt_irrefl _)] at ih
      omega
    · rw [upv_ne _ e]
      have : (s < n + 1) = (s < n) := by apply propext; omega
      simp only [this]
      omega
theorem up_le (V : Nat → Bool) (s x : Nat) (h : V x = true) : upv V s x = true := by
  unfold upv; split; rfl; exact h
theorem drop_at {zs : List Int} {j : Nat} {t : Int} (h : zs[j]? = some t) : zs.drop j = t :: zs.drop (j + 1) := by
  obtain ⟨hl, he⟩ := List.getElem?_eq_some_iff.1 h
  rw [List.drop_eq_getElem_cons hl, he]
end Go.Proofs.Ytidkddnbckbegaa.HdP
