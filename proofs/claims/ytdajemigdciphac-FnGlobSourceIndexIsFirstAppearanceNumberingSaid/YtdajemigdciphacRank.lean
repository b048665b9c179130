/- Numbering by first appearance. Plain. -/
namespace Go.Proofs.Ytdajemigdciphac.Rank

/-- What has been numbered before step i: the numbers by key, and how many there are. -/
def F (K : Nat → Nat) : Nat → (Nat → Option Nat) × Nat
  | 0 => (fun _ => none, 0)
  | i + 1 => match (F K i).1 (K i) with
    | some _ => F K i
    | none => (fun k => if k = K i then some (F K i).2 else (F K i).1 k, (F K i).2 + 1)
/-- The number of the key at i. -/
def rk (K : Nat → Nat) (i : Nat) : Nat := ((F K i).1 (K i)).getD (F K i).2
theorem F_hit {K : Nat → Nat} {i x : Nat} (h : (F K i).1 (K i) = some x) : F K (i + 1) = F K i := by simp [F, h]
theorem F_miss {K : Nat → Nat} {i : Nat} (h : (F K i).1 (K i) = none) : F K (i + 1) = (fun k => if k = K i then some (F K i).2 else (F K i).1 k, (F K i).2 + 1) := by simp [F, h]
theorem rk_hit {K : Nat → Nat} {i x : Nat} (h : (F K i).1 (K i) = some x) : rk K i = x := by simp [rk, h]
theorem rk_miss {K : Nat → Nat} {i : Nat} (h : (F K i).1 (K i) = none) : rk K i = (F K i).2 := by simp [rk, h]
theorem F_step (K : Nat → Nat) (i k : Nat) : (F K (i + 1)).1 k = if k = K i then some (rk K i) else (F K i).1 k := by
  cases h : (F K i).1 (K i) with
  | some x =>
    rw [F_hit h, rk_hit h]
    split
    · rename_i e; rw [e, h]
    · rfl
  | none => rw [F_miss h, rk_miss h]
theorem F_none (K : Nat → Nat) (k : Nat) : ∀ i, (∀ j, j < i → K j ≠ k) → (F K i).1 k = none
  | 0, _ => rfl
  | i + 1, h => by
    rw [F_step, if_neg (fun e => h i (by omega) e.symm)]
    exact F_none K k i (fun j hj => h j (by omega))
theorem F_some (K : Nat → Nat) : ∀ i j, j < i → (F K i).1 (K j) = some (rk K j)
  | 0, j, h => by omega
  | i + 1, j, h => by
    rw [F_step]
    by_cases e : K j = K i
    · rw [if_pos e]
      by_cases hj : j = i
      · rw [hj]
      · have h1 := F_some K i j (by omega)
        rw [e] at h1
        rw [rk_hit h1]
    · rw [if_neg e]
      have hj : j ≠ i := fun h => e (by rw [h])
      exact F_some K i j (by omega)
theorem rk_eq {K : Nat → Nat} {i j : Nat} (h : j < i) (e : K j = K i) : rk K i = rk K j ∧ F K (i + 1) = F K i := by
  have h1 := F_some K i j h
  rw [e] at h1
  exact ⟨rk_hit h1, F_hit h1⟩
theorem rk_new {K : Nat → Nat} {i : Nat} (h : ∀ j, j < i → K j ≠ K i) : rk K i = (F K i).2 ∧ (F K (i + 1)).2 = (F K i).2 + 1 := by
  have h1 := F_none K (K i) i h
  exact ⟨rk_miss h1, by rw [F_miss h1]⟩
theorem F_le (K : Nat → Nat) : ∀ i, (F K i).2 ≤ i
  | 0 => Nat.le_refl _
  | i + 1 => by
    have := F_le K i
    cases h : (F K i).1 (K i) with
    | some x => rw [F_hit h]; omega
    | none => rw [F_miss h]; simp only; omega
theorem rk_lt (K : Nat → Nat) (i : Nat) : rk K i ≤ i ∧ ∀ k x, (F K i).1 k = some x → x < (F K i).2 := by
  have hb : ∀ i k x, (F K i).1 k = some x → x < (F K i).2 := by
    intro i
    induction i with
    | zero => intro k x h; simp [F] at h
    | succ i ih =>
      intro k x h
      cases h0 : (F K i).1 (K i) with
      | some y => rw [F_hit h0] at h ⊢; exact ih k x h
      | none =>
        rw [F_miss h0] at h ⊢
        simp only at h ⊢
        split at h
        · injection h with h; omega
        · have := ih k x h; omega
  refine ⟨?_, hb i⟩
  have := F_le K i
  cases h0 : (F K i).1 (K i) with
  | some y => rw [rk_hit h0]; have := hb i _ _ h0; omega
  | none => rw [rk_miss h0]; exact this
end Go.Proofs.Ytdajemigdciphac.Rank
