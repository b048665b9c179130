/- Decimal digits: from the back, and by powers of ten. Plain. -/
namespace Go.Proofs.Ytboeigdmccafhaa.Dig
set_option linter.unusedVariables false
set_option linter.unusedSimpArgs false
/-- The digits of n, the greatest first. -/
def digs (n : Nat) : List Nat := if h : n < 10 then [n] else digs (n / 10) ++ [n % 10]
termination_by n
decreasing_by omega
theorem digs_lt {n : Nat} (h : n < 10) : digs n = [n] := by rw [digs]; simp [h]
theorem digs_ge {n : Nat} (h : ¬ n < 10) : digs n = digs (n / 10) ++ [n % 10] := by rw [digs]; simp [h]
/-- j digits of u, by powers of ten. -/
def pad : Nat → Nat → List Nat
  | 0, _ => []
  | j + 1, u => (u / 10 ^ j) :: pad j (u % 10 ^ j)
theorem pad_snoc : ∀ (k n : Nat), n < 10 ^ (k + 1) → pad (k + 1) n = pad k (n / 10) ++ [n % 10] := by
  intro k
  induction k with
  | zero => intro n h; simp [pad] at *; omega
  | succ k ih =>
    intro n h
    have h1 : n % 10 ^ (k + 1) < 10 ^ (k + 1) := Nat.mod_lt _ (Nat.pow_pos (by omega))
    show (n / 10 ^ (k + 1)) :: pad (k + 1) (n % 10 ^ (k + 1)) = ((n / 10) / 10 ^ k :: pad k ((n / 10) % 10 ^ k)) ++ [n % 10]
    rw [ih _ h1]
    have e1 : n / 10 ^ (k + 1) = n / 10 / 10 ^ k := by rw [Nat.div_div_eq_div_mul, Nat.pow_succ, Nat.mul_comm]
    have e2 : n % 10 ^ (k + 1) / 10 = n / 10 % 10 ^ k := by rw [Nat.pow_succ, Nat.mul_comm, Nat.mod_mul_right_div_self]
    have e3 : n % 10 ^ (k + 1) % 10 = n % 10 := Nat.mod_mod_of_dvd n ⟨10 ^ k, by rw [Nat.pow_succ, Nat.mul_comm]⟩
    rw [e1, e2, e3]
    rfl
theorem pad_digs : ∀ (k n : Nat), n < 10 ^ (k + 1) → (k = 0 ∨ 10 ^ k ≤ n) → pad (k + 1) n = digs n := by
  intro k
  induction k with
  | zero => intro n h _; simp at h; simp [pad, digs_lt h]
  | succ k ih =>
    intro n h h2
    have h3 : 10 ^ (k + 1) ≤ n := by rcases h2 with h2 | h2 <;> omega
    have h4 : 10 ≤ n := by
      have : 10 ^ 1 ≤ 10 ^ (k + 1) := Nat.pow_le_pow_right (by omega) (by omega)
      omega
    rw [pad_snoc _ _ h, digs_ge (by omega), ih (n / 10)]
    · rw [Nat.pow_succ] at h; exact Nat.div_lt_of_lt_mul (by rw [Nat.mul_comm]; exact h)
    · right; rw [Nat.le_div_iff_mul_le (by omega)]; rw [Nat.pow_succ] at h3; exact h3
/-- One round from the back. -/
theorem back_step {N m : Nat} {acc : List Nat} (h : digs N = digs m ++ acc) : (m / 10 = 0 → digs N = (m % 10) :: acc) ∧ (m / 10 ≠ 0 → digs N = digs (m / 10) ++ (m % 10) :: acc) := by
  constructor
  · intro h0
    have hm : m < 10 := by omega
    rw [h, digs_lt hm, Nat.mod_eq_of_lt hm]; rfl
  · intro h0
    rw [h, digs_ge (n := m) (by omega)]; simp
/-- One round by powers of ten. -/
theorem pad_step (pre : List Nat) (j u : Nat) : pre ++ pad (j + 1) u = (pre ++ [u / 10 ^ j]) ++ pad j (u % 10 ^ j) := by simp [pad]
theorem digs_len : ∀ (k n : Nat), n < 10 ^ (k + 1) → (digs n).length ≤ k + 1 := by
  intro k
  induction k with
  | zero => intro n h; simp at h; simp [digs_lt h]
  | succ k ih =>
    intro n h
    by_cases h0 : n < 10
    · simp [digs_lt h0]
    · rw [digs_ge h0]
      have := ih (n / 10) (by rw [Nat.pow_succ] at h; exact Nat.div_lt_of_lt_mul (by rw [Nat.mul_comm]; exact h))
      simp; omega
theorem digs_small (n : Nat) : ∀ d ∈ digs n, d < 10 := by
  induction n using Nat.strongRecOn with
  | _ n ih =>
    intro d hd
    by_cases h0 : n < 10
    · rw [digs_lt h0] at hd; simp at hd; omega
    · rw [digs_ge h0] at hd
      simp at hd
      rcases hd with hd | hd
      · exact ih (n / 10) (by omega) d hd
      · omega
end Go.Proofs.Ytboeigdmccafhaa.Dig
