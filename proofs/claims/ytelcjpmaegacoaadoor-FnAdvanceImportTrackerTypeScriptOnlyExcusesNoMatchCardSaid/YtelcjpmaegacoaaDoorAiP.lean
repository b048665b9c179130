/- The eight outcomes of a step of import resolution. Plain. -/
namespace Go.Proofs.YtelcjpmaegacoaaDoor.AiP
/-- What the step is asked. -/
structure Pa where
  al : ByteArray
  star : Bool
  exp : Bool
  valid : Bool
  lazy : Bool
  kw : Int
  ue : Bool
  um : Bool
  kd : Int
  g : Nat → ByteArray
  n : Nat
  hs : Bool
/-- The last of the first n names that is x, or -1. -/
noncomputable def lastK (g : Nat → ByteArray) (x : ByteArray) : Nat → Int
  | 0 => -1
  | n + 1 => @ite _ (g n = x) (Classical.propDecidable _) (n : Int) (lastK g x n)
theorem lastK_lt (g : Nat → ByteArray) (x : ByteArray) : ∀ n, lastK g x n < n
  | 0 => by unfold lastK; decide
  | n + 1 => by
    have := lastK_lt g x n
    unfold lastK
    split <;> omega
noncomputable def Pa.bare (p : Pa) : Prop := p.star = false ∧ p.lazy = false ∧ p.kw = 0 ∧ p.al ≠ "default".toUTF8 ∧ p.ue = false ∧ p.um = false
open Classical in
/-- The outcome: 0 external, 1 no sign of exports, 2 CommonJS, 3 the export star, 4 found, 5 dynamic, 6 a TypeScript type, 7 no match. -/
noncomputable def Pa.out (p : Pa) (ts : Bool) : Nat :=
  if p.valid = false then 0 else if p.bare then 1 else if p.kd = 1 then 2 else if p.star = true ∧ p.hs = true then 3 else if 0 ≤ lastK p.g p.al p.n then 4 else if p.kd = 3 then 5 else if ts = true ∧ p.exp = true then 6 else 7
theorem out_js {p : Pa} : p.out false ≠ 6 := by
  unfold Pa.out
  repeat (first | split | simp_all)
theorem out_same {p : Pa} (h : p.out false ≠ 7 ∨ p.exp = false) : p.out true = p.out false := by
  unfold Pa.out at *
  repeat (first | split | simp_all)
theorem out_ts {p : Pa} (h : p.out false = 7) (he : p.exp = true) : p.out true = 6 := by
  unfold Pa.out at *
  by_cases a0 : p.valid = false
  · rw [if_pos a0] at h; exact absurd h (by decide)
  rw [if_neg a0] at h ⊢
  by_cases a1 : p.bare
  · rw [if_pos a1] at h; exact absurd h (by decide)
  rw [if_neg a1] at h ⊢
  by_cases a2 : p.kd = 1
  · rw [if_pos a2] at h; exact absurd h (by decide)
  rw [if_neg a2] at h ⊢
  by_cases a3 : p.star = true ∧ p.hs = true
  · rw [if_pos a3] at h; exact absurd h (by decide)
  rw [if_neg a3] at h ⊢
  by_cases a4 : 0 ≤ lastK p.g p.al p.n
  · rw [if_pos a4] at h; exact absurd h (by decide)
  rw [if_neg a4] at h ⊢
  by_cases a5 : p.kd = 3
  · rw [if_pos a5] at h; exact absurd h (by decide)
  rw [if_neg a5] at h ⊢
  rw [if_pos ⟨rfl, he⟩]
end Go.Proofs.YtelcjpmaegacoaaDoor.AiP
