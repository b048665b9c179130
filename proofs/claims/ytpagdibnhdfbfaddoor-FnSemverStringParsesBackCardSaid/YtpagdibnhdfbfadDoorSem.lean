/- Numbers joined by dots, and how they are read back. Plain. -/
import Derived.Test.YtpagdibnhdfbfadDoorOcc
namespace Go.Proofs.YtpagdibnhdfbfadDoor.Smv
open Go.Lib Occ

/-- The numerals of ps, dots between. -/
def jn : List Nat → List UInt8
  | [] => []
  | [p] => decDigits p
  | p :: q :: r => decDigits p ++ 46 :: jn (q :: r)
theorem jn_cons (p : Nat) (r : List Nat) : jn (p :: r) = decDigits p ++ (if r = [] then [] else 46 :: jn r) := by
  cases r with
  | nil => simp [jn]
  | cons q r => simp [jn]
theorem jn_snoc (ps : List Nat) (p : Nat) : jn (ps ++ [p]) = if ps = [] then decDigits p else jn ps ++ 46 :: decDigits p := by
  induction ps with
  | nil => simp [jn]
  | cons q r ih =>
    have h1 : (q :: r ++ [p]) = q :: (r ++ [p]) := rfl
    rw [h1, jn_cons, if_neg (show r ++ [p] ≠ [] by simp), if_neg (show q :: r ≠ [] by simp), jn_cons q r, ih]
    by_cases h : r = []
    · rw [if_pos h, if_pos h]; simp
    · rw [if_neg h, if_neg h]; simp
theorem jn_nil_iff (ps : List Nat) : jn ps = [] ↔ ps = [] := by
  cases ps with
  | nil => simp [jn]
  | cons p r =>
    rw [jn_cons]
    simp [dec_ne p]
theorem jn_take (ps : List Nat) (k : Nat) (h : k < ps.length) : jn (ps.take (k + 1)) = if k = 0 then decDigits ps[k] else jn (ps.take k) ++ 46 :: decDigits ps[k] := by
  rw [List.take_succ_eq_append_getElem h, jn_snoc]
  by_cases hk : k = 0
  · subst hk; simp
  · rw [if_neg hk, if_neg (by intro e; have := congrArg List.length e; simp only [List.length_take, List.length_nil] at this; omega)]
/-- What is left of the text behind k parts. -/
theorem jn_drop (ps : List Nat) (k : Nat) (h : k < ps.length) : jn (ps.drop k) = decDigits ps[k] ++ (if k + 1 = ps.length then [] else 46 :: jn (ps.drop (k + 1))) := by
  rw [List.drop_eq_getElem_cons h, jn_cons]
  by_cases hk : k + 1 = ps.length
  · rw [if_pos hk, if_pos (by simp; omega)]
  · rw [if_neg hk, if_neg (by intro e; have := congrArg List.length e; simp at this; omega)]
theorem dval_snoc (l : List UInt8) (c : UInt8) : dval (l ++ [c]) = dval l * 10 + (c.toNat - 48) := by simp [dval]
theorem dval_take (l : List UInt8) (j : Nat) (h : j < l.length) : dval (l.take (j + 1)) = dval (l.take j) * 10 + (l[j].toNat - 48) := by
  rw [List.take_succ_eq_append_getElem h, dval_snoc]
theorem dval_le (l : List UInt8) : ∀ j, j ≤ l.length → dval (l.take j) ≤ dval l := by
  intro j hj
  obtain ⟨m, hm⟩ : ∃ m, l.length = j + m := ⟨l.length - j, by omega⟩
  clear hj
  induction m generalizing j with
  | zero => rw [List.take_of_length_le (by omega)]; exact Nat.le_refl _
  | succ m ih =>
    have h1 := ih (j + 1) (by omega)
    have h2 := dval_take l j (by omega)
    omega
theorem dval_part (p j : Nat) (h : j ≤ (decDigits p).length) : dval ((decDigits p).take j) ≤ p := by
  have := dval_le (decDigits p) j h
  rwa [dval_dec] at this
theorem dval_all (p : Nat) : dval ((decDigits p).take (decDigits p).length) = p := by rw [List.take_length, dval_dec]
/-- A pre-release text: empty, or a dash at its head. -/
def Pre (l : List UInt8) : Prop := ∀ c r, l = c :: r → c.toNat = 45
/-- The byte behind a part is no digit. -/
theorem behind (ps : List Nat) (pre : List UInt8) (k : Nat) (hp : Pre pre) (c : UInt8) (r : List UInt8)
    (e : (if k + 1 = ps.length then [] else 46 :: jn (ps.drop (k + 1))) ++ pre = c :: r) : isDig c = false ∧ (c.toNat = 46 ↔ k + 1 ≠ ps.length) := by
  by_cases hk : k + 1 = ps.length
  · rw [if_pos hk, List.nil_append] at e
    have h1 := hp c r e
    simp [isDig, h1, hk]
  · rw [if_neg hk, List.cons_append] at e
    injection e with e _
    subst e
    simp [isDig, hk]
end Go.Proofs.YtpagdibnhdfbfadDoor.Smv
