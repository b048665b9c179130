/- Names of letters and their numbered repeats. Plain. -/
import Derived.Lib.ItoaNum
namespace Go.Proofs.YtpagdibnhdfbfadDoor.Occ
open Go.Lib

def isLet (c : UInt8) : Bool := (97 ≤ c.toNat && c.toNat ≤ 122) || (65 ≤ c.toNat && c.toNat ≤ 90)
def isDig (c : UInt8) : Bool := 48 ≤ c.toNat && c.toNat ≤ 57
theorem dig_not_let {c : UInt8} (h : isDig c = true) : isLet c = false := by
  simp [isDig, isLet] at h ⊢
  omega
theorem dec_lt {u : Nat} (h : u < 10) : decDigits u = [UInt8.ofNat (48 + u)] := by rw [decDigits, dif_pos h]
theorem dec_ge {u : Nat} (h : ¬ u < 10) : decDigits u = decDigits (u / 10) ++ [UInt8.ofNat (48 + u % 10)] := by rw [decDigits, dif_neg h]
theorem of_nat (d : Nat) (h : d < 10) : (UInt8.ofNat (48 + d)).toNat = 48 + d := by
  rw [UInt8.toNat_ofNat']
  exact Nat.mod_eq_of_lt (by omega)
theorem dec_digit (u : Nat) : ∀ c ∈ decDigits u, isDig c = true := by
  induction u using Nat.strongRecOn with
  | _ u ih =>
    intro c hc
    by_cases h : u < 10
    · rw [dec_lt h] at hc
      simp only [List.mem_singleton] at hc
      subst hc
      simp only [isDig, of_nat u h, Bool.and_eq_true, decide_eq_true_eq]
      omega
    · rw [dec_ge h] at hc
      simp only [List.mem_append, List.mem_singleton] at hc
      rcases hc with hc | hc
      · exact ih (u / 10) (by omega) c hc
      · subst hc
        simp only [isDig, of_nat (u % 10) (by omega), Bool.and_eq_true, decide_eq_true_eq]
        omega
theorem dec_ne (u : Nat) : decDigits u ≠ [] := by
  by_cases h : u < 10
  · rw [dec_lt h]; simp
  · rw [dec_ge h]; simp
def dval (l : List UInt8) : Nat := l.foldl (fun a c => a * 10 + (c.toNat - 48)) 0
theorem dval_dec (u : Nat) : dval (decDigits u) = u := by
  induction u using Nat.strongRecOn with
  | _ u ih =>
    by_cases h : u < 10
    · rw [dec_lt h]
      simp only [dval, List.foldl_cons, List.foldl_nil, of_nat u h]
      omega
    · have := ih (u / 10) (by omega)
      rw [dec_ge h]
      unfold dval at this ⊢
      rw [List.foldl_append, this]
      simp only [List.foldl_cons, List.foldl_nil, of_nat (u % 10) (by omega)]
      omega
theorem dec_inj {u v : Nat} (h : decDigits u = decDigits v) : u = v := by
  have := congrArg dval h
  rwa [dval_dec, dval_dec] at this
/-- Letters, then something that is no letter at its head: the parting is one. -/
theorem part_one : ∀ (l1 l2 d1 d2 : List UInt8), (∀ c ∈ l1, isLet c = true) → (∀ c ∈ l2, isLet c = true) → (∀ c ∈ d1, isLet c = false) → (∀ c ∈ d2, isLet c = false) → l1 ++ d1 = l2 ++ d2 → l1 = l2 ∧ d1 = d2
  | [], [], d1, d2, _, _, _, _, h => ⟨rfl, by simpa using h⟩
  | [], c :: l2, d1, d2, _, h2, h3, _, h => by
    simp only [List.nil_append, List.cons_append] at h
    have a := h3 c (by rw [h]; simp)
    have b := h2 c (by simp)
    rw [a] at b; cases b
  | c :: l1, [], d1, d2, h1, _, _, h4, h => by
    simp only [List.nil_append, List.cons_append] at h
    have a := h4 c (by rw [← h]; simp)
    have b := h1 c (by simp)
    rw [a] at b; cases b
  | a :: l1, b :: l2, d1, d2, h1, h2, h3, h4, h => by
    simp only [List.cons_append, List.cons.injEq] at h
    obtain ⟨r1, r2⟩ := part_one l1 l2 d1 d2 (fun c hc => h1 c (by simp [hc])) (fun c hc => h2 c (by simp [hc])) h3 h4 h.2
    exact ⟨by rw [h.1, r1], r2⟩
/-- How often x stands before i. -/
def occ (zs : List (List UInt8)) (x : List UInt8) : Nat → Nat
  | 0 => 0
  | i + 1 => occ zs x i + if zs[i]? = some x then 1 else 0
theorem occ_le (zs : List (List UInt8)) (x : List UInt8) : ∀ i, occ zs x i ≤ i
  | 0 => Nat.le_refl _
  | i + 1 => by have := occ_le zs x i; simp only [occ]; split <;> omega
/-- What has been used before step i: u s is what the map holds of s. -/
def Us (zs : List (List UInt8)) (i : Nat) (u : List UInt8 → Option Nat) : Prop :=
  (∀ x, (∀ c ∈ x, isLet c = true) → u x = if occ zs x i = 0 then none else some 1) ∧ ∀ x t, (∀ c ∈ x, isLet c = true) → 2 ≤ t → ((u (x ++ decDigits t)).isSome = true ↔ t ≤ occ zs x i)
theorem us_zero (zs : List (List UInt8)) : Us zs 0 (fun _ => none) := ⟨fun x _ => rfl, fun x t _ ht => by simp [occ]; omega⟩
theorem let_ne {x y : List UInt8} {t : Nat} (hx : ∀ c ∈ x, isLet c = true) (hy : ∀ c ∈ y, isLet c = true) : x ≠ y ++ decDigits t := by
  intro e
  have := part_one x y [] (decDigits t) hx hy (by simp) (fun c hc => dig_not_let (dec_digit t c hc)) (by simpa using e)
  exact dec_ne t this.2.symm
theorem us_new {zs : List (List UInt8)} {i : Nat} {u u' : List UInt8 → Option Nat} {x : List UInt8} (h : Us zs i u) (hx : zs[i]? = some x) (hl : ∀ c ∈ x, isLet c = true) (h0 : occ zs x i = 0)
    (hu : ∀ s, u' s = if s = x then some 1 else u s) : Us zs (i + 1) u' := by
  refine ⟨fun y hy => ?_, fun y t hy ht => ?_⟩
  · rw [hu]
    by_cases e : y = x
    · subst e; rw [if_pos rfl, if_neg (by simp only [occ, hx, if_true]; omega)]
    · rw [if_neg e, h.1 y hy]
      have : occ zs y (i + 1) = occ zs y i := by
        simp only [occ, hx]
        rw [if_neg (fun e' => e (by injection e' with e'; exact e'.symm))]; rfl
      rw [this]
  · rw [hu, if_neg (Ne.symm (let_ne hl hy)), h.2 y t hy ht]
    by_cases e : y = x
    · subst e; simp only [occ, hx, if_true]; omega
    · have : occ zs y (i + 1) = occ zs y i := by
        simp only [occ, hx]
        rw [if_neg (fun e' => e (by injection e' with e'; exact e'.symm))]; rfl
      rw [this]
theorem us_rep {zs : List (List UInt8)} {i v : Nat} {u u' : List UInt8 → Option Nat} {x : List UInt8} (h : Us zs i u) (hx : zs[i]? = some x) (hl : ∀ c ∈ x, isLet c = true) (h0 : occ zs x i ≠ 0)
    (hu : ∀ s, u' s = if s = x ++ decDigits (occ zs x i + 1) then some v else u s) : Us zs (i + 1) u' := by
  have hoc : ∀ y, y ≠ x → occ zs y (i + 1) = occ zs y i := by
    intro y e
    simp only [occ, hx]
    rw [if_neg (fun e' => e (by injection e' with e'; exact e'.symm))]; rfl
  have hox : occ zs x (i + 1) = occ zs x i + 1 := by simp only [occ, hx, if_true]
  refine ⟨fun y hy => ?_, fun y t hy ht => ?_⟩
  · rw [hu, if_neg (let_ne hy hl), h.1 y hy]
    by_cases e : y = x
    · subst e; rw [if_neg h0, if_neg (by omega)]
    · rw [hoc y e]
  · rw [hu]
    by_cases e : y = x
    · subst e
      by_cases et : t = occ zs y i + 1
      · subst et; rw [if_pos rfl, hox]; simp
      · rw [if_neg (fun e' => et (dec_inj (List.append_cancel_left e'))), h.2 y t hy ht, hox]; omega
    · rw [if_neg (fun e' => e (part_one y x _ _ hy hl (fun c hc => dig_not_let (dec_digit t c hc)) (fun c hc => dig_not_let (dec_digit _ c hc)) e').1), h.2 y t hy ht, hoc y e]
end Go.Proofs.YtpagdibnhdfbfadDoor.Occ
