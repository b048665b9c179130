/- Plain facts on 64-bit floats' words: which of finite, infinite, not a number a word is; what order, negation and v - v give. -/
import Derived.WalkKit
import Derived.WalkLawsBesides
import Derived.Laws.Cover2
namespace Go.Proofs.Ytdifphanmemmlaa.FloatP
open Ieee

abbrev D : Format := FloatKind.f64.format
theorem sw : D.signWeight = 9223372036854775808 := by decide
theorem bin : D.binade = 4503599627370496 := by decide
theorem inf : D.infRung = 9218868437227405312 := by decide
theorem lp : D.leastPlace = -1074 := by decide

theorem read_eq (b : Nat) : D.read b =
    if b % 9223372036854775808 < 4503599627370496 then .number (b / 9223372036854775808 % 2 == 1) (b % 9223372036854775808) (-1074)
    else if b % 9223372036854775808 < 9218868437227405312 then .number (b / 9223372036854775808 % 2 == 1) (4503599627370496 + b % 9223372036854775808 % 4503599627370496) (-1074 + (b % 9223372036854775808 / 4503599627370496 - 1 : Nat))
    else if b % 9223372036854775808 = 9218868437227405312 then .infinity (b / 9223372036854775808 % 2 == 1)
    else .nan (b / 9223372036854775808 % 2 == 1) (b % 9223372036854775808 - 9218868437227405312) := by
  simp only [Format.read, sw, bin, inf, lp]

theorem neg_mod (b : Nat) : Op.negFloat .f64 b % 9223372036854775808 = b % 9223372036854775808 := by
  unfold Op.negFloat
  have e : (2 : Nat) ^ (FloatKind.f64.format.exponentBits + FloatKind.f64.format.fractionBits) = 2 ^ 63 := by decide
  rw [e, show (9223372036854775808 : Nat) = 2 ^ 63 from by decide, Nat.xor_mod_two_pow]
  simp
theorem neg_div (b : Nat) (hb : b < 18446744073709551616) : (Op.negFloat .f64 b / 9223372036854775808 % 2 == 1) = !(b / 9223372036854775808 % 2 == 1) := by
  unfold Op.negFloat
  have e : (2 : Nat) ^ (FloatKind.f64.format.exponentBits + FloatKind.f64.format.fractionBits) = 2 ^ 63 := by decide
  rw [e, show (9223372036854775808 : Nat) = 2 ^ 63 from by decide, ← Nat.shiftRight_eq_div_pow, ← Nat.shiftRight_eq_div_pow, Nat.shiftRight_xor_distrib]
  have h2 : (2 : Nat) ^ 63 >>> 63 = 1 := by decide
  rw [h2]
  have hq : b >>> 63 = 0 ∨ b >>> 63 = 1 := by rw [Nat.shiftRight_eq_div_pow]; omega
  rcases hq with h | h <;> rw [h] <;> decide
theorem read_neg (b : Nat) (hb : b < 18446744073709551616) : D.read (Op.negFloat .f64 b) = (D.read b).opposite := by
  rw [read_eq, read_eq, neg_mod, neg_div b hb]
  split
  · rfl
  · split
    · rfl
    · split <;> rfl

def Fin (d : Datum) : Prop := ∃ s m i, d = .number s m i ∧ m < 9007199254740992 ∧ i ≤ 971
theorem cases_ (b : Nat) : Fin (D.read b) ∨ (∃ s, D.read b = .infinity s) ∨ (∃ s t, D.read b = .nan s t) := by
  rw [read_eq]
  have h1 : b % 9223372036854775808 < 9223372036854775808 := Nat.mod_lt _ (by omega)
  generalize b % 9223372036854775808 = r at *
  generalize (b / 9223372036854775808 % 2 == 1) = s at *
  split
  · exact .inl ⟨s, r, _, rfl, by omega, by omega⟩
  · split
    · have h2 : r % 4503599627370496 < 4503599627370496 := Nat.mod_lt _ (by omega)
      have h3 : r / 4503599627370496 < 2047 := by omega
      exact .inl ⟨s, _, _, rfl, by omega, by omega⟩
    · split
      · exact .inr (.inl ⟨s, rfl⟩)
      · exact .inr (.inr ⟨s, _, rfl⟩)
theorem read_max : D.read 9218868437227405311 = .number false 9007199254740991 971 := by decide +kernel
theorem read_min : D.read 18442240474082181119 = .number true 9007199254740991 971 := by decide +kernel
theorem read_zero : D.read 0 = .number false 0 (-1074) := by decide +kernel

theorem shl_ge (m n : Nat) : m ≤ m <<< n := by
  rw [Nat.shiftLeft_eq]; exact Nat.le_mul_of_pos_right _ (Nat.two_pow_pos n)
theorem order_max {d : Datum} (h : Fin d) : (d.order (.number false 9007199254740991 971) == some .gt) = false := by
  obtain ⟨s, m, i, rfl, hm, hi⟩ := h
  have hb : min i 971 = i := by omega
  simp only [Datum.order, hb, Int.sub_self, Int.toNat_zero, signed]
  have := shl_ge 9007199254740991 (971 - i).toNat
  generalize 9007199254740991 <<< (971 - i).toNat = N at *
  rw [Bool.eq_false_iff]
  intro hc
  simp only [beq_iff_eq, Option.some.injEq] at hc
  rw [Int.compare_eq_gt] at hc
  cases s <;> simp at hc <;> omega
theorem order_min {d : Datum} (h : Fin d) : (d.order (.number true 9007199254740991 971) == some .lt) = false := by
  obtain ⟨s, m, i, rfl, hm, hi⟩ := h
  have hb : min i 971 = i := by omega
  simp only [Datum.order, hb, Int.sub_self, Int.toNat_zero, signed]
  have := shl_ge 9007199254740991 (971 - i).toNat
  generalize 9007199254740991 <<< (971 - i).toNat = N at *
  rw [Bool.eq_false_iff]
  intro hc
  simp only [beq_iff_eq, Option.some.injEq] at hc
  rw [Int.compare_eq_lt] at hc
  cases s <;> simp at hc <;> omega
theorem order_self {d : Datum} (h : Fin d) : (d.order d != some .eq) = false := by
  obtain ⟨s, m, i, rfl, _, _⟩ := h
  simp [Datum.order]
theorem fin_opp {d : Datum} (h : Fin d) : Fin d.opposite := by
  obtain ⟨s, m, i, rfl, hm, hi⟩ := h
  exact ⟨!s, m, i, rfl, hm, hi⟩
theorem sub_self_fin {b : Nat} (h : Fin (D.read b)) : D.sub b b = some 0 := by
  obtain ⟨s, m, i, e, _, _⟩ := h
  unfold Format.sub
  rw [e]
  have : (Datum.number s m i).sum (Datum.number s m i).opposite = some (.number false 0 i) := by
    simp only [Datum.opposite, Datum.sum, Int.min_self, Int.sub_self, Int.toNat_zero, signed]
    cases s
    · have e0 : (m : Int) + -(m : Int) = 0 := by omega
      simp [e0]
    · have e0 : -(m : Int) + (m : Int) = 0 := by omega
      simp [e0]
  rw [this]
  simp [Format.write, Format.nearest, Format.word]
theorem sub_self_inf {b : Nat} {s : Bool} (h : D.read b = .infinity s) : D.sub b b = none := by
  unfold Format.sub
  rw [h]
  cases s <;> rfl
theorem sub_self_nan {b : Nat} {s : Bool} {t : Nat} (h : D.read b = .nan s t) : D.sub b b = none := by
  unfold Format.sub
  rw [h]
  rfl

/-- The four answers that the law asks of a word and of its negation, and of v - v. -/
structure Facts (b : Nat) (big lit isn bigN isnN fin : Bool) : Prop where
  big : (D.order b 9218868437227405311 == some .gt) = big
  lit : (D.order b 18442240474082181119 == some .lt) = lit
  isn : (D.order b b != some .eq) = isn
  bigN : (D.order (Op.negFloat .f64 b) 9218868437227405311 == some .gt) = bigN
  isnN : (D.order (Op.negFloat .f64 b) (Op.negFloat .f64 b) != some .eq) = isnN
  sub : D.sub b b = if fin then some 0 else none
theorem facts (b : Nat) (hb : b < 18446744073709551616) :
    Facts b false false false false false true ∨ Facts b true false false false false false ∨ Facts b false true false true false false ∨ Facts b false false true false true false := by
  rcases cases_ b with h | ⟨s, h⟩ | ⟨s, t, h⟩
  · refine .inl ⟨?_, ?_, order_self h, ?_, ?_, sub_self_fin h⟩
    · unfold Format.order; rw [read_max]; exact order_max h
    · unfold Format.order; rw [read_min]; exact order_min h
    · unfold Format.order; rw [read_max, read_neg b hb]; exact order_max (fin_opp h)
    · unfold Format.order; rw [read_neg b hb]; exact order_self (fin_opp h)
  · cases s
    · refine .inr (.inl ⟨?_, ?_, ?_, ?_, ?_, sub_self_inf h⟩)
      · unfold Format.order; rw [read_max, h]; rfl
      · unfold Format.order; rw [read_min, h]; rfl
      · unfold Format.order; rw [h]; rfl
      · unfold Format.order; rw [read_max, read_neg b hb, h]; rfl
      · unfold Format.order; rw [read_neg b hb, h]; rfl
    · refine .inr (.inr (.inl ⟨?_, ?_, ?_, ?_, ?_, sub_self_inf h⟩))
      · unfold Format.order; rw [read_max, h]; rfl
      · unfold Format.order; rw [read_min, h]; rfl
      · unfold Format.order; rw [h]; rfl
      · unfold Format.order; rw [read_max, read_neg b hb, h]; rfl
      · unfold Format.order; rw [read_neg b hb, h]; rfl
  · refine .inr (.inr (.inr ⟨?_, ?_, ?_, ?_, ?_, sub_self_nan h⟩))
    · unfold Format.order; rw [read_max, h]; rfl
    · unfold Format.order; rw [read_min, h]; rfl
    · unfold Format.order; rw [h]; rfl
    · unfold Format.order; rw [read_max, read_neg b hb, h]; rfl
    · unfold Format.order; rw [read_neg b hb, h]; rfl

theorem nan_mod (p q : Nat) (h2 : q < 4503599627370495) : (p * 2 ^ 63 + 9218868437227405312 + 1 + q) % 9223372036854775808 = 9218868437227405313 + q := by omega
theorem nan_a (q : Nat) : ¬ 9218868437227405313 + q < 4503599627370496 := by omega
theorem nan_b (q : Nat) : ¬ 9218868437227405313 + q < 9218868437227405312 := by omega
theorem nan_c (q : Nat) : ¬ 9218868437227405313 + q = 9218868437227405312 := by omega
theorem nan_read (p q : Nat) (h2 : q < 4503599627370495) : ∃ s u, D.read (p * 2 ^ 63 + 9218868437227405312 + 1 + q) = .nan s u := by
  rw [read_eq, nan_mod p q h2, if_neg (nan_a q), if_neg (nan_b q), if_neg (nan_c q)]
  exact ⟨_, _, rfl⟩
theorem mod_lt_ (t : Nat) : t / 2 % (2 ^ 52 - 1) < 4503599627370495 := Nat.mod_lt _ (by decide)
theorem nan_cut (t x y : Nat) : (D.order (Question.cut (.nanBits .f64 x y) t) 0 == some .eq) = false := by
  obtain ⟨s, u, h⟩ := nan_read (t % 2) (t / 2 % (2 ^ 52 - 1)) (mod_lt_ t)
  unfold Format.order
  rw [show D.read (Question.cut (.nanBits .f64 x y) t) = .nan s u from h]
  rfl
theorem run_neg (P : Program) (b : Nat) (w : World) : (Op.unary .neg (.float .f64 b)).run P w = .ok (.float .f64 (Op.negFloat .f64 b)) w := rfl
theorem run_sub_some (P : Program) (t : TypeId) (b r : Nat) (w : World) (h : D.sub b b = some r) : (binOp .sub t (.float .f64 b) (.float .f64 b)).run P w = .ok (.float .f64 r) w := by
  simp [binOp, Op.floatArith, h]
theorem run_sub_none (P : Program) (t : TypeId) (b : Nat) (w : World) (h : D.sub b b = none) : ∃ r, (D.order r 0 == some .eq) = false ∧ (binOp .sub t (.float .f64 b) (.float .f64 b)).run P w = .ok (.float .f64 r) w.drew := by
  refine ⟨_, nan_cut ?_ b b, ?_⟩
  rotate_left
  · simp [binOp, Op.floatArith, h, choose]
    rfl
end Go.Proofs.Ytdifphanmemmlaa.FloatP
