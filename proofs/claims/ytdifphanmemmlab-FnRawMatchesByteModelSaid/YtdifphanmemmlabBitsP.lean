/- Plain facts on the bits of 16-bit and 64-bit words, no program in sight. -/
import Derived.WalkKit
import Derived.Laws.BitsAllLaws
namespace Go.Proofs.Ytdifphanmemmlab.BitsP

theorem ret_bool {a b : Bool} (h : a = b) : Ending.returned (.bool a) = .returned (.bool b) := by rw [h]

theorem pow_lt16 (i : Nat) (hi : i < 16) : 2 ^ i < 65536 := by
  have : 2 ^ i < 2 ^ 16 := Nat.pow_lt_pow_right (by omega) hi
  omega
theorem wrap_pow16 (i : Nat) (hi : i < 16) : IntKind.u16.wrap ((2 : Int) ^ i) = ((2 ^ i : Nat) : Int) := by
  have := pow_lt16 i hi
  rw [IntKind.wrap_u16, show ((2 : Int) ^ i) = ((2 ^ i : Nat) : Int) from by simp]
  generalize 2 ^ i = m at *
  omega

theorem and_pow_ne (x i : Nat) : (x &&& 2 ^ i != 0) = x.testBit i := by
  rw [nat_bit]
  have hp : 0 < 2 ^ i := Nat.two_pow_pos i
  have ht : x.testBit i = decide (x / 2 ^ i % 2 = 1) := by
    rw [Nat.testBit_eq_decide_div_mod_eq]
  rw [ht, Bool.eq_iff_iff]
  rcases Nat.mod_two_eq_zero_or_one (x / 2 ^ i) with h | h <;> simp [h]

theorem cast_ne_zero (n : Nat) : (((n : Nat) : Int) != 0) = (n != 0) := by
  rw [Bool.eq_iff_iff]; simp

theorem has_u16 (x : Nat) (hx : x < 65536) (i : Nat) (hi : i < 16) : (bits .and .u16 (x : Int) (IntKind.u16.wrap ((2 : Int) ^ i)) != 0) = x.testBit i := by
  rw [wrap_pow16 i hi, u16_and_nat x _ hx (pow_lt16 i hi), cast_ne_zero, and_pow_ne]

def ov16 (f o m : Nat) : Nat := (f &&& (65535 ^^^ m)) ||| (o &&& m)
theorem xor_lt16 (m : Nat) (hm : m < 65536) : 65535 ^^^ m < 65536 := Nat.xor_lt_two_pow (n := 16) (by omega) hm
theorem ov16_lt (f o m : Nat) (hf : f < 65536) (ho : o < 65536) : ov16 f o m < 65536 := by
  have h1 : f &&& (65535 ^^^ m) ≤ f := Nat.and_le_left
  have h2 : o &&& m ≤ o := Nat.and_le_left
  exact Nat.or_lt_two_pow (n := 16) (by omega) (by omega)
theorem ov16_eq (f o m : Nat) (hf : f < 65536) (ho : o < 65536) (hm : m < 65536) :
    bits .or .u16 (bits .and .u16 (f : Int) (bits .xor .u16 IntKind.u16.max (m : Int))) (bits .and .u16 (o : Int) (m : Int)) = ((ov16 f o m : Nat) : Int) := by
  have hmax : IntKind.u16.max = ((65535 : Nat) : Int) := by decide
  rw [hmax, u16_xor_nat 65535 m (by omega) hm, u16_and_nat f _ hf (xor_lt16 m hm), u16_and_nat o m ho hm]
  have h1 : f &&& (65535 ^^^ m) ≤ f := Nat.and_le_left
  have h2 : o &&& m ≤ o := Nat.and_le_left
  rw [u16_or_nat _ _ (by omega) (by omega)]
  rfl
theorem all16 (i : Nat) (hi : i < 16) : (65535 : Nat).testBit i = true := by
  have : (65535 : Nat) = 2 ^ 16 - 1 := by decide
  rw [this, Nat.testBit_two_pow_sub_one]; simp [hi]
theorem ov16_bit (f o m i : Nat) (hi : i < 16) : (ov16 f o m).testBit i = if m.testBit i then o.testBit i else f.testBit i := by
  unfold ov16
  rw [Nat.testBit_or, Nat.testBit_and, Nat.testBit_and, Nat.testBit_xor, all16 i hi]
  cases m.testBit i <;> simp

def ov64 (f o m : Nat) : Nat := (f &&& (18446744073709551615 ^^^ m)) ||| (o &&& m)
theorem xor_lt64 (m : Nat) (hm : m < 18446744073709551616) : 18446744073709551615 ^^^ m < 18446744073709551616 := Nat.xor_lt_two_pow (n := 64) (by omega) hm
theorem ov64_lt (f o m : Nat) (hf : f < 18446744073709551616) (ho : o < 18446744073709551616) : ov64 f o m < 18446744073709551616 := by
  have h1 : f &&& (18446744073709551615 ^^^ m) ≤ f := Nat.and_le_left
  have h2 : o &&& m ≤ o := Nat.and_le_left
  exact Nat.or_lt_two_pow (n := 64) (by omega) (by omega)
theorem ov64_eq (f o m : Nat) (hf : f < 18446744073709551616) (ho : o < 18446744073709551616) (hm : m < 18446744073709551616) :
    bits .or .u64 (bits .and .u64 (f : Int) (bits .xor .u64 IntKind.u64.max (m : Int))) (bits .and .u64 (o : Int) (m : Int)) = ((ov64 f o m : Nat) : Int) := by
  have hmax : IntKind.u64.max = ((18446744073709551615 : Nat) : Int) := by decide
  rw [hmax, u64_xor_nat 18446744073709551615 m (by omega) hm, u64_and_nat f _ hf (xor_lt64 m hm), u64_and_nat o m ho hm]
  have h1 : f &&& (18446744073709551615 ^^^ m) ≤ f := Nat.and_le_left
  have h2 : o &&& m ≤ o := Nat.and_le_left
  rw [u64_or_nat _ _ (by omega) (by omega)]
  rfl
theorem all64 (i : Nat) (hi : i < 64) : (18446744073709551615 : Nat).testBit i = true := by
  have : (18446744073709551615 : Nat) = 2 ^ 64 - 1 := by decide
  rw [this, Nat.testBit_two_pow_sub_one]; simp [hi]
theorem ov64_bit (f o m i : Nat) (hi : i < 64) : (ov64 f o m).testBit i = if m.testBit i then o.testBit i else f.testBit i := by
  unfold ov64
  rw [Nat.testBit_or, Nat.testBit_and, Nat.testBit_and, Nat.testBit_xor, all64 i hi]
  cases m.testBit i <;> simp

/-- The low k bits of x. -/
def low (x k : Nat) : Nat := x % 2 ^ k
theorem low_succ (x k : Nat) : low x (k + 1) = low x k ||| ((x >>> k &&& 1) <<< k) := by
  apply Nat.eq_of_testBit_eq
  intro j
  unfold low
  rw [Nat.testBit_or, Nat.testBit_mod_two_pow, Nat.testBit_mod_two_pow, Nat.testBit_shiftLeft, Nat.testBit_and]
  rcases Nat.lt_trichotomy j k with h | h | h
  · have h1 : ¬ k ≤ j := by omega
    simp [h, h1, show j < k + 1 from by omega]
  · subst h
    simp
  · have h1 : ¬ j < k := by omega
    have h2 : ¬ j < k + 1 := by omega
    have h3 : (1 : Nat).testBit (j - k) = false := by
      rw [Nat.testBit_eq_decide_div_mod_eq]
      have : 1 < 2 ^ (j - k) := Nat.one_lt_two_pow (by omega)
      rw [Nat.div_eq_of_lt this]; simp
    simp [h1, h2, h3]
end Go.Proofs.Ytdifphanmemmlab.BitsP
