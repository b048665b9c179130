/- FnSlotLessMatchesPackedKey: the law's walk. -/
import Derived.Test.YtdifphanmemmlaaRows
import Derived.Test.YtdifphanmemmlaaBitsP
import Derived.WalkKit
import Derived.ProofKit
import Derived.OpenShut
import Derived.Below
import Derived.WalkLawsBesides
import Derived.Lib.Hide
import Derived.Outline
import Derived.RegionTactic
namespace Go.Proofs.Ytdifphanmemmlaa.Slot
open Go.RowKit BitsP
def less (s1 c1 s2 c2 : Int) : Bool := decide (c2 < c1) || (c1 == c2 && decide (s1 < s2))
theorem sl1 (a0 : Int) (a1 : Int) (a2 : Int) (a3 : Int) (w : World) (h : a1 < a3) :
    Calls Try.prog 11 #[.int .u32 a0, .int .u32 a1, .int .u32 a2, .int .u32 a3] w fun e w' => e = .returned (.bool false) ∧ Below w.heap.size w w' := by
  have hne : (a1 == a3) = false := by simp; omega
  have hd : decide (a3 < a1) = false := by simp; omega
  go_enter Try.func11, Try.ntmps11
  go_wp2
  go_region
  all_goals go_wp2
  all_goals go_ret
  all_goals refine ⟨rfl, ?_⟩
  all_goals (repeat (first | exact Below.refl _ _ | apply Below.drew | (refine Below.alloc ?_ (by simp <;> omega) _)))
set_option maxHeartbeats 400000 in
theorem sl2 (a0 : Int) (a1 : Int) (a2 : Int) (b : Bool) (w : World) (hs : decide (a0 < a2) = b) :
    Calls Try.prog 11 #[.int .u32 a0, .int .u32 a1, .int .u32 a2, .int .u32 a1] w fun e w' => e = .returned (.bool b) ∧ Below w.heap.size w w' := by
  have hd : decide (a1 < a1) = false := by simp
  have hne : (a1 == a1) = true := by simp
  go_enter Try.func11, Try.ntmps11
  go_wp2
  go_region
  all_goals go_wp2
  all_goals go_ret
  all_goals refine ⟨rfl, ?_⟩
  all_goals (repeat (first | exact Below.refl _ _ | apply Below.drew | (refine Below.alloc ?_ (by simp <;> omega) _)))
theorem sl3 (a0 : Int) (a1 : Int) (a2 : Int) (a3 : Int) (w : World) (h : a3 < a1) :
    Calls Try.prog 11 #[.int .u32 a0, .int .u32 a1, .int .u32 a2, .int .u32 a3] w fun e w' => e = .returned (.bool true) ∧ Below w.heap.size w w' := by
  have hd : decide (a3 < a1) = true := by simp; omega
  go_enter Try.func11, Try.ntmps11
  go_wp2
  go_region
  all_goals go_wp2
  all_goals go_ret
  all_goals refine ⟨rfl, ?_⟩
  all_goals (repeat (first | exact Below.refl _ _ | apply Below.drew | (refine Below.alloc ?_ (by simp <;> omega) _)))
theorem sl (a0 : Int) (a1 : Int) (a2 : Int) (a3 : Int) (w : World) :
    Calls Try.prog 11 #[.int .u32 a0, .int .u32 a1, .int .u32 a2, .int .u32 a3] w fun e w' => e = .returned (.bool (less a0 a1 a2 a3)) ∧ Below w.heap.size w w' := by
  rcases Int.lt_trichotomy a1 a3 with h | h | h
  · rw [show less a0 a1 a2 a3 = false by simp [less]; omega]
    exact sl1 a0 a1 a2 a3 w h
  · subst h
    exact sl2 a0 a1 a2 _ w (by simp [less])
  · rw [show less a0 a1 a2 a3 = true by simp [less]; omega]
    exact sl3 a0 a1 a2 a3 w h
theorem compl32 (c : Nat) (hc : c < 4294967296) : 4294967295 ^^^ c = 4294967295 - c := by
  apply Nat.eq_of_testBit_eq
  intro i
  have h1 := Nat.testBit_two_pow_sub_succ (n := 32) (x := c) (by omega) i
  have h2 : (2 : Nat) ^ 32 - (c + 1) = 4294967295 - c := by omega
  rw [h2] at h1
  have h3 : (4294967295 : Nat).testBit i = decide (i < 32) := by
    have : (4294967295 : Nat) = 2 ^ 32 - 1 := by decide
    rw [this, Nat.testBit_two_pow_sub_one]
  rw [Nat.testBit_xor, h1, h3]
  by_cases hi : i < 32
  · simp [hi]
  · have : c.testBit i = false := Nat.testBit_lt_two_pow (Nat.lt_of_lt_of_le (show c < 2 ^ 32 by omega) (Nat.pow_le_pow_right (by omega) (by omega)))
    simp [hi, this]
theorem key (c s : Nat) (hc : c < 4294967296) (hs : s < 4294967296) :
    bits .or .u64 (IntKind.u64.wrap (IntKind.u64.wrap (bits .xor .u32 IntKind.u32.max (c : Int)) * 4294967296)) (s : Int) = (4294967295 - (c : Int)) * 4294967296 + s := by
  have hmax : IntKind.u32.max = ((4294967295 : Nat) : Int) := by decide
  have e1 : IntKind.u64.wrap (((4294967295 - c : Nat) : Int)) = ((4294967295 - c : Nat) : Int) := IntWalk.u64_in _ (by omega)
  have e2 : IntKind.u64.wrap (((4294967295 - c : Nat) : Int) * 4294967296) = (((4294967295 - c) * 4294967296 : Nat) : Int) := by
    rw [show ((4294967295 - c : Nat) : Int) * 4294967296 = (((4294967295 - c) * 4294967296 : Nat) : Int) from by simp]
    exact IntWalk.u64_in _ (by omega)
  rw [hmax, u32_xor_nat 4294967295 c (by omega) hc, compl32 c hc, e1, e2, u64_or_nat _ _ (by omega) (by omega), nat_join 32 _ _ (by omega) (by omega)]
  omega
theorem plain (a0 a1 a2 a3 : Int) (p0 : 0 ≤ a0) (q0 : a0 ≤ 4294967295) (p1 : 0 ≤ a1) (q1 : a1 ≤ 4294967295) (p2 : 0 ≤ a2) (q2 : a2 ≤ 4294967295) (p3 : 0 ≤ a3) (q3 : a3 ≤ 4294967295) :
    (less a0 a1 a2 a3 == decide (bits .or .u64 (IntKind.u64.wrap (IntKind.u64.wrap (bits .xor .u32 IntKind.u32.max a1) * 4294967296)) a0 < bits .or .u64 (IntKind.u64.wrap (IntKind.u64.wrap (bits .xor .u32 IntKind.u32.max a3) * 4294967296)) a2)) = true := by
  obtain ⟨x0, rfl⟩ := Int.eq_ofNat_of_zero_le p0
  obtain ⟨x1, rfl⟩ := Int.eq_ofNat_of_zero_le p1
  obtain ⟨x2, rfl⟩ := Int.eq_ofNat_of_zero_le p2
  obtain ⟨x3, rfl⟩ := Int.eq_ofNat_of_zero_le p3
  rw [key x1 x0 (by omega) (by omega), key x3 x2 (by omega) (by omega)]
  rw [beq_iff_eq, Bool.eq_iff_iff]
  simp only [less, Bool.or_eq_true, Bool.and_eq_true, decide_eq_true_eq, beq_iff_eq]
  omega
theorem law (a0 : Int) (a1 : Int) (a2 : Int) (a3 : Int) (w : World) (w0 : (Lit.int .u32 a0).wf = true) (w1 : (Lit.int .u32 a1).wf = true) (w2 : (Lit.int .u32 a2).wf = true) (w3 : (Lit.int .u32 a3).wf = true) :
    Calls Try.prog 4 #[.int .u32 a0, .int .u32 a1, .int .u32 a2, .int .u32 a3] w fun e w' => e = .returned (.bool true) ∧ Below w.heap.size w w' := by
  obtain ⟨p0, q0⟩ := bounds_u32 w0
  obtain ⟨p1, q1⟩ := bounds_u32 w1
  obtain ⟨p2, q2⟩ := bounds_u32 w2
  obtain ⟨p3, q3⟩ := bounds_u32 w3
  go_enter Try.func4, Try.ntmps4
  go_wp2_with (go_at_call 11; refine (sl _ _ _ _ _).mono ?_; rintro e w' ⟨rfl, hb⟩)
  go_ret
  refine ⟨ret_bool ?_, hb⟩
  exact plain a0 a1 a2 a3 p0 q0 p1 q1 p2 q2 p3 q3
end Go.Proofs.Ytdifphanmemmlaa.Slot
