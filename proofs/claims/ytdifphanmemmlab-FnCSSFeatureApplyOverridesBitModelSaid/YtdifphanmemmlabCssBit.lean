/- FnCSSFeatureApplyOverridesBitModel: the law's walk. -/
import Derived.Test.YtdifphanmemmlabRows
import Derived.Test.YtdifphanmemmlabBitsP
import Derived.WalkKit
import Derived.ProofKit
import Derived.OpenShut
import Derived.Below
import Derived.WalkLawsBesides
import Derived.Lib.Hide
import Derived.Outline
import Derived.RegionTactic
import Derived.Deep.QuietTactic
import Derived.BigQuiet
namespace Go.Proofs.Ytdifphanmemmlab.CssBit
open Go.RowKit BitsP
theorem low_set (R k : Nat) (h : R.testBit k = true) : low R (k + 1) = low R k ||| 2 ^ k := by
  have hh : R / 2 ^ k % 2 = 1 := by rw [Nat.testBit_eq_decide_div_mod_eq] at h; simpa using h
  rw [low_succ, Nat.shiftRight_eq_div_pow, nat_mask1, hh, Nat.shiftLeft_eq, Nat.one_mul]
theorem low_clear (R k : Nat) (h : R.testBit k = false) : low R (k + 1) = low R k := by
  have hh : R / 2 ^ k % 2 = 0 := by rw [Nat.testBit_eq_decide_div_mod_eq] at h; simp at h; omega
  rw [low_succ, Nat.shiftRight_eq_div_pow, nat_mask1, hh]; simp
theorem low_lt (R k : Nat) (hk : k < 16) : low R k < 65536 := by
  unfold low
  have h1 : R % 2 ^ k < 2 ^ k := Nat.mod_lt _ (Nat.two_pow_pos k)
  have h2 : 2 ^ k < 2 ^ 16 := Nat.pow_lt_pow_right (by omega) hk
  omega
def Rel (R : Nat) (x i : Value) : Prop := ∃ k : Nat, k ≤ 16 ∧ i = .int .i64 k ∧ x = .int .u16 (low R k : Nat)
theorem rel_set (R k : Nat) (hk : k < 16) (h : R.testBit k = true) : Rel R (.int .u16 (bits .or .u16 (low R k : Nat) (IntKind.u16.wrap (2 ^ k)))) (.int .i64 ((k : Int) + 1)) :=
  ⟨k + 1, by omega, by go_num, by rw [wrap_pow16 k hk, u16_or_nat _ _ (low_lt R k hk) (pow_lt16 k hk), low_set R k h]⟩
theorem rel_clear (R k : Nat) (hk : k < 16) (h : R.testBit k = false) : Rel R (.int .u16 (low R k : Nat)) (.int .i64 ((k : Int) + 1)) :=
  ⟨k + 1, by omega, by go_num, by rw [low_clear R k h]⟩
theorem final (f o m k : Nat) (hf : f ≤ 65535) (ho : o ≤ 65535) (hm : m ≤ 65535) (hk : 16 ≤ k) (hk' : k ≤ 16) :
    (bits .or .u16 (bits .and .u16 (f : Int) (bits .xor .u16 IntKind.u16.max (m : Int))) (bits .and .u16 (o : Int) (m : Int)) == ((low (ov16 f o m) k : Nat) : Int)) = true := by
  have : k = 16 := by omega
  subst this
  rw [ov16_eq f o m (by omega) (by omega) (by omega)]
  unfold low
  rw [Nat.mod_eq_of_lt (ov16_lt f o m (by omega) (by omega))]; simp
theorem law (a0 : Int) (a1 : Int) (a2 : Int) (w : World) (w0 : (Lit.int .u16 a0).wf = true) (w1 : (Lit.int .u16 a1).wf = true) (w2 : (Lit.int .u16 a2).wf = true) :
    Calls Try.prog 3 #[.int .u16 a0, .int .u16 a1, .int .u16 a2] w fun e w' => e = .returned (.bool true) ∧ Below w.heap.size w w' := by
  obtain ⟨p0, q0⟩ := bounds_u16 w0
  obtain ⟨p1, q1⟩ := bounds_u16 w1
  obtain ⟨p2, q2⟩ := bounds_u16 w2
  obtain ⟨f, rfl⟩ := Int.eq_ofNat_of_zero_le p0
  obtain ⟨o, rfl⟩ := Int.eq_ofNat_of_zero_le p1
  obtain ⟨m, rfl⟩ := Int.eq_ofNat_of_zero_le p2
  clear w0 w1 w2 p0 p1 p2
  go_enter Try.func3, Try.ntmps3
  go_wp2
  go_loop [8, 9] (fun x i => Rel (ov16 f o m) x i) (fun _ i => 16 - (intOf i).toNat)
  case atStart => exact ⟨0, by omega, rfl, by simp [low, Nat.mod_one]⟩
  case round =>
    obtain ⟨k, hk, rfl, rfl⟩ := hrel
    by_cases hlt : k < 16
    · have HB := ov16_bit f o m k hlt
      have hm := has_u16 m (by omega) k hlt
      have hf := has_u16 f (by omega) k hlt
      have ho := has_u16 o (by omega) k hlt
      cases b1 : m.testBit k
      · rw [b1] at hm HB
        cases b2 : f.testBit k
        · rw [b2] at hf HB
          have HR := Lib.hid (rel_clear (ov16 f o m) k hlt (by simpa using HB))
          clear b1 b2 HB ho
          go_wp2
          go_round
          case rel => exact HR.out
          case measure => simp [intOf]; omega
        · rw [b2] at hf HB
          have HR := Lib.hid (rel_set (ov16 f o m) k hlt (by simpa using HB))
          clear b1 b2 HB ho
          go_wp2
          go_round
          case rel => exact HR.out
          case measure => simp [intOf]; omega
      · rw [b1] at hm HB
        cases b2 : o.testBit k
        · rw [b2] at ho HB
          have HR := Lib.hid (rel_clear (ov16 f o m) k hlt (by simpa using HB))
          clear b1 b2 HB hf
          go_wp2
          go_round
          case rel => exact HR.out
          case measure => simp [intOf]; omega
        · rw [b2] at ho HB
          have HR := Lib.hid (rel_set (ov16 f o m) k hlt (by simpa using HB))
          clear b1 b2 HB hf
          go_wp2
          go_round
          case rel => exact HR.out
          case measure => simp [intOf]; omega
    · have HF := Lib.hid (final f o m k (by omega) (by omega) (by omega) (by omega) hk)
      go_wp2
      go_ret
      exact ⟨ret_bool HF.out, Below.refl _ _⟩
end Go.Proofs.Ytdifphanmemmlab.CssBit
