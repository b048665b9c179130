/- FnApplyOverridesMatchesBitModel: the law's walk. -/
import Derived.Test.YtdifphanmemmlaaRows
import Derived.Test.YtdifphanmemmlaaBitsP
import Derived.WalkKit
import Derived.ProofKit
import Derived.OpenShut
import Derived.Below
import Derived.WalkLawsBesides
import Derived.Lib.Hide
import Derived.Outline
namespace Go.Proofs.Ytdifphanmemmlaa.Over
open Go.RowKit BitsP

theorem and_one (x k : Nat) (hx : x ≤ 18446744073709551615) : bits .and .u64 ((x : Int) / 2 ^ k) 1 = ((x / 2 ^ k % 2 : Nat) : Int) := by
  have e : (x : Int) / 2 ^ k = ((x / 2 ^ k : Nat) : Int) := by simp
  have hle : x / 2 ^ k ≤ x := Nat.div_le_self _ _
  rw [e, show (1 : Int) = ((1 : Nat) : Int) from rfl, u64_and_nat _ 1 (by omega) (by omega), nat_mask1]
theorem test (x k : Nat) (hx : x ≤ 18446744073709551615) : (bits .and .u64 ((x : Int) / 2 ^ k) 1 == 1) = x.testBit k := by
  rw [and_one x k hx, Nat.testBit_eq_decide_div_mod_eq, Bool.eq_iff_iff]
  generalize x / 2 ^ k % 2 = y
  simp only [beq_iff_eq, decide_eq_true_eq]
  omega
theorem low_lt (R k : Nat) (hk : k < 64) : low R k < 18446744073709551616 := by
  unfold low
  have h1 : R % 2 ^ k < 2 ^ k := Nat.mod_lt _ (Nat.two_pow_pos k)
  have h2 : 2 ^ k < 2 ^ 64 := Nat.pow_lt_pow_right (by omega) hk
  omega
theorem step (R k x : Nat) (hk : k < 64) (hx : x ≤ 18446744073709551615) (hb : R.testBit k = x.testBit k) :
    bits .or .u64 (low R k : Nat) (IntKind.u64.wrap (bits .and .u64 ((x : Int) / 2 ^ k) 1 * 2 ^ k)) = ((low R (k + 1) : Nat) : Int) := by
  have h2 : 2 ^ k < 2 ^ 64 := Nat.pow_lt_pow_right (by omega) hk
  have hb' : R / 2 ^ k % 2 = x / 2 ^ k % 2 := by
    rw [Nat.testBit_eq_decide_div_mod_eq, Nat.testBit_eq_decide_div_mod_eq, decide_eq_decide] at hb
    omega
  have hm : ∀ c : Nat, c < 2 → c * 2 ^ k < 18446744073709551616 := by
    intro c hc
    rcases (by omega : c = 0 ∨ c = 1) with h | h <;> subst h <;> simp <;> omega
  have hc : x / 2 ^ k % 2 < 2 := Nat.mod_lt _ (by omega)
  have e1 : IntKind.u64.wrap (((x / 2 ^ k % 2 : Nat) : Int) * 2 ^ k) = ((x / 2 ^ k % 2 * 2 ^ k : Nat) : Int) := by
    have := hm _ hc
    have e : ((x / 2 ^ k % 2 : Nat) : Int) * 2 ^ k = ((x / 2 ^ k % 2 * 2 ^ k : Nat) : Int) := by simp
    rw [e]
    generalize x / 2 ^ k % 2 * 2 ^ k = y at *
    exact IntWalk.u64_in _ (by omega)
  rw [and_one x k hx, e1, u64_or_nat _ _ (low_lt R k hk) (hm _ hc), low_succ, Nat.shiftRight_eq_div_pow, nat_mask1, hb', Nat.shiftLeft_eq]
theorem last (f o m : Nat) (hf : f ≤ 18446744073709551615) (ho : o ≤ 18446744073709551615) (k : Nat) (hk : 64 ≤ k) (hk' : k ≤ 64) : low (ov64 f o m) k = ov64 f o m := by
  have : k = 64 := by omega
  subst this
  unfold low
  exact Nat.mod_eq_of_lt (ov64_lt f o m (by omega) (by omega))
theorem final (f o m k : Nat) (hf : f ≤ 18446744073709551615) (ho : o ≤ 18446744073709551615) (hm : m ≤ 18446744073709551615) (hk : 64 ≤ k) (hk' : k ≤ 64) :
    (bits .or .u64 (bits .and .u64 (f : Int) (bits .xor .u64 IntKind.u64.max (m : Int))) (bits .and .u64 (o : Int) (m : Int)) == ((low (ov64 f o m) k : Nat) : Int)) = true := by
  rw [ov64_eq f o m (by omega) (by omega) (by omega), last f o m hf ho k hk hk']; simp

def Rel (f o m : Nat) (x i : Value) : Prop := ∃ k : Nat, k ≤ 64 ∧ i = .int .u64 k ∧ x = .int .u64 (low (ov64 f o m) k : Nat)

theorem rel_step (f o m k x : Nat) (hk : k < 64) (hx : x ≤ 18446744073709551615) (hb : (ov64 f o m).testBit k = x.testBit k) :
    Rel f o m (.int .u64 (bits .or .u64 (low (ov64 f o m) k : Nat) (IntKind.u64.wrap (bits .and .u64 ((x : Int) / 2 ^ k) 1 * 2 ^ k)))) (.int .u64 ((k : Int) + 1)) :=
  ⟨k + 1, by omega, by go_num, by rw [step (ov64 f o m) k x hk hx hb]⟩

theorem law (a0 : Int) (a1 : Int) (a2 : Int) (w : World) (w0 : (Lit.int .u64 a0).wf = true) (w1 : (Lit.int .u64 a1).wf = true) (w2 : (Lit.int .u64 a2).wf = true) :
    Calls Try.prog 7 #[.int .u64 a0, .int .u64 a1, .int .u64 a2] w fun e w' => e = .returned (.bool true) ∧ Below w.heap.size w w' := by
  obtain ⟨p0, q0⟩ := bounds_u64 w0
  obtain ⟨p1, q1⟩ := bounds_u64 w1
  obtain ⟨p2, q2⟩ := bounds_u64 w2
  obtain ⟨f, rfl⟩ := Int.eq_ofNat_of_zero_le p0
  obtain ⟨o, rfl⟩ := Int.eq_ofNat_of_zero_le p1
  obtain ⟨m, rfl⟩ := Int.eq_ofNat_of_zero_le p2
  clear w0 w1 w2 p0 p1 p2
  go_enter Try.func7, Try.ntmps7
  go_wp2
  go_loop [7, 8] (fun x i => Rel f o m x i) (fun _ i => 64 - (intOf i).toNat)
  case atStart => exact ⟨0, by omega, rfl, by simp [low, Nat.mod_one]⟩
  case round =>
    obtain ⟨k, hk, rfl, rfl⟩ := hrel
    by_cases hlt : k < 64
    · have HB := Lib.hid (ov64_bit f o m k hlt)
      have ht := test m k (by omega)
      cases hb : m.testBit k
      · rw [hb] at ht
        have HR := Lib.hid (rel_step f o m k f hlt (by omega) (by rw [HB.out, hb]; rfl))
        clear hb
        go_wp2
        go_round
        case rel => exact HR.out
        case measure => simp [intOf]; omega
      · rw [hb] at ht
        have HR := Lib.hid (rel_step f o m k o hlt (by omega) (by rw [HB.out, hb]; rfl))
        clear hb
        go_wp2
        go_round
        case rel => exact HR.out
        case measure => simp [intOf]; omega
    · have HF := Lib.hid (final f o m k (by omega) (by omega) (by omega) (by omega) hk)
      go_wp2
      go_ret
      exact ⟨ret_bool HF.out, Below.refl _ _⟩
end Go.Proofs.Ytdifphanmemmlaa.Over
