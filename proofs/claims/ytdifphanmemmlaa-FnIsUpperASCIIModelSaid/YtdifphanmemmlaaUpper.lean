/- FnIsUpperASCIIModel: zzIn's contract and the law's walk. -/
import Derived.Test.YtdifphanmemmlaaRows
import Derived.WalkKit
import Derived.ProofKit
import Derived.OpenShut
import Derived.Below
import Derived.WalkLawsBesides
import Derived.Lib.Hide
namespace Go.Proofs.Ytdifphanmemmlaa.Upper
open Go.RowKit

theorem ret_bool {a b : Bool} (h : a = b) : Ending.returned (.bool a) = .returned (.bool b) := by rw [h]

theorem any_take_succ (p : UInt8 → Bool) (s : ByteArray) (k : Nat) (h : k < s.size) : (s.data.toList.take (k + 1)).any p = ((s.data.toList.take k).any p || p s[k]) := by
  have hh : k < s.data.toList.length := by simpa using h
  rw [List.take_succ_eq_append_getElem hh, List.any_append]
  simp [ByteArray.getElem_eq_getElem_data]

def hasB (s : ByteArray) (c : Int) : Bool := s.data.toList.any fun b => (b.toNat : Int) == c

theorem hasB_at (s : ByteArray) (c : Int) (k : Nat) (h : k < s.size) (he : ((s[k].toNat : Int) == c) = true) : hasB s c = true := by
  unfold hasB
  rw [List.any_eq_true]
  exact ⟨s[k], by simp [ByteArray.getElem_eq_getElem_data], he⟩

set_option maxHeartbeats 400000 in
theorem zzIn_any (c : Int) (s : ByteArray) (w : World) (hs : s.size ≤ 100000) :
    Calls Try.prog 10 #[.int .u8 c, .string s] w fun e w' => e = .returned (.bool (hasB s c)) ∧ w = w' := by
  go_enter Try.func10, Try.ntmps10
  go_wp2
  go_loop [5] (fun i => ∃ k : Nat, k ≤ s.size ∧ i = .int .i64 k ∧ ((s.data.toList.take k).any fun b => (b.toNat : Int) == c) = false) (fun i => s.size - (intOf i).toNat)
  case atStart => exact ⟨0, Nat.zero_le _, rfl, by simp⟩
  case round =>
    obtain ⟨k, hk, rfl, hno⟩ := hrel
    have HN := Lib.hid hno
    clear hno
    by_cases hlt : k < s.size
    · have HS := Lib.hid (any_take_succ (fun b => (b.toNat : Int) == c) s k hlt)
      by_cases he : ((s[k].toNat : Int) == c) = true
      · have HY := Lib.hid (hasB_at s c k hlt he)
        go_wp2
        go_ret
        exact ⟨ret_bool HY.out.symm, rfl⟩
      · have he' : ((s[k].toNat : Int) == c) = false := by simpa using he
        go_wp2
        go_round
        case rel => exact ⟨k + 1, by omega, by go_num, by rw [HS.out, HN.out, he']; rfl⟩
        case measure => simp [intOf]; omega
    · go_wp2
      go_ret
      refine ⟨ret_bool ?_, rfl⟩
      have ht : s.data.toList.take k = s.data.toList := List.take_of_length_le (by simp; omega)
      have hn := HN.out
      rw [ht] at hn
      exact hn.symm

theorem upper_mem (c : Int) (h0 : 0 ≤ c) (h1 : c ≤ 255) : hasB ⟨#[65, 66, 67, 68, 69, 70, 71, 72, 73, 74, 75, 76, 77, 78, 79, 80, 81, 82, 83, 84, 85, 86, 87, 88, 89, 90]⟩ c = decide (65 ≤ c ∧ c ≤ 90) := by
  have : ∀ n : Fin 256, hasB ⟨#[65, 66, 67, 68, 69, 70, 71, 72, 73, 74, 75, 76, 77, 78, 79, 80, 81, 82, 83, 84, 85, 86, 87, 88, 89, 90]⟩ (n.1 : Int) = decide (65 ≤ (n.1 : Int) ∧ (n.1 : Int) ≤ 90) := by decide +kernel
  have h := this ⟨c.toNat, by omega⟩
  simpa [Int.toNat_of_nonneg h0] using h

theorem law (a0 : Int) (w : World) (w0 : (Lit.int .u8 a0).wf = true) :
    Calls Try.prog 3 #[.int .u8 a0] w fun e w' => e = .returned (.bool true) ∧ Below w.heap.size w w' := by
  obtain ⟨h0, h1⟩ := bounds_u8 w0
  have HM := Lib.hid (upper_mem a0 h0 h1)
  by_cases ha : 65 ≤ a0
  · by_cases hb : a0 ≤ 90
    · have hm : hasB ⟨#[65, 66, 67, 68, 69, 70, 71, 72, 73, 74, 75, 76, 77, 78, 79, 80, 81, 82, 83, 84, 85, 86, 87, 88, 89, 90]⟩ a0 = true := by rw [HM.out]; simp [ha, hb]
      go_enter Try.func3, Try.ntmps3
      go_wp2_with (first | (go_at_call 10; refine (zzIn_any _ _ _ (by decide)).mono ?_; rintro e w' ⟨rfl, rfl⟩) | go_in)
      go_ret
      exact ⟨rfl, Below.refl _ _⟩
    · have hm : hasB ⟨#[65, 66, 67, 68, 69, 70, 71, 72, 73, 74, 75, 76, 77, 78, 79, 80, 81, 82, 83, 84, 85, 86, 87, 88, 89, 90]⟩ a0 = false := by rw [HM.out]; simp [hb]
      go_enter Try.func3, Try.ntmps3
      go_wp2_with (first | (go_at_call 10; refine (zzIn_any _ _ _ (by decide)).mono ?_; rintro e w' ⟨rfl, rfl⟩) | go_in)
      go_ret
      exact ⟨rfl, Below.refl _ _⟩
  · have hm : hasB ⟨#[65, 66, 67, 68, 69, 70, 71, 72, 73, 74, 75, 76, 77, 78, 79, 80, 81, 82, 83, 84, 85, 86, 87, 88, 89, 90]⟩ a0 = false := by rw [HM.out]; simp [ha]
    go_enter Try.func3, Try.ntmps3
    go_wp2_with (first | (go_at_call 10; refine (zzIn_any _ _ _ (by decide)).mono ?_; rintro e w' ⟨rfl, rfl⟩) | go_in)
    go_ret
    exact ⟨rfl, Below.refl _ _⟩
end Go.Proofs.Ytdifphanmemmlaa.Upper
