/- currentLineLength of both printers; comparison of byte slices. -/
import Derived.Test.YtjgomgagaolhgaaRows
import Derived.Test.YtjgomgagaolhgaaMem
import Derived.Test.YtjgomgagaolhgaaSl
import Derived.Test.YtjgomgagaolhgaaLine
import Derived.Test.YtjgomgagaolhgaaClone
import Derived.WalkKit
import Derived.ProofKit
import Derived.OpenShut
import Derived.Below
import Derived.WalkLawsBesides
import Derived.Lib.Hide
import Derived.Outline
import Derived.RegionTactic
import Derived.Deep.QuietTactic
import Derived.BigQuiet
import Derived.WalkSpells
import Derived.Deep.OwnRows
import Derived.IntWalk
import Derived.Deep.DeepMust
namespace Go.Proofs.Ytjgomgagaolhgaa.Len
open Go.RowKit Mem Sl
set_option linter.unusedVariables false
open Line

set_option maxHeartbeats 400000 in
theorem same14 (A B : Option Addr) (n c d : Nat) (zs : List Int) (w : World) (h : Args.IsInts .u8 w A n c zs) (h' : Args.IsInts .u8 w B n d zs) (hn : n ≤ 1048576) :
    Calls Try.prog 14 #[.slice A n c, .slice B n d] w fun e w' => e = .returned (.bool true) ∧ ∃ m, w' = w.drewN m := by
  have HR := Lib.hid (fun k => h.read k)
  have HR' := Lib.hid (fun k => h'.read k)
  have hne : ((n : Int) != (n : Int)) = false := by simp
  clear h h'
  go_enter Try.func14, Try.ntmps14
  go_wp2
  go_loopw [5] (fun i wr => ∃ k m : Nat, k ≤ n ∧ i = .int .i64 k ∧ wr = w.drewN m) (fun i _ => n - (intOf i).toNat)
  case atStart => exact ⟨0, 0, Nat.zero_le _, rfl, rfl⟩
  case round =>
    obtain ⟨k, m, hk, rfl, rfl⟩ := hrel
    by_cases hlt : k < n
    · obtain ⟨b, off, ha, hb, hcell⟩ := HR.out k hlt
      obtain ⟨b', off', ha', hb', hcell'⟩ := HR'.out k hlt
      subst ha ha'
      obtain ⟨x, hx⟩ : ∃ x, x = zs.getD k 0 := ⟨_, rfl⟩
      rw [← hx] at hcell hcell'
      clear hx
      have hxx : (x != x) = false := by simp
      go_wp2
      go_quiet (fail)
      go_wp2
      go_roundw
      case rel => exact ⟨k + 1, m + nq, by omega, by go_num, by simp⟩
      case measure => simp [intOf]; omega
    · go_wp2
      go_ret
      exact ⟨rfl, m, rfl⟩

set_option maxHeartbeats 400000 in
theorem same46 (A B : Option Addr) (n c d : Nat) (zs : List Int) (w : World) (h : Args.IsInts .u8 w A n c zs) (h' : Args.IsInts .u8 w B n d zs) (hn : n ≤ 1048576) :
    Calls Try.prog 46 #[.slice A n c, .slice B n d] w fun e w' => e = .returned (.bool true) ∧ ∃ m, w' = w.drewN m := by
  have HR := Lib.hid (fun k => h.read k)
  have HR' := Lib.hid (fun k => h'.read k)
  have hne : ((n : Int) != (n : Int)) = false := by simp
  clear h h'
  go_enter Try.func46, Try.ntmps46
  go_wp2
  go_loopw [5] (fun i wr => ∃ k m : Nat, k ≤ n ∧ i = .int .i64 k ∧ wr = w.drewN m) (fun i _ => n - (intOf i).toNat)
  case atStart => exact ⟨0, 0, Nat.zero_le _, rfl, rfl⟩
  case round =>
    obtain ⟨k, m, hk, rfl, rfl⟩ := hrel
    by_cases hlt : k < n
    · obtain ⟨b, off, ha, hb, hcell⟩ := HR.out k hlt
      obtain ⟨b', off', ha', hb', hcell'⟩ := HR'.out k hlt
      subst ha ha'
      obtain ⟨x, hx⟩ : ∃ x, x = zs.getD k 0 := ⟨_, rfl⟩
      rw [← hx] at hcell hcell'
      clear hx
      have hxx : (x != x) = false := by simp
      go_wp2
      go_quiet (fail)
      go_wp2
      go_roundw
      case rel => exact ⟨k + 1, m + nq, by omega, by go_num, by simp⟩
      case measure => simp [intOf]; omega
    · go_wp2
      go_ret
      exact ⟨rfl, m, rfl⟩

set_option maxHeartbeats 1000000 in
theorem len41 (A : Option Addr) (n c p e0 : Nat) (s0 : Int) (zs : List Int) (cs : List Value) (w : World) (h : Args.IsInts .u8 w A n c zs) (hn : n ≤ 1048576) (hrow : Row w p 100 cs)
    (hj : cs[9]? = some (.slice A n c)) (hs : cs[69]? = some (.int .i64 s0)) (he : cs[70]? = some (.int .i64 e0)) (hen : e0 ≤ n) (hs0 : 0 ≤ s0) (hsn : s0 ≤ n) :
    Calls Try.prog 41 #[.pointer (some ⟨p, 0, none⟩)] w fun e w' => e = .returned (.int .i64 ((n : Int) - nlFrom zs e0 s0 n)) ∧ LineDone w p 100 cs 69 70 (nlFrom zs e0 s0 n) n w' := by
  have HR := Lib.hid (fun k => h.read k)
  have c1 := hrow.at_ hj
  have c2 := hrow.at_ hs
  have c3 := hrow.at_ he
  have f1 := hrow.frozen 69
  have f2 := hrow.frozen 70
  have HROW := Lib.hid hrow
  have HS := Lib.hid hs
  clear h hrow hj he hs
  go_enter Try.func41, Try.ntmps41
  go_wp2
  go_loop [6] (fun i => ∃ k : Nat, k ≤ n ∧ e0 ≤ k ∧ i = .int .i64 k ∧ Hid (nlFrom zs e0 s0 n = nlFrom zs e0 s0 k)) (fun i => (intOf i).toNat)
  case atStart => exact ⟨n, Nat.le_refl _, hen, rfl, rfl⟩
  case round =>
    obtain ⟨k, hk, hek, rfl, HE⟩ := hrel
    by_cases hlt : e0 < k
    · obtain ⟨j, rfl⟩ : ∃ j, k = j + 1 := ⟨k - 1, by omega⟩
      obtain ⟨b, off, ha, hb, hcell⟩ := HR.out j (by omega)
      subst ha
      obtain ⟨x, hx⟩ : ∃ x, x = zs.getD j 0 := ⟨_, rfl⟩
      rw [← hx] at hcell
      have HX := Lib.hid hx
      clear hx
      have hd : decide ((e0 : Int) < (j : Int) + 1) = true := by simp; omega
      have hd' : (e0 : Int) < (j : Int) + 1 := by omega
      by_cases h13 : (x == 13) = true
      · have HF := Lib.hid (nl_hit zs e0 s0 j (by omega) (by rw [← HX.out]; simp [isNl]; simp at h13; omega))
        go_wp2
        go_ret
        exact line_done_hit HROW.out HE.out HF.out
      · have h13' : (x == 13) = false := by simpa using h13
        by_cases h10 : (x == 10) = true
        · have HF := Lib.hid (nl_hit zs e0 s0 j (by omega) (by rw [← HX.out]; simp [isNl]; simp at h10; omega))
          go_wp2
          go_ret
          exact line_done_hit HROW.out HE.out HF.out
        · have h10' : (x == 10) = false := by simpa using h10
          have HF := Lib.hid (nl_miss zs e0 s0 j (by omega) (by rw [← HX.out]; simp [isNl, h13', h10']))
          clear h13 h10
          go_wp2
          go_round
          case rel => exact ⟨j, by omega, by omega, by go_num, HE.out.trans HF.out⟩
          case measure => simp [intOf]
    · have HF := Lib.hid (nl_stop zs e0 s0 k (by omega))
      go_wp2
      go_ret
      exact line_done_miss HROW.out HE.out HF.out HS.out

set_option maxHeartbeats 1000000 in
theorem len43 (A : Option Addr) (n c p e0 : Nat) (s0 : Int) (zs : List Int) (cs : List Value) (w : World) (h : Args.IsInts .u8 w A n c zs) (hn : n ≤ 1048576) (hrow : Row w p 108 cs)
    (hj : cs[15]? = some (.slice A n c)) (hs : cs[41]? = some (.int .i64 s0)) (he : cs[42]? = some (.int .i64 e0)) (hen : e0 ≤ n) (hs0 : 0 ≤ s0) (hsn : s0 ≤ n) :
    Calls Try.prog 43 #[.pointer (some ⟨p, 0, none⟩)] w fun e w' => e = .returned (.int .i64 ((n : Int) - nlFrom zs e0 s0 n)) ∧ LineDone w p 108 cs 41 42 (nlFrom zs e0 s0 n) n w' := by
  have HR := Lib.hid (fun k => h.read k)
  have c1 := hrow.at_ hj
  have c2 := hrow.at_ hs
  have c3 := hrow.at_ he
  have f1 := hrow.frozen 41
  have f2 := hrow.frozen 42
  have HROW := Lib.hid hrow
  have HS := Lib.hid hs
  clear h hrow hj he hs
  go_enter Try.func43, Try.ntmps43
  go_wp2
  go_loop [6] (fun i => ∃ k : Nat, k ≤ n ∧ e0 ≤ k ∧ i = .int .i64 k ∧ Hid (nlFrom zs e0 s0 n = nlFrom zs e0 s0 k)) (fun i => (intOf i).toNat)
  case atStart => exact ⟨n, Nat.le_refl _, hen, rfl, rfl⟩
  case round =>
    obtain ⟨k, hk, hek, rfl, HE⟩ := hrel
    by_cases hlt : e0 < k
    · obtain ⟨j, rfl⟩ : ∃ j, k = j + 1 := ⟨k - 1, by omega⟩
      obtain ⟨b, off, ha, hb, hcell⟩ := HR.out j (by omega)
      subst ha
      obtain ⟨x, hx⟩ : ∃ x, x = zs.getD j 0 := ⟨_, rfl⟩
      rw [← hx] at hcell
      have HX := Lib.hid hx
      clear hx
      have hd : decide ((e0 : Int) < (j : Int) + 1) = true := by simp; omega
      have hd' : (e0 : Int) < (j : Int) + 1 := by omega
      by_cases h13 : (x == 13) = true
      · have HF := Lib.hid (nl_hit zs e0 s0 j (by omega) (by rw [← HX.out]; simp [isNl]; simp at h13; omega))
        go_wp2
        go_ret
        exact line_done_hit HROW.out HE.out HF.out
      · have h13' : (x == 13) = false := by simpa using h13
        by_cases h10 : (x == 10) = true
        · have HF := Lib.hid (nl_hit zs e0 s0 j (by omega) (by rw [← HX.out]; simp [isNl]; simp at h10; omega))
          go_wp2
          go_ret
          exact line_done_hit HROW.out HE.out HF.out
        · have h10' : (x == 10) = false := by simpa using h10
          have HF := Lib.hid (nl_miss zs e0 s0 j (by omega) (by rw [← HX.out]; simp [isNl, h13', h10']))
          clear h13 h10
          go_wp2
          go_round
          case rel => exact ⟨j, by omega, by omega, by go_num, HE.out.trans HF.out⟩
          case measure => simp [intOf]
    · have HF := Lib.hid (nl_stop zs e0 s0 k (by omega))
      go_wp2
      go_ret
      exact line_done_miss HROW.out HE.out HF.out HS.out
end Go.Proofs.Ytjgomgagaolhgaa.Len
