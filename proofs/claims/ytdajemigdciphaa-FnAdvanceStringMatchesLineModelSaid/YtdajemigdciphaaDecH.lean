/- zzDecodeSmB2: three bytes. -/
import Derived.Test.YtdajemigdciphaaRows
import Derived.Test.YtdajemigdciphaaMem
import Derived.Test.YtdajemigdciphaaSl
import Derived.Test.YtdajemigdciphaaDecF
import Derived.WalkKit
import Derived.ProofKit
import Derived.OpenShut
import Derived.Below
import Derived.WalkLawsBesides
import Derived.Lib.Hide
import Derived.Outline
import Derived.RegionTactic
import Derived.Deep.QuietTactic
import Derived.BigQuiet
import Derived.WalkSpells
import Derived.Deep.OwnRows
import Derived.IntWalk
import Derived.Deep.DeepMust
namespace Go.Proofs.Ytdajemigdciphaa.DecF
open Go.RowKit Mem Sl
set_option linter.unusedVariables false
open Dec

set_option maxHeartbeats 8000000 in
set_option maxRecDepth 100000 in
theorem d3a (s : ByteArray) (i : Nat) (w : World) (hi : i < s.size) (hs : s.size ≤ 1048576) (hc : by_ s i = 224) : Calls Try.prog 12 #[.string s, .int .i64 i] w (DecP s i w) := by
  have x0 := idx s i hi
  have x1 : i + 1 < s.size → ∀ w, (Instr.index 9 (.string s) (.int .i64 ((i : Int) + 1))).run Try.prog w = .ok (.int .u8 ((by_ s (i + 1) : Nat) : Int)) w := fun h w => idx1 s i 1 h w
  have x2 : i + 2 < s.size → ∀ w, (Instr.index 9 (.string s) (.int .i64 ((i : Int) + 2))).run Try.prog w = .ok (.int .u8 ((by_ s (i + 2) : Nat) : Int)) w := fun h w => idx1 s i 2 h w
  have x3 : i + 3 < s.size → ∀ w, (Instr.index 9 (.string s) (.int .i64 ((i : Int) + 3))).run Try.prog w = .ok (.int .u8 ((by_ s (i + 3) : Nat) : Int)) w := fun h w => idx1 s i 3 h w
  obtain ⟨B0, hB0⟩ : ∃ B, by_ s (i + 0) = B := ⟨_, rfl⟩
  have l0 := by_lt s (i + 0)
  obtain ⟨B1, hB1⟩ : ∃ B, by_ s (i + 1) = B := ⟨_, rfl⟩
  have l1 := by_lt s (i + 1)
  obtain ⟨B2, hB2⟩ : ∃ B, by_ s (i + 2) = B := ⟨_, rfl⟩
  have l2 := by_lt s (i + 2)
  obtain ⟨B3, hB3⟩ : ∃ B, by_ s (i + 3) = B := ⟨_, rfl⟩
  have l3 := by_lt s (i + 3)
  simp only [Nat.add_zero] at hB0 l0
  rw [hB0] at x0 l0 hc
  rw [hB1] at x1 l1
  rw [hB2] at x2 l2
  rw [hB3] at x3 l3
  have H0 := Lib.hid hB0
  have H1 := Lib.hid hB1
  have H2 := Lib.hid hB2
  have H3 := Lib.hid hB3
  clear hB0 hB1 hB2 hB3
  subst hc
  by_cases d2 : i + 2 < s.size
  · have y1 := x1 (by omega)
    have y2 := x2 d2
    clear x1 x2 x3
    by_cases g1 : B1 < 160
    · skip
      go_enter Try.func12, Try.ntmps12
      go_wp2_with fail
      refine bodyPost_ret (v := .tuple #[.int .i64 1, .int .i64 1, .bool false, .bool false, .bool false]) (by simp [results, Try.results12]) rfl ?_
      have e0 := H0.out
      have e1 := H1.out
      have e2 := H2.out
      have e3 := H3.out
      exact decb s i (by omega) (by unfold ok2; omega) (by unfold ok3; omega) (by unfold ok4; omega) w _
    by_cases g2 : 191 < B1
    · skip
      go_enter Try.func12, Try.ntmps12
      go_wp2_with fail
      refine bodyPost_ret (v := .tuple #[.int .i64 1, .int .i64 1, .bool false, .bool false, .bool false]) (by simp [results, Try.results12]) rfl ?_
      have e0 := H0.out
      have e1 := H1.out
      have e2 := H2.out
      have e3 := H3.out
      exact decb s i (by omega) (by unfold ok2; omega) (by unfold ok3; omega) (by unfold ok4; omega) w _
    by_cases g3 : 128 ≤ B2 ∧ B2 ≤ 191
    · obtain ⟨g3a, g3b⟩ := g3
      go_enter Try.func12, Try.ntmps12
      go_wp2_with (first | (go_at_call 13; refine (cont_yes B2 _ (by omega)).mono ?_; rintro e w' ⟨rfl, rfl⟩))
      refine bodyPost_ret (v := .tuple #[.int .i64 3, .int .i64 1, .bool false, .bool false, .bool true]) (by simp [results, Try.results12]) rfl ?_
      have e0 := H0.out
      have e1 := H1.out
      have e2 := H2.out
      have e3 := H3.out
      exact leaf (dec3 s i (by unfold ok3; omega)) (by rw [if_pos (by omega)]) (isT_no (by omega)) (ne13 (by omega))
    · skip
      go_enter Try.func12, Try.ntmps12
      go_wp2_with (first | (go_at_call 13; refine (cont_no B2 _ (by omega)).mono ?_; rintro e w' ⟨rfl, rfl⟩))
      refine bodyPost_ret (v := .tuple #[.int .i64 1, .int .i64 1, .bool false, .bool false, .bool false]) (by simp [results, Try.results12]) rfl ?_
      have e0 := H0.out
      have e1 := H1.out
      have e2 := H2.out
      have e3 := H3.out
      exact decb s i (by omega) (by unfold ok2; omega) (by unfold ok3; omega) (by unfold ok4; omega) w _
  · clear x1 x2 x3
    go_enter Try.func12, Try.ntmps12
    go_wp2_with fail
    refine bodyPost_ret (v := .tuple #[.int .i64 1, .int .i64 1, .bool false, .bool false, .bool false]) (by simp [results, Try.results12]) rfl ?_
    have e0 := H0.out
    have e1 := H1.out
    have e2 := H2.out
    have e3 := H3.out
    exact decb s i (by omega) (by unfold ok2; omega) (by unfold ok3; omega) (by unfold ok4; omega) w _

set_option maxHeartbeats 8000000 in
set_option maxRecDepth 100000 in
theorem d3b (s : ByteArray) (i : Nat) (w : World) (hi : i < s.size) (hs : s.size ≤ 1048576) (hc : by_ s i = 237) : Calls Try.prog 12 #[.string s, .int .i64 i] w (DecP s i w) := by
  have x0 := idx s i hi
  have x1 : i + 1 < s.size → ∀ w, (Instr.index 9 (.string s) (.int .i64 ((i : Int) + 1))).run Try.prog w = .ok (.int .u8 ((by_ s (i + 1) : Nat) : Int)) w := fun h w => idx1 s i 1 h w
  have x2 : i + 2 < s.size → ∀ w, (Instr.index 9 (.string s) (.int .i64 ((i : Int) + 2))).run Try.prog w = .ok (.int .u8 ((by_ s (i + 2) : Nat) : Int)) w := fun h w => idx1 s i 2 h w
  have x3 : i + 3 < s.size → ∀ w, (Instr.index 9 (.string s) (.int .i64 ((i : Int) + 3))).run Try.prog w = .ok (.int .u8 ((by_ s (i + 3) : Nat) : Int)) w := fun h w => idx1 s i 3 h w
  obtain ⟨B0, hB0⟩ : ∃ B, by_ s (i + 0) = B := ⟨_, rfl⟩
  have l0 := by_lt s (i + 0)
  obtain ⟨B1, hB1⟩ : ∃ B, by_ s (i + 1) = B := ⟨_, rfl⟩
  have l1 := by_lt s (i + 1)
  obtain ⟨B2, hB2⟩ : ∃ B, by_ s (i + 2) = B := ⟨_, rfl⟩
  have l2 := by_lt s (i + 2)
  obtain ⟨B3, hB3⟩ : ∃ B, by_ s (i + 3) = B := ⟨_, rfl⟩
  have l3 := by_lt s (i + 3)
  simp only [Nat.add_zero] at hB0 l0
  rw [hB0] at x0 l0 hc
  rw [hB1] at x1 l1
  rw [hB2] at x2 l2
  rw [hB3] at x3 l3
  have H0 := Lib.hid hB0
  have H1 := Lib.hid hB1
  have H2 := Lib.hid hB2
  have H3 := Lib.hid hB3
  clear hB0 hB1 hB2 hB3
  subst hc
  by_cases d2 : i + 2 < s.size
  · have y1 := x1 (by omega)
    have y2 := x2 d2
    clear x1 x2 x3
    by_cases g1 : B1 < 128
    · skip
      go_enter Try.func12, Try.ntmps12
      go_wp2_with fail
      refine bodyPost_ret (v := .tuple #[.int .i64 1, .int .i64 1, .bool false, .bool false, .bool false]) (by simp [results, Try.results12]) rfl ?_
      have e0 := H0.out
      have e1 := H1.out
      have e2 := H2.out
      have e3 := H3.out
      exact decb s i (by omega) (by unfold ok2; omega) (by unfold ok3; omega) (by unfold ok4; omega) w _
    by_cases g2 : 159 < B1
    · skip
      go_enter Try.func12, Try.ntmps12
      go_wp2_with fail
      refine bodyPost_ret (v := .tuple #[.int .i64 1, .int .i64 1, .bool false, .bool false, .bool false]) (by simp [results, Try.results12]) rfl ?_
      have e0 := H0.out
      have e1 := H1.out
      have e2 := H2.out
      have e3 := H3.out
      exact decb s i (by omega) (by unfold ok2; omega) (by unfold ok3; omega) (by unfold ok4; omega) w _
    by_cases g3 : 128 ≤ B2 ∧ B2 ≤ 191
    · obtain ⟨g3a, g3b⟩ := g3
      go_enter Try.func12, Try.ntmps12
      go_wp2_with (first | (go_at_call 13; refine (cont_yes B2 _ (by omega)).mono ?_; rintro e w' ⟨rfl, rfl⟩))
      refine bodyPost_ret (v := .tuple #[.int .i64 3, .int .i64 1, .bool false, .bool false, .bool true]) (by simp [results, Try.results12]) rfl ?_
      have e0 := H0.out
      have e1 := H1.out
      have e2 := H2.out
      have e3 := H3.out
      exact leaf (dec3 s i (by unfold ok3; omega)) (by rw [if_pos (by omega)]) (isT_no (by omega)) (ne13 (by omega))
    · skip
      go_enter Try.func12, Try.ntmps12
      go_wp2_with (first | (go_at_call 13; refine (cont_no B2 _ (by omega)).mono ?_; rintro e w' ⟨rfl, rfl⟩))
      refine bodyPost_ret (v := .tuple #[.int .i64 1, .int .i64 1, .bool false, .bool false, .bool false]) (by simp [results, Try.results12]) rfl ?_
      have e0 := H0.out
      have e1 := H1.out
      have e2 := H2.out
      have e3 := H3.out
      exact decb s i (by omega) (by unfold ok2; omega) (by unfold ok3; omega) (by unfold ok4; omega) w _
  · clear x1 x2 x3
    go_enter Try.func12, Try.ntmps12
    go_wp2_with fail
    refine bodyPost_ret (v := .tuple #[.int .i64 1, .int .i64 1, .bool false, .bool false, .bool false]) (by simp [results, Try.results12]) rfl ?_
    have e0 := H0.out
    have e1 := H1.out
    have e2 := H2.out
    have e3 := H3.out
    exact decb s i (by omega) (by unfold ok2; omega) (by unfold ok3; omega) (by unfold ok4; omega) w _
end Go.Proofs.Ytdajemigdciphaa.DecF
