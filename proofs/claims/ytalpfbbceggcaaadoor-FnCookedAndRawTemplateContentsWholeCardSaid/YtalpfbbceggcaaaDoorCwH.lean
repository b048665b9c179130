/- FnCookedAndRawTemplateContentsWhole: the small functions. -/
import Derived.Test.YtalpfbbceggcaaaDoorProg
import Derived.Test.YtalpfbbceggcaaaDoorCwP
import Derived.WalkKit
import Derived.ProofKit
import Derived.OpenShut
import Derived.Below
import Derived.WalkLawsBesides
import Derived.Lib.Hide
import Derived.Outline
import Derived.RegionTactic
import Derived.Deep.QuietTactic
import Derived.BigQuiet
import Derived.WalkSpells
import Derived.Deep.OwnRows
import Derived.IntWalk
import Derived.Deep.DeepMust
namespace Go.Proofs.YtalpfbbceggcaaaDoor.CwH
open Go.RowKit CwP
set_option linter.unusedVariables false
theorem sur18 (u : Int) (h0 : 0 ≤ u) (h1 : u ≤ 65535) (w : World) : Calls Tryd.prog 18 #[.int .u16 u] w fun e w' => e = .returned (.bool (sur u)) ∧ w = w' := by
  by_cases c0 : 55296 ≤ u
  case neg =>
    go_enter Tryd.func18, Tryd.ntmps18
    go_wp2_with fail
    go_ret
    refine ⟨congrArg (fun b => Ending.returned (Value.bool b)) (Eq.trans ?_ (show sur _ = false from by unfold sur; exact decide_eq_false (by omega)).symm), rfl⟩
    first | rfl | (simp; done) | (simp; omega)
  by_cases c1 : u ≤ 57343
  case neg =>
    go_enter Tryd.func18, Tryd.ntmps18
    go_wp2_with fail
    go_ret
    refine ⟨congrArg (fun b => Ending.returned (Value.bool b)) (Eq.trans ?_ (show sur _ = false from by unfold sur; exact decide_eq_false (by omega)).symm), rfl⟩
    first | rfl | (simp; done) | (simp; omega)
  go_enter Tryd.func18, Tryd.ntmps18
  go_wp2_with fail
  go_ret
  refine ⟨congrArg (fun b => Ending.returned (Value.bool b)) (Eq.trans ?_ (show sur _ = true from by unfold sur; exact decide_eq_true (by omega)).symm), rfl⟩
  first | rfl | (simp; done) | (simp; omega)
theorem raw17 (u : Int) (h0 : 0 ≤ u) (h1 : u ≤ 65535) (w : World) : Calls Tryd.prog 17 #[.int .u16 u] w fun e w' => e = .returned (.bool (rawA u)) ∧ w = w' := by
  by_cases c0 : 32 ≤ u
  case neg =>
    go_enter Tryd.func17, Tryd.ntmps17
    go_wp2_with fail
    go_ret
    refine ⟨congrArg (fun b => Ending.returned (Value.bool b)) (Eq.trans ?_ (show rawA _ = false from by unfold rawA; exact decide_eq_false (by omega)).symm), rfl⟩
    first | rfl | (simp; done) | (simp; omega)
  by_cases c1 : u ≤ 126
  case neg =>
    go_enter Tryd.func17, Tryd.ntmps17
    go_wp2_with fail
    go_ret
    refine ⟨congrArg (fun b => Ending.returned (Value.bool b)) (Eq.trans ?_ (show rawA _ = false from by unfold rawA; exact decide_eq_false (by omega)).symm), rfl⟩
    first | rfl | (simp; done) | (simp; omega)
  by_cases c2 : u ≠ 92
  case neg =>
    obtain rfl : u = 92 := by omega
    go_enter Tryd.func17, Tryd.ntmps17
    go_wp2_with fail
    go_ret
    refine ⟨congrArg (fun b => Ending.returned (Value.bool b)) (Eq.trans ?_ (show rawA _ = false from by unfold rawA; exact decide_eq_false (by omega)).symm), rfl⟩
    first | rfl | (simp; done) | (simp; omega)
  by_cases c3 : u ≠ 34
  case neg =>
    obtain rfl : u = 34 := by omega
    go_enter Tryd.func17, Tryd.ntmps17
    go_wp2_with fail
    go_ret
    refine ⟨congrArg (fun b => Ending.returned (Value.bool b)) (Eq.trans ?_ (show rawA _ = false from by unfold rawA; exact decide_eq_false (by omega)).symm), rfl⟩
    first | rfl | (simp; done) | (simp; omega)
  by_cases c4 : u ≠ 39
  case neg =>
    obtain rfl : u = 39 := by omega
    go_enter Tryd.func17, Tryd.ntmps17
    go_wp2_with fail
    go_ret
    refine ⟨congrArg (fun b => Ending.returned (Value.bool b)) (Eq.trans ?_ (show rawA _ = false from by unfold rawA; exact decide_eq_false (by omega)).symm), rfl⟩
    first | rfl | (simp; done) | (simp; omega)
  by_cases c5 : u ≠ 96
  case neg =>
    obtain rfl : u = 96 := by omega
    go_enter Tryd.func17, Tryd.ntmps17
    go_wp2_with fail
    go_ret
    refine ⟨congrArg (fun b => Ending.returned (Value.bool b)) (Eq.trans ?_ (show rawA _ = false from by unfold rawA; exact decide_eq_false (by omega)).symm), rfl⟩
    first | rfl | (simp; done) | (simp; omega)
  by_cases c6 : u ≠ 36
  case neg =>
    obtain rfl : u = 36 := by omega
    go_enter Tryd.func17, Tryd.ntmps17
    go_wp2_with fail
    go_ret
    refine ⟨congrArg (fun b => Ending.returned (Value.bool b)) (Eq.trans ?_ (show rawA _ = false from by unfold rawA; exact decide_eq_false (by omega)).symm), rfl⟩
    first | rfl | (simp; done) | (simp; omega)
  go_enter Tryd.func17, Tryd.ntmps17
  go_wp2_with fail
  go_ret
  refine ⟨congrArg (fun b => Ending.returned (Value.bool b)) (Eq.trans ?_ (show rawA _ = true from by unfold rawA; exact decide_eq_true (by omega)).symm), rfl⟩
  first | rfl | (simp; done) | (simp; omega)
theorem hd21 (v : Int) (h0 : 0 ≤ v) (h1 : v ≤ 15) (up : Bool) (w : World) : Calls Tryd.prog 21 #[.int .u16 v, .bool up] w fun e w' => e = .returned (.int .u8 (hd v up)) ∧ w = w' := by
  by_cases c : v < 10
  · go_enter Tryd.func21, Tryd.ntmps21
    go_wp2_with fail
    go_ret
    exact ⟨congrArg (fun b => Ending.returned (Value.int .u8 b)) (by unfold hd; simp [c]), rfl⟩
  · cases up
    · go_enter Tryd.func21, Tryd.ntmps21
      go_wp2_with fail
      go_ret
      exact ⟨congrArg (fun b => Ending.returned (Value.int .u8 b)) (by unfold hd; rw [if_neg (show ¬ v < 10 by omega)]; simp; omega), rfl⟩
    · go_enter Tryd.func21, Tryd.ntmps21
      go_wp2_with fail
      go_ret
      exact ⟨congrArg (fun b => Ending.returned (Value.int .u8 b)) (by unfold hd; rw [if_neg (show ¬ v < 10 by omega)]; simp; omega), rfl⟩
theorem hl_step {x : Int} (h0 : 16 ≤ x) (h1 : x ≤ 65535) : hl (x / 16) + 1 = hl x := by
  unfold hl
  by_cases a1 : x < 256
  · rw [if_pos (show x / 16 < 16 by omega), if_neg (show ¬ x < 16 by omega), if_pos a1]
  · by_cases a2 : x < 4096
    · rw [if_neg (show ¬ x / 16 < 16 by omega), if_pos (show x / 16 < 256 by omega), if_neg (show ¬ x < 16 by omega), if_neg a1, if_pos a2]
    · rw [if_neg (show ¬ x / 16 < 16 by omega), if_neg (show ¬ x / 16 < 256 by omega), if_pos (show x / 16 < 4096 by omega), if_neg (show ¬ x < 16 by omega), if_neg a1, if_neg a2]
theorem hl_le (x : Int) : 1 ≤ hl x ∧ hl x ≤ 4 := by unfold hl; split <;> (try split) <;> (try split) <;> omega
theorem hl_one {x : Int} (h : x < 16) : hl x = 1 := by unfold hl; rw [if_pos h]
theorem len13 (u : Int) (h0 : 0 ≤ u) (h1 : u ≤ 65535) (w : World) : Calls Tryd.prog 13 #[.int .u16 u] w fun e w' => e = .returned (.int .i64 (hl u : Int)) ∧ w = w' := by
  have hu := hl_le u
  go_enter Tryd.func13, Tryd.ntmps13
  go_wp2_with fail
  go_loopw [0, 3] (fun s0 s3 wr => ∃ (x : Int) (k : Nat), s0 = .int .u16 x ∧ s3 = .int .i64 k ∧ 0 ≤ x ∧ x ≤ 65535 ∧ 1 ≤ k ∧ Hid (hl x + k = hl u + 1) ∧ w = wr) (fun s0 _ _ => (intOf s0).toNat)
  case atStart => exact ⟨u, 1, rfl, rfl, h0, h1, by omega, rfl, rfl⟩
  case round =>
    obtain ⟨x, k, rfl, rfl, hx0, hx1, hk1, hh, rfl⟩ := hrel
    have hk4 : k ≤ 4 := by have := hh.out; have := (hl_le x).1; omega
    by_cases hlt : 16 ≤ x
    · have HS := Lib.hid (hl_step hlt hx1)
      go_wp2_with fail
      go_roundw
      case rel => exact ⟨x / 16, k + 1, rfl, by go_num, by omega, by omega, by omega, by have h1 := hh.out; have h2 := HS.out; show _ = _; omega, by first | rfl | trivial⟩
      case measure => simp [intOf]; omega
    · have HE := Lib.hid (show k = hl u from by have h1 := hh.out; rw [hl_one (by omega)] at h1; omega)
      go_wp2_with fail
      go_ret
      exact ⟨congrArg (fun z : Nat => Ending.returned (Value.int .i64 (z : Int))) HE.out, rfl⟩
theorem idn15 (u : Int) (h0 : 0 ≤ u) (h1 : u ≤ 65535) (w : World) : Calls Tryd.prog 15 #[.int .u16 u] w fun e w' => e = .returned (.bool (idn u)) ∧ w = w' := by
  by_cases a0 : 32 ≤ u ∧ u ≤ 126
  · obtain ⟨a1, a2⟩ := a0
    by_cases b0 : 48 ≤ u ∧ u ≤ 57
    · obtain ⟨b1, b2⟩ := b0
      go_enter Tryd.func15, Tryd.ntmps15
      go_wp2_with (go_at_call 18; refine (sur18 _ (by omega) (by omega) _).mono ?_; rintro e w' ⟨rfl, rfl⟩)
      go_ret
      exact ⟨congrArg (fun b => Ending.returned (Value.bool b)) (show false = idn _ from by unfold idn; exact (decide_eq_false (by omega)).symm), rfl⟩
    by_cases c98 : u = 98
    · subst c98
      go_enter Tryd.func15, Tryd.ntmps15
      go_wp2_with (go_at_call 18; refine (sur18 _ (by omega) (by omega) _).mono ?_; rintro e w' ⟨rfl, rfl⟩)
      go_ret
      exact ⟨congrArg (fun b => Ending.returned (Value.bool b)) (show false = idn _ from by unfold idn; exact (decide_eq_false (by omega)).symm), rfl⟩
    by_cases c102 : u = 102
    · subst c102
      go_enter Tryd.func15, Tryd.ntmps15
      go_wp2_with (go_at_call 18; refine (sur18 _ (by omega) (by omega) _).mono ?_; rintro e w' ⟨rfl, rfl⟩)
      go_ret
      exact ⟨congrArg (fun b => Ending.returned (Value.bool b)) (show false = idn _ from by unfold idn; exact (decide_eq_false (by omega)).symm), rfl⟩
    by_cases c110 : u = 110
    · subst c110
      go_enter Tryd.func15, Tryd.ntmps15
      go_wp2_with (go_at_call 18; refine (sur18 _ (by omega) (by omega) _).mono ?_; rintro e w' ⟨rfl, rfl⟩)
      go_ret
      exact ⟨congrArg (fun b => Ending.returned (Value.bool b)) (show false = idn _ from by unfold idn; exact (decide_eq_false (by omega)).symm), rfl⟩
    by_cases c114 : u = 114
    · subst c114
      go_enter Tryd.func15, Tryd.ntmps15
      go_wp2_with (go_at_call 18; refine (sur18 _ (by omega) (by omega) _).mono ?_; rintro e w' ⟨rfl, rfl⟩)
      go_ret
      exact ⟨congrArg (fun b => Ending.returned (Value.bool b)) (show false = idn _ from by unfold idn; exact (decide_eq_false (by omega)).symm), rfl⟩
    by_cases c116 : u = 116
    · subst c116
      go_enter Tryd.func15, Tryd.ntmps15
      go_wp2_with (go_at_call 18; refine (sur18 _ (by omega) (by omega) _).mono ?_; rintro e w' ⟨rfl, rfl⟩)
      go_ret
      exact ⟨congrArg (fun b => Ending.returned (Value.bool b)) (show false = idn _ from by unfold idn; exact (decide_eq_false (by omega)).symm), rfl⟩
    by_cases c118 : u = 118
    · subst c118
      go_enter Tryd.func15, Tryd.ntmps15
      go_wp2_with (go_at_call 18; refine (sur18 _ (by omega) (by omega) _).mono ?_; rintro e w' ⟨rfl, rfl⟩)
      go_ret
      exact ⟨congrArg (fun b => Ending.returned (Value.bool b)) (show false = idn _ from by unfold idn; exact (decide_eq_false (by omega)).symm), rfl⟩
    by_cases c120 : u = 120
    · subst c120
      go_enter Tryd.func15, Tryd.ntmps15
      go_wp2_with (go_at_call 18; refine (sur18 _ (by omega) (by omega) _).mono ?_; rintro e w' ⟨rfl, rfl⟩)
      go_ret
      exact ⟨congrArg (fun b => Ending.returned (Value.bool b)) (show false = idn _ from by unfold idn; exact (decide_eq_false (by omega)).symm), rfl⟩
    by_cases c117 : u = 117
    · subst c117
      go_enter Tryd.func15, Tryd.ntmps15
      go_wp2_with (go_at_call 18; refine (sur18 _ (by omega) (by omega) _).mono ?_; rintro e w' ⟨rfl, rfl⟩)
      go_ret
      exact ⟨congrArg (fun b => Ending.returned (Value.bool b)) (show false = idn _ from by unfold idn; exact (decide_eq_false (by omega)).symm), rfl⟩
    by_cases d0 : u < 48
    · go_enter Tryd.func15, Tryd.ntmps15
      go_wp2_with (go_at_call 18; refine (sur18 _ (by omega) (by omega) _).mono ?_; rintro e w' ⟨rfl, rfl⟩)
      go_ret
      exact ⟨congrArg (fun b => Ending.returned (Value.bool b)) (show true = idn _ from by unfold idn; exact (decide_eq_true (by omega)).symm), rfl⟩
    · have d1 : 57 < u := by omega
      go_enter Tryd.func15, Tryd.ntmps15
      go_wp2_with (go_at_call 18; refine (sur18 _ (by omega) (by omega) _).mono ?_; rintro e w' ⟨rfl, rfl⟩)
      go_ret
      exact ⟨congrArg (fun b => Ending.returned (Value.bool b)) (show true = idn _ from by unfold idn; exact (decide_eq_true (by omega)).symm), rfl⟩
  by_cases e0 : u < 128
  · by_cases f0 : u < 32
    · go_enter Tryd.func15, Tryd.ntmps15
      go_wp2_with (go_at_call 18; refine (sur18 _ (by omega) (by omega) _).mono ?_; rintro e w' ⟨rfl, rfl⟩)
      go_ret
      exact ⟨congrArg (fun b => Ending.returned (Value.bool b)) (show false = idn _ from by unfold idn; exact (decide_eq_false (by omega)).symm), rfl⟩
    · have f1 : 126 < u := by omega
      go_enter Tryd.func15, Tryd.ntmps15
      go_wp2_with (go_at_call 18; refine (sur18 _ (by omega) (by omega) _).mono ?_; rintro e w' ⟨rfl, rfl⟩)
      go_ret
      exact ⟨congrArg (fun b => Ending.returned (Value.bool b)) (show false = idn _ from by unfold idn; exact (decide_eq_false (by omega)).symm), rfl⟩
  by_cases g0 : sur u = true
  · have g1 : 55296 ≤ u ∧ u ≤ 57343 := by unfold sur at g0; simpa using g0
    go_enter Tryd.func15, Tryd.ntmps15
    go_wp2_with (go_at_call 18; refine (sur18 _ (by omega) (by omega) _).mono ?_; rintro e w' ⟨rfl, rfl⟩)
    go_ret
    exact ⟨congrArg (fun b => Ending.returned (Value.bool b)) (show false = idn _ from by unfold idn; exact (decide_eq_false (by omega)).symm), rfl⟩
  have g2 : sur u = false := by simpa using g0
  have g3 : ¬ (55296 ≤ u ∧ u ≤ 57343) := by unfold sur at g2; simpa using g2
  by_cases c8232 : u = 8232
  · subst c8232
    go_enter Tryd.func15, Tryd.ntmps15
    go_wp2_with (go_at_call 18; refine (sur18 _ (by omega) (by omega) _).mono ?_; rintro e w' ⟨rfl, rfl⟩)
    go_ret
    exact ⟨congrArg (fun b => Ending.returned (Value.bool b)) (show false = idn _ from by unfold idn; exact (decide_eq_false (by omega)).symm), rfl⟩
  by_cases c8233 : u = 8233
  · subst c8233
    go_enter Tryd.func15, Tryd.ntmps15
    go_wp2_with (go_at_call 18; refine (sur18 _ (by omega) (by omega) _).mono ?_; rintro e w' ⟨rfl, rfl⟩)
    go_ret
    exact ⟨congrArg (fun b => Ending.returned (Value.bool b)) (show false = idn _ from by unfold idn; exact (decide_eq_false (by omega)).symm), rfl⟩
  have q1 : (u == 8232) = false := beq_eq_false_iff_ne.2 c8232
  have q2 : (u == 8233) = false := beq_eq_false_iff_ne.2 c8233
  go_enter Tryd.func15, Tryd.ntmps15
  go_wp2_with (go_at_call 18; refine (sur18 _ (by omega) (by omega) _).mono ?_; rintro e w' ⟨rfl, rfl⟩)
  go_ret
  exact ⟨congrArg (fun b => Ending.returned (Value.bool b)) (show true = idn _ from by unfold idn; exact (decide_eq_true (by omega)).symm), rfl⟩
end Go.Proofs.YtalpfbbceggcaaaDoor.CwH
