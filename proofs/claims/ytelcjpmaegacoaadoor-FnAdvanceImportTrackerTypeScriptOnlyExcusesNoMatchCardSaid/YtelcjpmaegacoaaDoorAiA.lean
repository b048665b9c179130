/- FnAdvanceImportTrackerTypeScriptOnlyExcusesNoMatch: sizes. -/
import Derived.Test.YtelcjpmaegacoaaDoorRows
import Derived.Test.YtelcjpmaegacoaaDoorMem
import Derived.Test.YtelcjpmaegacoaaDoorSl
import Derived.Test.YtelcjpmaegacoaaDoorFvs
import Derived.Test.YtelcjpmaegacoaaDoorAiP
import Derived.WalkKit
import Derived.ProofKit
import Derived.OpenShut
import Derived.Below
import Derived.WalkLawsBesides
import Derived.Lib.Hide
import Derived.Outline
import Derived.RegionTactic
import Derived.Deep.QuietTactic
import Derived.BigQuiet
import Derived.WalkSpells
import Derived.Deep.OwnRows
import Derived.IntWalk
import Derived.Deep.DeepMust
namespace Go.Proofs.YtelcjpmaegacoaaDoor.AiA
open Go.RowKit Mem Sl
set_option linter.unusedVariables false
open Args Fvs AiP

def Some (al n : Nat) (g : Nat → ByteArray) (w : World) (e : Ending) (w' : World) : Prop := ∃ b, e = .returned (.bool b) ∧ (b = true → al ≤ 1048576 ∧ n ≤ 1048576 ∧ ∀ i, i < n → (g i).size ≤ 1048576) ∧ w = w'
set_option maxRecDepth 100000 in
set_option maxHeartbeats 2000000 in
theorem bytes4 (a0 : ByteArray) (a1 a2 a3 a4 : Bool) (a5 : Int) (a6 a7 : Bool) (a8 : Int) (A9 : Option Addr) (n9 c9 : Nat) (g : Nat → ByteArray) (a10 : Bool) (w : World) (h0 : a0.size ≤ maxLen) (h9 : n9 ≤ maxLen) (hg : ∀ i, (g i).size ≤ maxLen) (h : Rs w A9 n9 (fun i => .string (g i))) :
    Calls Tryd.prog 4 #[.string a0, .bool a1, .bool a2, .bool a3, .bool a4, .int .i32 a5, .bool a6, .bool a7, .int .u8 a8, .slice A9 n9 c9, .bool a10] w (Some a0.size n9 g w) := by
  unfold maxLen at *
  have HR := Lib.hid h
  have HG := Lib.hid hg
  clear h hg
  by_cases q0 : a0.size ≤ 1048576
  case neg =>
    go_enter Tryd.func4, Tryd.ntmps4
    go_wp2_with fail
    go_ret
    exact ⟨_, rfl, (fun h => by cases h), rfl⟩
  by_cases q1 : n9 ≤ 1048576
  case neg =>
    go_enter Tryd.func4, Tryd.ntmps4
    go_wp2_with fail
    go_ret
    exact ⟨_, rfl, (fun h => by cases h), rfl⟩
  by_cases q2 : a0.size + n9 ≤ 1048576
  case neg =>
    go_enter Tryd.func4, Tryd.ntmps4
    go_wp2_with fail
    go_ret
    exact ⟨_, rfl, (fun h => by cases h), rfl⟩
  go_enter Tryd.func4, Tryd.ntmps4
  go_wp2
  go_loop [23, 24] (fun t i => ∃ k s : Nat, k ≤ n9 ∧ i = .int .i64 k ∧ t = .int .i64 s ∧ s ≤ 1048576 ∧ ∀ i, i < k → (g i).size ≤ 1048576) (fun _ i => n9 - (intOf i).toNat)
  case atStart => exact ⟨0, a0.size + n9, Nat.zero_le _, rfl, by go_num, q2, fun i hi => absurd hi (Nat.not_lt_zero i)⟩
  case round =>
    obtain ⟨k, s, hk, rfl, rfl, hs, hall⟩ := hrel
    have HS := Lib.hid hall
    clear hall
    by_cases hlt : k < n9
    · obtain ⟨b, off, ha, hb, hcell⟩ := HR.out k hlt
      subst ha
      obtain ⟨u, hu⟩ : ∃ u, u = g k := ⟨_, rfl⟩
      have hus : u.size ≤ 9223372036854775807 := by rw [hu]; exact HG.out k
      simp only [← hu] at hcell
      have HU := Lib.hid hu
      clear hb hu
      by_cases p0 : u.size ≤ 1048576
      case neg =>
        go_wp2
        go_ret
        exact ⟨_, rfl, (fun h => by cases h), rfl⟩
      by_cases p1 : s + u.size ≤ 1048576
      case neg =>
        go_wp2
        go_ret
        exact ⟨_, rfl, (fun h => by cases h), rfl⟩
      have HS2 := Lib.hid (show ∀ i, i < k + 1 → (g i).size ≤ 1048576 by
        intro i hi
        by_cases e : i = k
        · subst e; rw [← HU.out]; exact p0
        · exact HS.out i (by omega))
      go_wp2
      go_round
      case rel => exact ⟨k + 1, s + u.size, by omega, by go_num, by go_num, p1, HS2.out⟩
      case measure => simp [intOf]; omega
    · obtain rfl : n9 = k := by omega
      go_wp2
      go_ret
      exact ⟨_, rfl, fun _ => ⟨q0, q1, HS.out⟩, rfl⟩
/-- The sizes fit. -/
def Fit (al n : Nat) (w : World) (e : Ending) (w' : World) : Prop := ∃ b, e = .returned (.bool b) ∧ (b = true → al ≤ 65536 ∧ n ≤ 4096) ∧ w = w'
set_option maxRecDepth 100000 in
set_option maxHeartbeats 2000000 in
theorem fit5 (a0 : ByteArray) (A9 : Option Addr) (n9 c9 : Nat) (g : Nat → ByteArray) (w : World) (h0 : a0.size ≤ 1048576) (h9 : n9 ≤ 1048576) (hg : ∀ i, i < n9 → (g i).size ≤ 1048576) (h : Rs w A9 n9 (fun i => .string (g i))) :
    Calls Tryd.prog 5 #[.string a0, .slice A9 n9 c9] w (Fit a0.size n9 w) := by
  have HR := Lib.hid h
  have HG := Lib.hid hg
  clear h hg
  by_cases q0 : a0.size ≤ 65536
  case neg =>
    have t0 : decide ((65536 : Int) < (a0.size : Int)) = true := by simp; omega
    go_enter Tryd.func5, Tryd.ntmps5
    go_wp2_with fail
    go_ret
    exact ⟨_, rfl, (fun h => by cases h), rfl⟩
  have t0 : decide ((65536 : Int) < (a0.size : Int)) = false := by simp; omega
  by_cases q1 : n9 ≤ 4096
  case neg =>
    have t1 : decide ((4096 : Int) < (n9 : Int)) = true := by simp; omega
    go_enter Tryd.func5, Tryd.ntmps5
    go_wp2_with fail
    go_ret
    exact ⟨_, rfl, (fun h => by cases h), rfl⟩
  have t1 : decide ((4096 : Int) < (n9 : Int)) = false := by simp; omega
  go_enter Tryd.func5, Tryd.ntmps5
  go_wp2
  go_loop [5, 6] (fun t i => ∃ k s : Nat, k ≤ n9 ∧ i = .int .i64 k ∧ t = .int .i64 s ∧ s ≤ 1048576) (fun _ i => n9 - (intOf i).toNat)
  case atStart => exact ⟨0, a0.size + n9 * 16, Nat.zero_le _, rfl, by go_num, by omega⟩
  case round =>
    obtain ⟨k, s, hk, rfl, rfl, hs⟩ := hrel
    by_cases hlt : k < n9
    · obtain ⟨b, off, ha, hb, hcell⟩ := HR.out k hlt
      subst ha
      obtain ⟨u, hu⟩ : ∃ u, u = g k := ⟨_, rfl⟩
      have hus : u.size ≤ 1048576 := by rw [hu]; exact HG.out k hlt
      simp only [← hu] at hcell
      clear hb hu
      by_cases p1 : s + u.size ≤ 1048576
      case neg =>
        go_wp2
        go_ret
        exact ⟨_, rfl, (fun h => by cases h), rfl⟩
      go_wp2
      go_round
      case rel => exact ⟨k + 1, s + u.size, by omega, by go_num, by go_num, p1⟩
      case measure => simp [intOf]; omega
    · obtain rfl : n9 = k := by omega
      go_wp2
      go_ret
      exact ⟨_, rfl, fun _ => ⟨q0, q1⟩, rfl⟩
end Go.Proofs.YtelcjpmaegacoaaDoor.AiA
