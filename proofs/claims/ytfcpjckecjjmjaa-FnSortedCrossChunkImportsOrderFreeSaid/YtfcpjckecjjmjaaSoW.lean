/- FnSortedCrossChunkImportsOrderFree: sizes, the number of chunks, fields. -/
import Derived.Test.YtfcpjckecjjmjaaRows
import Derived.Test.YtfcpjckecjjmjaaFvs
import Derived.Test.YtfcpjckecjjmjaaArgs
import Derived.Test.YtfcpjckecjjmjaaMem
import Derived.WalkKit
import Derived.ProofKit
import Derived.OpenShut
import Derived.Below
import Derived.WalkLawsBesides
import Derived.Lib.Hide
import Derived.Outline
import Derived.RegionTactic
import Derived.Deep.QuietTactic
import Derived.BigQuiet
import Derived.WalkSpells
import Derived.Deep.OwnRows
import Derived.IntWalk
import Derived.Deep.DeepMust
namespace Go.Proofs.Ytfcpjckecjjmjaa.SoW
open Go.RowKit Mem Args Fvs
set_option linter.unusedVariables false
theorem rs_strs {w : World} {A : Option Addr} {n c : Nat} {zs : List ByteArray} (h : Args.IsStrs w A n c zs) : Rs w A n (fun i => .string (zs.getD i ByteArray.empty)) := fun i hi => by
  obtain ⟨h1, h2, h3, h4, h5, h6⟩ := h
  obtain ⟨b, o, ha, hb, hc⟩ := h6 (by omega)
  exact ⟨b, o, ha, hb, hc i hi⟩

def By (n6 : Nat) (g : Nat → ByteArray) (w : World) (e : Ending) (w' : World) : Prop := ∃ b, e = .returned (.bool b) ∧ (b = true → ∀ i, i < n6 → (g i).size ≤ 1048576) ∧ w = w'

set_option maxRecDepth 100000 in
set_option maxHeartbeats 2000000 in
theorem bytes4 (A0 : Option Addr) (n0 c0 : Nat) (A1 : Option Addr) (n1 c1 : Nat) (A2 : Option Addr) (n2 c2 : Nat) (A3 : Option Addr) (n3 c3 : Nat) (A4 : Option Addr) (n4 c4 : Nat) (A5 : Option Addr) (n5 c5 : Nat) (A6 : Option Addr) (n6 c6 : Nat) (g : Nat → ByteArray) (w : World) (h6 : Rs w A6 n6 (fun i => .string (g i))) (m0 : n0 ≤ maxLen) (m1 : n1 ≤ maxLen) (m2 : n2 ≤ maxLen) (m3 : n3 ≤ maxLen) (m4 : n4 ≤ maxLen) (m5 : n5 ≤ maxLen) (m6 : n6 ≤ maxLen) : Calls Try.prog 4 #[.slice A0 n0 c0, .slice A1 n1 c1, .slice A2 n2 c2, .slice A3 n3 c3, .slice A4 n4 c4, .slice A5 n5 c5, .slice A6 n6 c6] w (By n6 g w) := by
  unfold maxLen at *
  have H6 := Lib.hid h6
  clear h6
  by_cases h0 : n0 ≤ 1048576
  case neg =>
    go_enter Try.func4, Try.ntmps4
    go_wp2_with fail
    go_ret
    exact ⟨_, rfl, (fun h => by cases h), rfl⟩
  by_cases h1 : n1 ≤ 1048576
  case neg =>
    go_enter Try.func4, Try.ntmps4
    go_wp2_with fail
    go_ret
    exact ⟨_, rfl, (fun h => by cases h), rfl⟩
  by_cases g1 : n0 + n1 ≤ 1048576
  case neg =>
    go_enter Try.func4, Try.ntmps4
    go_wp2_with fail
    go_ret
    exact ⟨_, rfl, (fun h => by cases h), rfl⟩
  by_cases h2 : n2 ≤ 1048576
  case neg =>
    go_enter Try.func4, Try.ntmps4
    go_wp2_with fail
    go_ret
    exact ⟨_, rfl, (fun h => by cases h), rfl⟩
  by_cases g2 : n0 + n1 + n2 ≤ 1048576
  case neg =>
    go_enter Try.func4, Try.ntmps4
    go_wp2_with fail
    go_ret
    exact ⟨_, rfl, (fun h => by cases h), rfl⟩
  by_cases h3 : n3 ≤ 1048576
  case neg =>
    go_enter Try.func4, Try.ntmps4
    go_wp2_with fail
    go_ret
    exact ⟨_, rfl, (fun h => by cases h), rfl⟩
  by_cases g3 : n0 + n1 + n2 + n3 ≤ 1048576
  case neg =>
    go_enter Try.func4, Try.ntmps4
    go_wp2_with fail
    go_ret
    exact ⟨_, rfl, (fun h => by cases h), rfl⟩
  by_cases h4 : n4 ≤ 1048576
  case neg =>
    go_enter Try.func4, Try.ntmps4
    go_wp2_with fail
    go_ret
    exact ⟨_, rfl, (fun h => by cases h), rfl⟩
  by_cases g4 : n0 + n1 + n2 + n3 + n4 ≤ 1048576
  case neg =>
    go_enter Try.func4, Try.ntmps4
    go_wp2_with fail
    go_ret
    exact ⟨_, rfl, (fun h => by cases h), rfl⟩
  by_cases h5 : n5 ≤ 1048576
  case neg =>
    go_enter Try.func4, Try.ntmps4
    go_wp2_with fail
    go_ret
    exact ⟨_, rfl, (fun h => by cases h), rfl⟩
  by_cases g5 : n0 + n1 + n2 + n3 + n4 + n5 ≤ 1048576
  case neg =>
    go_enter Try.func4, Try.ntmps4
    go_wp2_with fail
    go_ret
    exact ⟨_, rfl, (fun h => by cases h), rfl⟩
  by_cases h6 : n6 ≤ 1048576
  case neg =>
    go_enter Try.func4, Try.ntmps4
    go_wp2_with fail
    go_ret
    exact ⟨_, rfl, (fun h => by cases h), rfl⟩
  by_cases g6 : n0 + n1 + n2 + n3 + n4 + n5 + n6 ≤ 1048576
  case neg =>
    go_enter Try.func4, Try.ntmps4
    go_wp2_with fail
    go_ret
    exact ⟨_, rfl, (fun h => by cases h), rfl⟩
  go_enter Try.func4, Try.ntmps4
  go_wp2_with fail
  go_loopw [15, 16] (fun s15 s16 wr => ∃ (z k : Nat), s15 = .int .i64 z ∧ s16 = .int .i64 k ∧ k ≤ n6 ∧ z ≤ 1048576 ∧ Hid (∀ i, i < k → (g i).size ≤ 1048576) ∧ w = wr) (fun _ s16 _ => n6 - (intOf s16).toNat)
  case atStart => exact ⟨n0 + n1 + n2 + n3 + n4 + n5 + n6, 0, by go_num, rfl, Nat.zero_le _, by omega, fun i hi => absurd hi (Nat.not_lt_zero i), rfl⟩
  case round =>
    obtain ⟨z, k, rfl, rfl, hk, hz, HA, rfl⟩ := hrel
    by_cases hlt : k < n6
    · obtain ⟨b, o, ha, hb, hc⟩ := H6.out k hlt
      subst ha
      obtain ⟨x, hx⟩ : ∃ x, x = g k := ⟨_, rfl⟩
      simp only [← hx] at hc
      have HX := Lib.hid hx
      clear hx hb
      by_cases h7 : x.size ≤ 1048576
      · by_cases h8 : z + x.size ≤ 1048576
        · have HA2 := Lib.hid (show ∀ i, i < k + 1 → (g i).size ≤ 1048576 from fun i hi => by
            by_cases e : i = k
            · subst e; rw [← HX.out]; exact h7
            · exact HA.out i (by omega))
          go_wp2_with fail
          go_roundw
          case rel => exact ⟨z + x.size, k + 1, by go_num, by go_num, by omega, h8, HA2.out, by first | rfl | trivial⟩
          case measure => simp [intOf]; omega
        · go_wp2_with fail
          go_ret
          exact ⟨_, rfl, (fun h => by cases h), rfl⟩
      · go_wp2_with fail
        go_ret
        exact ⟨_, rfl, (fun h => by cases h), rfl⟩
    · obtain rfl : n6 = k := by omega
      go_wp2_with fail
      go_ret
      exact ⟨_, rfl, fun _ => HA.out, rfl⟩
/-- The arguments fit. -/
def Ft (n0 n1 n2 n3 n4 n5 n6 : Nat) (f0 f3 : Nat → Int) : Prop := n0 ≤ 1024 ∧ n1 = n0 ∧ n2 = n0 ∧ n3 ≤ 1024 ∧ n4 = n3 ∧ n5 = n3 ∧ n6 = n3 ∧ (∀ k, k < n0 → f0 k ≤ 65535) ∧ (∀ k, k < n3 → f3 k ≤ 65535)
def Fit (n0 n1 n2 n3 n4 n5 n6 : Nat) (f0 f3 : Nat → Int) (w : World) (e : Ending) (w' : World) : Prop := ∃ b, e = .returned (.bool b) ∧ (b = true → Ft n0 n1 n2 n3 n4 n5 n6 f0 f3) ∧ w = w'
def Nm (n0 n3 : Nat) (f0 f3 : Nat → Int) (w : World) (e : Ending) (w' : World) : Prop := ∃ z : Nat, e = .returned (.int .i64 (z : Int)) ∧ z ≤ 65536 ∧ (∀ k, k < n0 → f0 k < z) ∧ (∀ k, k < n3 → f3 k < z) ∧ w = w'
set_option maxRecDepth 100000 in
set_option maxHeartbeats 4000000 in
theorem fit5 (A0 : Option Addr) (n0 c0 : Nat) (A1 : Option Addr) (n1 c1 : Nat) (A2 : Option Addr) (n2 c2 : Nat) (A3 : Option Addr) (n3 c3 : Nat) (A4 : Option Addr) (n4 c4 : Nat) (A5 : Option Addr) (n5 c5 : Nat) (A6 : Option Addr) (n6 c6 : Nat) (f0 f3 : Nat → Int) (g : Nat → ByteArray) (w : World) (r0 : Rs w A0 n0 (fun i => .int .u32 (f0 i))) (r3 : Rs w A3 n3 (fun i => .int .u32 (f3 i))) (r6 : Rs w A6 n6 (fun i => .string (g i))) (hgs : ∀ i, i < n6 → (g i).size ≤ 1048576) (m0 : n0 ≤ maxLen) (m1 : n1 ≤ maxLen) (m2 : n2 ≤ maxLen) (m3 : n3 ≤ maxLen) (m4 : n4 ≤ maxLen) (m5 : n5 ≤ maxLen) (m6 : n6 ≤ maxLen) :
    Calls Try.prog 5 #[.slice A0 n0 c0, .slice A1 n1 c1, .slice A2 n2 c2, .slice A3 n3 c3, .slice A4 n4 c4, .slice A5 n5 c5, .slice A6 n6 c6] w (Fit n0 n1 n2 n3 n4 n5 n6 f0 f3 w) := by
  unfold maxLen at *
  have H0 := Lib.hid r0
  have H3 := Lib.hid r3
  have H6 := Lib.hid r6
  have hgs' := Lib.hid hgs
  clear r0 r3 r6 hgs
  by_cases h0 : n0 ≤ 1024
  case neg =>
    go_enter Try.func5, Try.ntmps5
    go_wp2_with fail
    go_ret
    exact ⟨_, rfl, (fun h => by cases h), rfl⟩
  by_cases h1 : n1 ≤ 1024
  case neg =>
    go_enter Try.func5, Try.ntmps5
    go_wp2_with fail
    go_ret
    exact ⟨_, rfl, (fun h => by cases h), rfl⟩
  by_cases h2 : n2 ≤ 1024
  case neg =>
    go_enter Try.func5, Try.ntmps5
    go_wp2_with fail
    go_ret
    exact ⟨_, rfl, (fun h => by cases h), rfl⟩
  by_cases h3 : n3 ≤ 1024
  case neg =>
    go_enter Try.func5, Try.ntmps5
    go_wp2_with fail
    go_ret
    exact ⟨_, rfl, (fun h => by cases h), rfl⟩
  by_cases h4 : n4 ≤ 1024
  case neg =>
    go_enter Try.func5, Try.ntmps5
    go_wp2_with fail
    go_ret
    exact ⟨_, rfl, (fun h => by cases h), rfl⟩
  by_cases h5 : n5 ≤ 1024
  case neg =>
    go_enter Try.func5, Try.ntmps5
    go_wp2_with fail
    go_ret
    exact ⟨_, rfl, (fun h => by cases h), rfl⟩
  by_cases h6 : n6 ≤ 1024
  case neg =>
    go_enter Try.func5, Try.ntmps5
    go_wp2_with fail
    go_ret
    exact ⟨_, rfl, (fun h => by cases h), rfl⟩
  go_enter Try.func5, Try.ntmps5
  go_wp2_with fail
  go_loopw [15, 16] (fun s15 s16 wr => ∃ (z k : Nat), s15 = .int .i64 z ∧ s16 = .int .i64 k ∧ k ≤ n6 ∧ z ≤ 1048576 ∧ w = wr) (fun _ s16 _ => n6 - (intOf s16).toNat)
  case atStart => exact ⟨8 * (n0 + n1 + n2 + n3 + n4 + n5 + 2 * n6), 0, by go_num, rfl, Nat.zero_le _, by omega, rfl⟩
  case round =>
    obtain ⟨z, k, rfl, rfl, hk, hz, rfl⟩ := hrel
    by_cases hlt : k < n6
    · obtain ⟨b, o, ha, hb, hc⟩ := H6.out k hlt
      subst ha
      obtain ⟨x, hx⟩ : ∃ x, x = g k := ⟨_, rfl⟩
      simp only [← hx] at hc
      have hxs : x.size ≤ 1048576 := hgs'.out k hlt |> fun h => by rw [hx]; exact h
      clear hx hb
      by_cases h8 : z + x.size ≤ 1048576
      · go_wp2_with fail
        go_roundw
        case rel => exact ⟨z + x.size, k + 1, by go_num, by go_num, by omega, h8, by first | rfl | trivial⟩
        case measure => simp [intOf]; omega
      · go_wp2_with fail
        go_ret
        exact ⟨_, rfl, (fun h => by cases h), rfl⟩
    · obtain rfl : n6 = k := by omega
      by_cases e1 : n1 = n0
      case neg =>
        have ge1 : ((n1 : Int) != (n0 : Int)) = true := by simp; omega
        go_wp2_with fail
        go_ret
        exact ⟨_, rfl, (fun h => by cases h), rfl⟩
      have ge1 : ((n1 : Int) != (n0 : Int)) = false := by simp; omega
      by_cases e2 : n2 = n0
      case neg =>
        have ge2 : ((n2 : Int) != (n0 : Int)) = true := by simp; omega
        go_wp2_with fail
        go_ret
        exact ⟨_, rfl, (fun h => by cases h), rfl⟩
      have ge2 : ((n2 : Int) != (n0 : Int)) = false := by simp; omega
      by_cases e4 : n4 = n3
      case neg =>
        have ge4 : ((n4 : Int) != (n3 : Int)) = true := by simp; omega
        go_wp2_with fail
        go_ret
        exact ⟨_, rfl, (fun h => by cases h), rfl⟩
      have ge4 : ((n4 : Int) != (n3 : Int)) = false := by simp; omega
      by_cases e5 : n5 = n3
      case neg =>
        have ge5 : ((n5 : Int) != (n3 : Int)) = true := by simp; omega
        go_wp2_with fail
        go_ret
        exact ⟨_, rfl, (fun h => by cases h), rfl⟩
      have ge5 : ((n5 : Int) != (n3 : Int)) = false := by simp; omega
      by_cases e6 : n6 = n3
      case neg =>
        have ge6 : ((n6 : Int) != (n3 : Int)) = true := by simp; omega
        go_wp2_with fail
        go_ret
        exact ⟨_, rfl, (fun h => by cases h), rfl⟩
      have ge6 : ((n6 : Int) != (n3 : Int)) = false := by simp; omega
      go_wp2_with fail
      go_loopw [17] (fun s wr => ∃ k : Nat, s = .int .i64 k ∧ k ≤ n0 ∧ Hid (∀ i, i < k → f0 i ≤ 65535) ∧ w = wr) (fun s _ => n0 - (intOf s).toNat)
      case atStart => exact ⟨0, rfl, Nat.zero_le _, fun i hi => absurd hi (Nat.not_lt_zero i), rfl⟩
      case round =>
        obtain ⟨k, rfl, hk, HA0, rfl⟩ := hrel
        by_cases hlt : k < n0
        · obtain ⟨b, o, ha, hb, hc⟩ := H0.out k hlt
          subst ha
          obtain ⟨x, hx⟩ : ∃ x, x = f0 k := ⟨_, rfl⟩
          simp only [← hx] at hc
          have HX := Lib.hid hx
          clear hb hx
          by_cases h7 : x ≤ 65535
          · have t7 : decide (65535 < x) = false := by simpa using h7
            have HA2 := Lib.hid (show ∀ i, i < k + 1 → f0 i ≤ 65535 from fun i hi => by
              by_cases e : i = k
              · subst e; rw [← HX.out]; exact h7
              · exact HA0.out i (by omega))
            clear h7
            go_wp2_with fail
            go_roundw
            case rel => exact ⟨k + 1, by go_num, by omega, HA2.out, by first | rfl | trivial⟩
            case measure => simp [intOf]; omega
          · have t7 : decide (65535 < x) = true := by simpa using h7
            clear h7
            go_wp2_with fail
            go_ret
            exact ⟨_, rfl, (fun h => by cases h), rfl⟩
        · obtain rfl : n0 = k := by omega
          go_wp2_with fail
          go_loopw [18] (fun s wr => ∃ k : Nat, s = .int .i64 k ∧ k ≤ n3 ∧ Hid (∀ i, i < k → f3 i ≤ 65535) ∧ w = wr) (fun s _ => n3 - (intOf s).toNat)
          case atStart => exact ⟨0, rfl, Nat.zero_le _, fun i hi => absurd hi (Nat.not_lt_zero i), rfl⟩
          case round =>
            obtain ⟨k, rfl, hk, HA3, rfl⟩ := hrel
            by_cases hlt : k < n3
            · obtain ⟨b, o, ha, hb, hc⟩ := H3.out k hlt
              subst ha
              obtain ⟨x, hx⟩ : ∃ x, x = f3 k := ⟨_, rfl⟩
              simp only [← hx] at hc
              have HX := Lib.hid hx
              clear hb hx
              by_cases h7 : x ≤ 65535
              · have t7 : decide (65535 < x) = false := by simpa using h7
                have HA2 := Lib.hid (show ∀ i, i < k + 1 → f3 i ≤ 65535 from fun i hi => by
                  by_cases e : i = k
                  · subst e; rw [← HX.out]; exact h7
                  · exact HA3.out i (by omega))
                clear h7
                go_wp2_with fail
                go_roundw
                case rel => exact ⟨k + 1, by go_num, by omega, HA2.out, by first | rfl | trivial⟩
                case measure => simp [intOf]; omega
              · have t7 : decide (65535 < x) = true := by simpa using h7
                clear h7
                go_wp2_with fail
                go_ret
                exact ⟨_, rfl, (fun h => by cases h), rfl⟩
            · obtain rfl : n3 = k := by omega
              go_wp2_with fail
              go_ret
              exact ⟨_, rfl, fun _ => ⟨h0, e1, e2, h3, e4, e5, e6, HA0.out, HA3.out⟩, rfl⟩
set_option maxRecDepth 100000 in
set_option maxHeartbeats 2000000 in
theorem num6 (A0 A3 : Option Addr) (n0 c0 n3 c3 : Nat) (f0 f3 : Nat → Int) (w : World) (r0 : Rs w A0 n0 (fun i => .int .u32 (f0 i))) (r3 : Rs w A3 n3 (fun i => .int .u32 (f3 i))) (h0 : n0 ≤ 1024) (h3 : n3 ≤ 1024) (p0 : ∀ k, k < n0 → 0 ≤ f0 k ∧ f0 k ≤ 65535) (p3 : ∀ k, k < n3 → 0 ≤ f3 k ∧ f3 k ≤ 65535) :
    Calls Try.prog 6 #[.slice A0 n0 c0, .slice A3 n3 c3] w (Nm n0 n3 f0 f3 w) := by
  have H0 := Lib.hid r0
  have H3 := Lib.hid r3
  have P0 := Lib.hid p0
  have P3 := Lib.hid p3
  clear r0 r3 p0 p3
  go_enter Try.func6, Try.ntmps6
  go_wp2
  go_loopw [5, 6] (fun s5 s wr => ∃ (z k : Nat), s5 = .int .i64 z ∧ s = .int .i64 k ∧ k ≤ n0 ∧ z ≤ 65536 ∧ Hid (∀ i, i < k → f0 i < (z : Int)) ∧ w = wr) (fun _ s _ => n0 - (intOf s).toNat)
  case atStart => exact ⟨0, 0, rfl, rfl, Nat.zero_le _, by omega, fun i hi => absurd hi (Nat.not_lt_zero i), rfl⟩
  case round =>
    obtain ⟨z, k, rfl, rfl, hk, hz, HA0, rfl⟩ := hrel
    by_cases hlt : k < n0
    · obtain ⟨b, o, ha, hb, hc⟩ := H0.out k hlt
      have hp := P0.out k hlt
      subst ha
      obtain ⟨x, hx⟩ : ∃ x, x = f0 k := ⟨_, rfl⟩
      simp only [← hx] at hc hp
      have HX := Lib.hid hx
      clear hb hx
      obtain ⟨y, rfl⟩ : ∃ y : Nat, x = (y : Int) := ⟨x.toNat, by omega⟩
      by_cases h7 : z < y + 1
      · go_wp2_with fail
        go_roundw
        case rel => exact ⟨y + 1, k + 1, by go_num, by go_num, by omega, by omega, fun i hi => by
          by_cases e : i = k
          · subst e; rw [← HX.out]; omega
          · have := HA0.out i (by omega); omega, by first | rfl | trivial⟩
        case measure => simp [intOf]; omega
      · go_wp2_with fail
        go_roundw
        case rel => exact ⟨z, k + 1, rfl, by go_num, by omega, hz, fun i hi => by
          by_cases e : i = k
          · subst e; rw [← HX.out]; omega
          · exact HA0.out i (by omega), by first | rfl | trivial⟩
        case measure => simp [intOf]; omega
    · obtain rfl : n0 = k := by omega
      go_wp2_with fail
      go_loopw [5, 7] (fun s5 s wr => ∃ (z k : Nat), s5 = .int .i64 z ∧ s = .int .i64 k ∧ k ≤ n3 ∧ z ≤ 65536 ∧ Hid (∀ i, i < n0 → f0 i < (z : Int)) ∧ Hid (∀ i, i < k → f3 i < (z : Int)) ∧ w = wr) (fun _ s _ => n3 - (intOf s).toNat)
      case atStart => exact ⟨z, 0, rfl, rfl, Nat.zero_le _, hz, HA0.out, fun i hi => absurd hi (Nat.not_lt_zero i), rfl⟩
      case round =>
        obtain ⟨z, k, rfl, rfl, hk, hz, HA0, HA3, rfl⟩ := hrel
        by_cases hlt : k < n3
        · obtain ⟨b, o, ha, hb, hc⟩ := H3.out k hlt
          have hp := P3.out k hlt
          subst ha
          obtain ⟨x, hx⟩ : ∃ x, x = f3 k := ⟨_, rfl⟩
          simp only [← hx] at hc hp
          have HX := Lib.hid hx
          clear hb hx
          obtain ⟨y, rfl⟩ : ∃ y : Nat, x = (y : Int) := ⟨x.toNat, by omega⟩
          by_cases h7 : z < y + 1
          · go_wp2_with fail
            go_roundw
            case rel => exact ⟨y + 1, k + 1, by go_num, by go_num, by omega, by omega, fun i hi => by have := HA0.out i hi; omega, fun i hi => by
              by_cases e : i = k
              · subst e; rw [← HX.out]; omega
              · have := HA3.out i (by omega); omega, by first | rfl | trivial⟩
            case measure => simp [intOf]; omega
          · go_wp2_with fail
            go_roundw
            case rel => exact ⟨z, k + 1, rfl, by go_num, by omega, hz, HA0.out, fun i hi => by
              by_cases e : i = k
              · subst e; rw [← HX.out]; omega
              · exact HA3.out i (by omega), by first | rfl | trivial⟩
            case measure => simp [intOf]; omega
        · obtain rfl : n3 = k := by omega
          go_wp2_with fail
          go_ret
          exact ⟨z, rfl, hz, HA0.out, HA3.out, rfl⟩

theorem chunk11 (v : Value) (c : Int) (hv : v.oneCell' = true) (w : World) : Calls Try.prog 11 #[.agg #[v, .int .u32 c]] w fun e w' => e = .returned (.int .u32 c) ∧ Below w.heap.size w w' := by
  go_enter Try.func11, Try.ntmps11
  go_wp2
  go_ret
  exact ⟨rfl, (Below.refl _ _).alloc (Nat.le_refl _) _⟩
theorem items12 (A : Option Addr) (n cap : Nat) (c : Int) (w : World) : Calls Try.prog 12 #[.agg #[.slice A n cap, .int .u32 c]] w fun e w' => e = .returned (.slice A n cap) ∧ Below w.heap.size w w' := by
  go_enter Try.func12, Try.ntmps12
  go_wp2
  go_ret
  exact ⟨rfl, (Below.refl _ _).alloc (Nat.le_refl _) _⟩
theorem alias13 (a : ByteArray) (x y : Int) (w : World) : Calls Try.prog 13 #[.agg #[.string a, .int .u32 x, .int .u32 y]] w fun e w' => e = .returned (.string a) ∧ Below w.heap.size w w' := by
  go_enter Try.func13, Try.ntmps13
  go_wp2
  go_ret
  exact ⟨rfl, (Below.refl _ _).alloc (Nat.le_refl _) _⟩
end Go.Proofs.Ytfcpjckecjjmjaa.SoW
