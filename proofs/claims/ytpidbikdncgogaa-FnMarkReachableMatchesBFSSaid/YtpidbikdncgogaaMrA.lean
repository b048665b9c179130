/- FnMarkReachableMatchesBFS: sizes. -/
import Derived.Test.YtpidbikdncgogaaRows
import Derived.Test.YtpidbikdncgogaaMem
import Derived.Test.YtpidbikdncgogaaSl
import Derived.Test.YtpidbikdncgogaaFvs
import Derived.Test.YtpidbikdncgogaaMrI
import Derived.WalkKit
import Derived.ProofKit
import Derived.OpenShut
import Derived.Below
import Derived.WalkLawsBesides
import Derived.Lib.Hide
import Derived.Outline
import Derived.RegionTactic
import Derived.Deep.QuietTactic
import Derived.BigQuiet
import Derived.WalkSpells
import Derived.Deep.OwnRows
import Derived.IntWalk
import Derived.Deep.DeepMust
namespace Go.Proofs.Ytpidbikdncgogaa.MrA
open Go.RowKit Mem Sl
set_option linter.unusedVariables false
open Args Fvs Argn MrI

/-- The lengths of the first m files' lists fit. -/
def Lens (m : Nat) (d : Dat) : Prop := ∀ i, i < m → d.rl i ≤ 1048576 ∧ d.pl i ≤ 1048576 ∧ ∀ j, j < d.pl i → d.ql i j ≤ 1048576 ∧ d.dl i j ≤ 1048576
def Some (n : Nat) (d : Dat) (w : World) (e : Ending) (w' : World) : Prop := ∃ b, e = .returned (.bool b) ∧ (b = true → n ≤ 1048576 ∧ Lens n d) ∧ w = w'
theorem lens_next {m : Nat} {d : Dat} (h : Lens m d) (h1 : d.rl m ≤ 1048576) (h2 : d.pl m ≤ 1048576) (h3 : ∀ j, j < d.pl m → d.ql m j ≤ 1048576 ∧ d.dl m j ≤ 1048576) : Lens (m + 1) d := fun i hi => by
  by_cases e : i = m
  · subst e; exact ⟨h1, h2, h3⟩
  · exact h i (by omega)
set_option maxRecDepth 100000 in
set_option maxHeartbeats 4000000 in
theorem bytes4 (A : Option Addr) (n c : Nat) (d : Dat) (h : Hdr) (a1 a2 : Int) (a3 : Bool) (w : World) (hf : Fs w A n d h) (hn : n ≤ maxLen) :
    Calls Try.prog 4 #[.slice A n c, .int .u32 a1, .int .u8 a2, .bool a3] w (Some n d w) := by
  unfold maxLen at hn
  have H := Lib.hid hf
  clear hf
  by_cases q1 : n ≤ 1048576
  case neg =>
    go_enter Try.func4, Try.ntmps4
    go_wp2_with fail
    go_ret
    exact ⟨_, rfl, (fun h => by cases h), rfl⟩
  go_enter Try.func4, Try.ntmps4
  go_wp2
  go_loop [9, 10] (fun t i => ∃ k s : Nat, k ≤ n ∧ i = .int .i64 k ∧ t = .int .i64 s ∧ s ≤ 1048576 ∧ Lens k d) (fun _ i => n - (intOf i).toNat)
  case atStart => exact ⟨0, n, Nat.zero_le _, rfl, by go_num, q1, fun i hi => absurd hi (Nat.not_lt_zero i)⟩
  case round =>
    obtain ⟨k, s, hk, rfl, rfl, hs, hall⟩ := hrel
    have HS := Lib.hid hall
    clear hall
    by_cases hlt : k < n
    · obtain ⟨b, o, ha, hb, _, _, _, c3, c4⟩ := H.out.file k hlt
      have hmx := H.out.rle k hlt
      unfold maxLen at hmx
      obtain ⟨hm1, hm2⟩ := hmx
      subst ha
      obtain ⟨u, hu⟩ : ∃ u, u = d.rl k := ⟨_, rfl⟩
      obtain ⟨v, hv⟩ : ∃ v, v = d.pl k := ⟨_, rfl⟩
      rw [← hu] at c3 hm1
      rw [← hv] at c4 hm2
      have HU := Lib.hid hu
      have HV := Lib.hid hv
      have HPT := Lib.hid (fun j (hj : j < v) => H.out.part k hlt j (by rw [← hv]; exact hj))
      have HPL := Lib.hid (fun j (hj : j < v) => H.out.ple k hlt j (by rw [← hv]; exact hj))
      clear hb hu hv
      by_cases p0 : u ≤ 1048576
      case neg =>
        go_wp2
        go_ret
        exact ⟨_, rfl, (fun h => by cases h), rfl⟩
      by_cases p1 : s + u ≤ 1048576
      case neg =>
        go_wp2
        go_ret
        exact ⟨_, rfl, (fun h => by cases h), rfl⟩
      by_cases p2 : v ≤ 1048576
      case neg =>
        go_wp2
        go_ret
        exact ⟨_, rfl, (fun h => by cases h), rfl⟩
      by_cases p3 : s + u + v ≤ 1048576
      case neg =>
        go_wp2
        go_ret
        exact ⟨_, rfl, (fun h => by cases h), rfl⟩
      go_wp2
      go_loop [9, 11] (fun t i => ∃ j s : Nat, j ≤ v ∧ i = .int .i64 j ∧ t = .int .i64 s ∧ s ≤ 1048576 ∧ ∀ x, x < j → d.ql k x ≤ 1048576 ∧ d.dl k x ≤ 1048576) (fun _ i => v - (intOf i).toNat)
      case atStart => exact ⟨0, s + u + v, Nat.zero_le _, rfl, by go_num, p3, fun i hi => absurd hi (Nat.not_lt_zero i)⟩
      case round =>
        obtain ⟨j, s2, hj, rfl, rfl, hs2, hall⟩ := hrel
        have HJ := Lib.hid hall
        clear hall
        by_cases hlj : j < v
        · obtain ⟨b2, o2, ha2, hb2, e0, e1, _, _⟩ := HPT.out j hlj
          have hmy := HPL.out j hlj
          unfold maxLen at hmy
          obtain ⟨hm3, hm4⟩ := hmy
          rw [ha2] at c4
          obtain ⟨x, hx⟩ : ∃ x, x = d.ql k j := ⟨_, rfl⟩
          obtain ⟨y, hy⟩ : ∃ y, y = d.dl k j := ⟨_, rfl⟩
          rw [← hx] at e0 hm3
          rw [← hy] at e1 hm4
          have HX := Lib.hid hx
          have HY := Lib.hid hy
          clear hb2 ha2 hx hy
          by_cases p4 : x ≤ 1048576
          case neg =>
            go_wp2
            go_ret
            exact ⟨_, rfl, (fun h => by cases h), rfl⟩
          by_cases p5 : s2 + x ≤ 1048576
          case neg =>
            go_wp2
            go_ret
            exact ⟨_, rfl, (fun h => by cases h), rfl⟩
          by_cases p6 : y ≤ 1048576
          case neg =>
            go_wp2
            go_ret
            exact ⟨_, rfl, (fun h => by cases h), rfl⟩
          by_cases p7 : s2 + x + y ≤ 1048576
          case neg =>
            go_wp2
            go_ret
            exact ⟨_, rfl, (fun h => by cases h), rfl⟩
          have HJ2 := Lib.hid (show ∀ z, z < j + 1 → d.ql k z ≤ 1048576 ∧ d.dl k z ≤ 1048576 by
            intro z hz
            by_cases e : z = j
            · subst e; rw [← HX.out, ← HY.out]; exact ⟨p4, p6⟩
            · exact HJ.out z (by omega))
          go_wp2
          go_round
          case rel => first | exact ⟨j + 1, s2 + x + y, by omega, by go_num, by go_num, p7, HJ2.out⟩ | exact hrel
          case measure => simp [intOf]; omega
        · obtain rfl : v = j := by omega
          have HS2 := Lib.hid (lens_next HS.out (by rw [← HU.out]; exact p0) (by rw [← HV.out]; exact p2) (fun z hz => HJ.out z (by rw [HV.out]; exact hz)))
          go_wp2
          go_round
          case rel => first | exact ⟨k + 1, s2, by omega, by go_num, rfl, hs2, HS2.out⟩ | exact hrel
          case measure => simp [intOf]; omega
    · obtain rfl : n = k := by omega
      go_wp2
      go_ret
      exact ⟨_, rfl, fun _ => ⟨q1, HS.out⟩, rfl⟩
def SomeInt (w : World) (e : Ending) (w' : World) : Prop := ∃ t : Nat, t ≤ 134217728 ∧ e = .returned (.int .i64 t) ∧ w = w'
set_option maxRecDepth 100000 in
set_option maxHeartbeats 4000000 in
theorem size5 (A : Option Addr) (n c : Nat) (d : Dat) (h : Hdr) (w : World) (hf : Fs w A n d h) (hn : n ≤ 1048576) (hl : Lens n d) :
    Calls Try.prog 5 #[.slice A n c] w (SomeInt w) := by
  have H := Lib.hid hf
  have HL := Lib.hid hl
  clear hf hl
  go_enter Try.func5, Try.ntmps5
  go_wp2
  go_loop [3, 4] (fun t i => ∃ k s : Nat, k ≤ n ∧ i = .int .i64 k ∧ t = .int .i64 s ∧ s ≤ 134217728) (fun _ i => n - (intOf i).toNat)
  case atStart => exact ⟨0, n * 56, Nat.zero_le _, rfl, by go_num, by omega⟩
  case round =>
    obtain ⟨k, s, hk, rfl, rfl, hs⟩ := hrel
    by_cases hlt : k < n
    · obtain ⟨b, o, ha, hb, _, _, _, c3, c4⟩ := H.out.file k hlt
      obtain ⟨hm1, hm2, hm3⟩ := HL.out k hlt
      subst ha
      obtain ⟨u, hu⟩ : ∃ u, u = d.rl k := ⟨_, rfl⟩
      obtain ⟨v, hv⟩ : ∃ v, v = d.pl k := ⟨_, rfl⟩
      rw [← hu] at c3 hm1
      rw [← hv] at c4 hm2 hm3
      have HPT := Lib.hid (fun j (hj : j < v) => H.out.part k hlt j (by rw [← hv]; exact hj))
      have HPL := Lib.hid hm3
      clear hb hu hv hm3
      by_cases p0 : s ≤ 2097152
      case neg =>
        go_wp2
        go_ret
        exact ⟨s, hs, rfl, rfl⟩
      go_wp2
      go_loop [3, 5] (fun t i => ∃ j s : Nat, j ≤ v ∧ i = .int .i64 j ∧ t = .int .i64 s ∧ s ≤ 134217728) (fun _ i => v - (intOf i).toNat)
      case atStart => exact ⟨0, s + u * 8 + v * 56, Nat.zero_le _, rfl, by go_num, by omega⟩
      case round =>
        obtain ⟨j, s2, hj, rfl, rfl, hs2⟩ := hrel
        by_cases hlj : j < v
        · obtain ⟨b2, o2, ha2, hb2, e0, e1, _, _⟩ := HPT.out j hlj
          obtain ⟨hm3, hm4⟩ := HPL.out j hlj
          rw [ha2] at c4
          obtain ⟨x, hx⟩ : ∃ x, x = d.ql k j := ⟨_, rfl⟩
          obtain ⟨y, hy⟩ : ∃ y, y = d.dl k j := ⟨_, rfl⟩
          rw [← hx] at e0 hm3
          rw [← hy] at e1 hm4
          clear hb2 ha2 hx hy
          by_cases p1 : s2 ≤ 2097152
          case neg =>
            go_wp2
            go_ret
            exact ⟨s2, hs2, rfl, rfl⟩
          go_wp2
          go_round
          case rel => first | exact ⟨j + 1, s2 + x * 4 + y * 8, by omega, by go_num, by go_num, by omega⟩ | exact hrel
          case measure => simp [intOf]; omega
        · obtain rfl : v = j := by omega
          go_wp2
          go_round
          case rel => first | exact ⟨k + 1, s2, by omega, by go_num, rfl, hs2⟩ | exact hrel
          case measure => simp [intOf]; omega
    · obtain rfl : n = k := by omega
      go_wp2
      go_ret
      exact ⟨s, hs, rfl, rfl⟩
end Go.Proofs.Ytpidbikdncgogaa.MrA
