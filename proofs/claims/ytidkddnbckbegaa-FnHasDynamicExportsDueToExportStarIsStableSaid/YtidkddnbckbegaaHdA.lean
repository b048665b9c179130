/- FnHasDynamicExportsDueToExportStarIsStable: sizes, small functions. -/
import Derived.Test.YtidkddnbckbegaaRows
import Derived.Test.YtidkddnbckbegaaMem
import Derived.Test.YtidkddnbckbegaaSl
import Derived.Test.YtidkddnbckbegaaFvs
import Derived.Test.YtidkddnbckbegaaHdP
import Derived.Test.YtidkddnbckbegaaArgp
import Derived.WalkKit
import Derived.ProofKit
import Derived.OpenShut
import Derived.Below
import Derived.WalkLawsBesides
import Derived.Lib.Hide
import Derived.Outline
import Derived.RegionTactic
import Derived.Deep.QuietTactic
import Derived.BigQuiet
import Derived.WalkSpells
import Derived.Deep.OwnRows
import Derived.IntWalk
import Derived.Deep.DeepMust
namespace Go.Proofs.Ytidkddnbckbegaa.HdA
open Go.RowKit Mem Sl
set_option linter.unusedVariables false
open Args Fvs Argp HdP

theorem u32_not (a : Nat) (ha : a < 4294967296) : bits .xor .u32 4294967295 (a : Int) = 4294967295 - (a : Int) := by
  show IntKind.u32.wrap ((BitVec.ofInt 32 4294967295 ^^^ BitVec.ofInt 32 (a : Int)).toNat : Int) = _
  have h1 : BitVec.ofInt 32 4294967295 = BitVec.allOnes 32 := by decide
  have h2 : (BitVec.ofInt 32 (a : Int)).toNat = a := by simp; omega
  rw [h1, BitVec.allOnes_xor, BitVec.toNat_not, h2]
  simp [IntKind.wrap, IntKind.bits, IntKind.signed]
  omega
def Some (n : Nat) (L : Nat → Nat) (w : World) (e : Ending) (w' : World) : Prop := ∃ b, e = .returned (.bool b) ∧ (b = true → n ≤ 1048576 ∧ ∀ i, i < n → L i ≤ 1048576) ∧ w = w'
set_option maxRecDepth 100000 in
set_option maxHeartbeats 2000000 in
theorem bytes4 (A : Option Addr) (n c : Nat) (K : Nat → Int) (Ar : Nat → Option Addr) (L C : Nat → Nat) (Z : Nat → List Int) (a1 : Int) (w : World) (h : IsPairs .u8 .i32 w A n c K Ar L C Z) :
    Calls Try.prog 4 #[.slice A n c, .int .u32 a1] w (Some n L w) := by
  have hn : n ≤ 9223372036854775807 := Nat.le_trans h.le h.cm
  have H := Lib.hid h
  clear h
  by_cases q1 : n ≤ 1048576
  case neg =>
    go_enter Try.func4, Try.ntmps4
    go_wp2_with fail
    go_ret
    exact ⟨_, rfl, (fun h => by cases h), rfl⟩
  go_enter Try.func4, Try.ntmps4
  go_wp2
  go_loop [5, 6] (fun t i => ∃ k s : Nat, k ≤ n ∧ i = .int .i64 k ∧ t = .int .i64 s ∧ s ≤ 1048576 ∧ ∀ i, i < k → L i ≤ 1048576) (fun _ i => n - (intOf i).toNat)
  case atStart => exact ⟨0, n, Nat.zero_le _, rfl, by go_num, q1, fun i hi => absurd hi (Nat.not_lt_zero i)⟩
  case round =>
    obtain ⟨k, s, hk, rfl, rfl, hs, hall⟩ := hrel
    have HS := Lib.hid hall
    clear hall
    by_cases hlt : k < n
    · obtain ⟨b, off, ha, hb, _, hcell⟩ := H.out.cell k hlt
      have hus : L k ≤ 9223372036854775807 := Nat.le_trans (H.out.row k hlt).1 (H.out.row k hlt).2.1
      subst ha
      have hc : w.cell? ⟨b, off + k * 2 + 1, none⟩ = some (.slice (Ar k) (L k) (C k)) := hcell
      obtain ⟨u, hu⟩ : ∃ u, u = L k := ⟨_, rfl⟩
      rw [← hu] at hc hus
      have HU := Lib.hid hu
      clear hb hu hcell
      by_cases p0 : u ≤ 1048576
      case neg =>
        go_wp2
        go_ret
        exact ⟨_, rfl, (fun h => by cases h), rfl⟩
      by_cases p1 : s + u ≤ 1048576
      case neg =>
        go_wp2
        go_ret
        exact ⟨_, rfl, (fun h => by cases h), rfl⟩
      have HS2 := Lib.hid (show ∀ i, i < k + 1 → L i ≤ 1048576 by
        intro i hi
        by_cases e : i = k
        · subst e; rw [← HU.out]; exact p0
        · exact HS.out i (by omega))
      go_wp2
      go_round
      case rel => exact ⟨k + 1, s + u, by omega, by go_num, by go_num, p1, HS2.out⟩
      case measure => simp [intOf]; omega
    · obtain rfl : n = k := by omega
      go_wp2
      go_ret
      exact ⟨_, rfl, fun _ => ⟨q1, HS.out⟩, rfl⟩
/-- The files fit. -/
def Fit (n : Nat) (L : Nat → Nat) (Z : Nat → List Int) (w : World) (e : Ending) (w' : World) : Prop := ∃ b, e = .returned (.bool b) ∧ (b = true → n ≤ 4096 ∧ ∀ i, i < n → ∀ j, j < L i → (Z i).getD j 0 < (n : Int)) ∧ w = w'
set_option maxRecDepth 100000 in
set_option maxHeartbeats 4000000 in
theorem fit5 (A : Option Addr) (n c : Nat) (K : Nat → Int) (Ar : Nat → Option Addr) (L C : Nat → Nat) (Z : Nat → List Int) (w : World) (h : IsPairs .u8 .i32 w A n c K Ar L C Z) (hL : ∀ i, i < n → L i ≤ 1048576) (h9 : n ≤ 1048576) :
    Calls Try.prog 5 #[.slice A n c] w (Fit n L Z w) := by
  have H := Lib.hid h
  have HL := Lib.hid hL
  clear h hL
  by_cases q1 : n ≤ 4096
  case neg =>
    have t1 : decide ((4096 : Int) < (n : Int)) = true := by simp; omega
    go_enter Try.func5, Try.ntmps5
    go_wp2_with fail
    go_ret
    exact ⟨_, rfl, (fun h => by cases h), rfl⟩
  have t1 : decide ((4096 : Int) < (n : Int)) = false := by simp; omega
  have wn : IntKind.i32.wrap (n : Int) = (n : Int) := IntWalk.i32_in _ (by omega)
  go_enter Try.func5, Try.ntmps5
  go_wp2
  go_loop [3, 4] (fun t i => ∃ k s : Nat, k ≤ n ∧ i = .int .i64 k ∧ t = .int .i64 s ∧ s ≤ 1048576) (fun _ i => n - (intOf i).toNat)
  case atStart => exact ⟨0, n * 32, Nat.zero_le _, rfl, by go_num, by omega⟩
  case round =>
    obtain ⟨k, s, hk, rfl, rfl, hs⟩ := hrel
    by_cases hlt : k < n
    · obtain ⟨b, off, ha, hb, _, hcell⟩ := H.out.cell k hlt
      have hus : L k ≤ 1048576 := HL.out k hlt
      subst ha
      have hc : w.cell? ⟨b, off + k * 2 + 1, none⟩ = some (.slice (Ar k) (L k) (C k)) := hcell
      obtain ⟨u, hu⟩ : ∃ u, u = L k := ⟨_, rfl⟩
      rw [← hu] at hc hus
      clear hb hu hcell
      by_cases p1 : s + u * 4 ≤ 1048576
      case neg =>
        go_wp2
        go_ret
        exact ⟨_, rfl, (fun h => by cases h), rfl⟩
      go_wp2
      go_round
      case rel => exact ⟨k + 1, s + u * 4, by omega, by go_num, by go_num, p1⟩
      case measure => simp [intOf]; omega
    · obtain rfl : n = k := by omega
      go_wp2
      go_loop [5, 6] (fun i _ => ∃ k : Nat, k ≤ n ∧ i = .int .i64 k ∧ ∀ i, i < k → ∀ j, j < L i → (Z i).getD j 0 < (n : Int)) (fun i _ => n - (intOf i).toNat)
      case atStart => exact ⟨0, Nat.zero_le _, rfl, fun i hi => absurd hi (Nat.not_lt_zero i)⟩
      case round =>
        obtain ⟨k, hk, rfl, hall⟩ := hrel
        have HS := Lib.hid hall
        clear hall
        by_cases hlt : k < n
        · obtain ⟨b, off, ha, hb, _, hcell⟩ := H.out.cell k hlt
          have hus : L k ≤ 1048576 := HL.out k hlt
          have hrow := H.out.row k hlt
          have HR := Lib.hid hrow
          subst ha
          have hc : w.cell? ⟨b, off + k * 2 + 1, none⟩ = some (.slice (Ar k) (L k) (C k)) := hcell
          obtain ⟨u, hu⟩ : ∃ u, u = L k := ⟨_, rfl⟩
          rw [← hu] at hc hus HR
          have HU := Lib.hid hu
          clear hb hu hcell hrow
          go_wp2
          go_loop [6] (fun i => ∃ j : Nat, j ≤ u ∧ i = .int .i64 j ∧ ∀ i, i < j → (Z k).getD i 0 < (n : Int)) (fun i => u - (intOf i).toNat)
          case atStart => exact ⟨0, Nat.zero_le _, rfl, fun i hi => absurd hi (Nat.not_lt_zero i)⟩
          case round =>
            obtain ⟨j, hj, rfl, hall⟩ := hrel
            have HJ := Lib.hid hall
            clear hall
            by_cases hlj : j < u
            · obtain ⟨b2, o2, ha2, hb2, hc2⟩ := HR.out.read j hlj
              rw [ha2] at hc
              obtain ⟨z, hz⟩ : ∃ z, z = (Z k).getD j 0 := ⟨_, rfl⟩
              rw [← hz] at hc2
              have HZ := Lib.hid hz
              have HA2 := Lib.hid ha2
              clear hz ha2 hb2
              by_cases p : z < (n : Int)
              · have t0 : decide ((n : Int) ≤ z) = false := by simp; omega
                have HJ2 := Lib.hid (show ∀ i, i < j + 1 → (Z k).getD i 0 < (n : Int) by
                  intro i hi
                  by_cases e : i = j
                  · subst e; rw [← HZ.out]; exact p
                  · exact HJ.out i (by omega))
                go_wp2
                go_round
                case rel => first | exact ⟨j + 1, by omega, by go_num, HJ2.out⟩ | exact hrel
                case measure => simp [intOf]; omega
              · have t0 : decide ((n : Int) ≤ z) = true := by simp; omega
                go_wp2
                go_ret
                exact ⟨_, rfl, (fun h => by cases h), rfl⟩
            · obtain rfl : u = j := by omega
              have HS2 := Lib.hid (show ∀ i, i < k + 1 → ∀ j, j < L i → (Z i).getD j 0 < (n : Int) by
                intro i hi jj hjj
                by_cases e : i = k
                · subst e; rw [← HU.out] at hjj; exact HJ.out jj hjj
                · exact HS.out i (by omega) jj hjj)
              go_wp2
              go_round
              case rel => exact ⟨k + 1, by omega, by go_num, HS2.out⟩
              case measure => simp [intOf]; omega
        · obtain rfl : n = k := by omega
          go_wp2
          go_ret
          exact ⟨_, rfl, fun _ => ⟨q1, HS.out⟩, rfl⟩
/-- A star's index, as it lies. -/
def flip (t : Int) : Int := if t < 0 then 0 else 4294967295 - t
theorem mk9 (t : Nat) (ht : t < 4294967296) (w : World) : Calls Try.prog 9 #[.int .u32 (t : Int)] w fun e w' => e = .returned (.agg #[.int .u32 (4294967295 - (t : Int))]) ∧ Below w.heap.size w w' := by
  have HB := Lib.hid (Below.refl w.heap.size w)
  have hx : bits BinOp.xor IntKind.u32 IntKind.u32.max (t : Int) = 4294967295 - (t : Int) := u32_not t ht
  go_enter Try.func9, Try.ntmps9
  go_wp2
  refine bodyPost_ret (v := .agg #[.int .u32 (4294967295 - (t : Int))]) (by simp [results, Try.results9, go_sem]) rfl ⟨rfl, ?_⟩
  exact HB.out.alloc (Nat.le_refl _) _
theorem valid12 (x : Int) (b : Bool) (hx : (x != 0) = b) (w : World) : Calls Try.prog 12 #[.agg #[.int .u32 x]] w fun e w' => e = .returned (.bool b) ∧ Below w.heap.size w w' := by
  have HB := Lib.hid (Below.refl w.heap.size w)
  go_enter Try.func12, Try.ntmps12
  go_wp2
  go_ret
  exact ⟨rfl, HB.out.alloc (Nat.le_refl _) _⟩
theorem get15 (t : Nat) (ht : t < 4294967296) (w : World) : Calls Try.prog 15 #[.agg #[.int .u32 (4294967295 - (t : Int))]] w fun e w' => e = .returned (.int .u32 (t : Int)) ∧ Below w.heap.size w w' := by
  have HB := Lib.hid (Below.refl w.heap.size w)
  have hx : bits BinOp.xor IntKind.u32 IntKind.u32.max (4294967295 - (t : Int)) = (t : Int) := by
    have := u32_not (4294967295 - t) (by omega)
    rw [show ((4294967295 - t : Nat) : Int) = 4294967295 - (t : Int) by omega] at this
    rw [show IntKind.u32.max = 4294967295 by decide, this]
    omega
  go_enter Try.func15, Try.ntmps15
  go_wp2
  go_ret
  exact ⟨rfl, HB.out.alloc (Nat.le_refl _) _⟩
theorem entry13 (b o : Nat) (w : World) (h : w.cell? ⟨b, o + 22, none⟩ = some (.int .u8 0)) : Calls Try.prog 13 #[.pointer (some ⟨b, o, none⟩)] w fun e w' => e = .returned (.bool false) ∧ w = w' := by
  go_enter Try.func13, Try.ntmps13
  go_wp2
  go_ret
  exact ⟨rfl, rfl⟩
end Go.Proofs.Ytidkddnbckbegaa.HdA
