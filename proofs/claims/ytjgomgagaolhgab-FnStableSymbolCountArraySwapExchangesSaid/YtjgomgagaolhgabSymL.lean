/- FnStableSymbolCountArraySwapExchanges: the law. -/
import Derived.Test.YtjgomgagaolhgabRows
import Derived.Test.YtjgomgagaolhgabMem
import Derived.Test.YtjgomgagaolhgabSl
import Derived.Test.YtjgomgagaolhgabArr
import Derived.Test.YtjgomgagaolhgabArrB
import Derived.Test.YtjgomgagaolhgabClo
import Derived.WalkKit
import Derived.ProofKit
import Derived.OpenShut
import Derived.Below
import Derived.WalkLawsBesides
import Derived.Lib.Hide
import Derived.Outline
import Derived.RegionTactic
import Derived.Deep.QuietTactic
import Derived.BigQuiet
import Derived.WalkSpells
import Derived.Deep.OwnRows
import Derived.IntWalk
import Derived.Deep.DeepMust
namespace Go.Proofs.Ytjgomgagaolhgab.SymL
open Go.RowKit Mem Sl
set_option linter.unusedVariables false
open Arr ArrB Clo

theorem zz20 (A0 A1 A2 A3 : Option Addr) (n0 c0 n1 c1 n2 c2 n3 c3 : Nat) (i j : Int) (w : World) (h0 : n0 ≤ maxLen) (h1 : n1 ≤ maxLen) (h2 : n2 ≤ maxLen) (h3 : n3 ≤ maxLen) :
    Calls Try.prog 20 #[.slice A0 n0 c0, .slice A1 n1 c1, .slice A2 n2 c2, .slice A3 n3 c3, .int .i64 i, .int .i64 j] w fun e w' => (∃ b, e = .returned (.bool b)) ∧ w = w' := by
  unfold maxLen at h0 h1 h2 h3
  go_enter Try.func20, Try.ntmps20
  go_wp2
  all_goals go_ret
  all_goals exact ⟨⟨_, rfl⟩, rfl⟩

def Fit (n0 n1 n2 n3 : Nat) (i j : Int) (w : World) (e : Ending) (w' : World) : Prop := w = w' ∧ ∃ b, e = .returned (.bool b) ∧ (b = true → n0 ≤ 65536 ∧ n1 = n0 ∧ n2 = n0 ∧ n3 = n0 ∧ 0 ≤ i ∧ i < n0 ∧ 0 ≤ j ∧ j < n0)
theorem fit21 (A0 A1 A2 A3 : Option Addr) (n0 c0 n1 c1 n2 c2 n3 c3 : Nat) (i j : Int) (w : World) (m0 : n0 ≤ maxLen) (m1 : n1 ≤ maxLen) (m2 : n2 ≤ maxLen) (m3 : n3 ≤ maxLen) :
    Calls Try.prog 21 #[.slice A0 n0 c0, .slice A1 n1 c1, .slice A2 n2 c2, .slice A3 n3 c3, .int .i64 i, .int .i64 j] w (Fit n0 n1 n2 n3 i j w) := by
  unfold maxLen at m0 m1 m2 m3
  by_cases h1 : 65536 < n0
  · have g1_0 : decide (65536 < (n0 : Int)) = true := by simp; omega
    have g1_1 : decide (65536 < n0) = true := by simp; omega
    go_enter Try.func21, Try.ntmps21
    go_wp2
    go_ret
    exact ⟨rfl, _, rfl, by simp⟩
  have g1_0 : decide (65536 < (n0 : Int)) = false := by simp; omega
  have g1_1 : decide (65536 < n0) = false := by simp; omega
  by_cases h2 : 65536 < n1
  · have g2_0 : decide (65536 < (n1 : Int)) = true := by simp; omega
    have g2_1 : decide (65536 < n1) = true := by simp; omega
    go_enter Try.func21, Try.ntmps21
    go_wp2
    go_ret
    exact ⟨rfl, _, rfl, by simp⟩
  have g2_0 : decide (65536 < (n1 : Int)) = false := by simp; omega
  have g2_1 : decide (65536 < n1) = false := by simp; omega
  by_cases h3 : 65536 < n2
  · have g3_0 : decide (65536 < (n2 : Int)) = true := by simp; omega
    have g3_1 : decide (65536 < n2) = true := by simp; omega
    go_enter Try.func21, Try.ntmps21
    go_wp2
    go_ret
    exact ⟨rfl, _, rfl, by simp⟩
  have g3_0 : decide (65536 < (n2 : Int)) = false := by simp; omega
  have g3_1 : decide (65536 < n2) = false := by simp; omega
  by_cases h4 : 65536 < n3
  · have g4_0 : decide (65536 < (n3 : Int)) = true := by simp; omega
    have g4_1 : decide (65536 < n3) = true := by simp; omega
    go_enter Try.func21, Try.ntmps21
    go_wp2
    go_ret
    exact ⟨rfl, _, rfl, by simp⟩
  have g4_0 : decide (65536 < (n3 : Int)) = false := by simp; omega
  have g4_1 : decide (65536 < n3) = false := by simp; omega
  by_cases h5 : 1048576 < 8 * (n0 + n1 + n2 + n3)
  · have g5_0 : decide (1048576 < 8 * ((n0 : Int) + n1 + n2 + n3)) = true := by simp; omega
    go_enter Try.func21, Try.ntmps21
    go_wp2
    go_ret
    exact ⟨rfl, _, rfl, by simp⟩
  have g5_0 : decide (1048576 < 8 * ((n0 : Int) + n1 + n2 + n3)) = false := by simp; omega
  by_cases h6 : n1 ≠ n0
  · have g6_0 : ((n1 : Int) != n0) = true := by simp; omega
    have g6_1 : (n1 != n0) = true := by simp; omega
    go_enter Try.func21, Try.ntmps21
    go_wp2
    go_ret
    exact ⟨rfl, _, rfl, by simp⟩
  have h6 : n1 = n0 := by omega
  have g6_0 : ((n1 : Int) != n0) = false := by simp; omega
  have g6_1 : (n1 != n0) = false := by simp; omega
  by_cases h7 : n2 ≠ n0
  · have g7_0 : ((n2 : Int) != n0) = true := by simp; omega
    have g7_1 : (n2 != n0) = true := by simp; omega
    go_enter Try.func21, Try.ntmps21
    go_wp2
    go_ret
    exact ⟨rfl, _, rfl, by simp⟩
  have h7 : n2 = n0 := by omega
  have g7_0 : ((n2 : Int) != n0) = false := by simp; omega
  have g7_1 : (n2 != n0) = false := by simp; omega
  by_cases h8 : n3 ≠ n0
  · have g8_0 : ((n3 : Int) != n0) = true := by simp; omega
    have g8_1 : (n3 != n0) = true := by simp; omega
    go_enter Try.func21, Try.ntmps21
    go_wp2
    go_ret
    exact ⟨rfl, _, rfl, by simp⟩
  have h8 : n3 = n0 := by omega
  have g8_0 : ((n3 : Int) != n0) = false := by simp; omega
  have g8_1 : (n3 != n0) = false := by simp; omega
  by_cases h9 : i < 0
  · have g9_0 : decide (0 ≤ i) = false := by simp; omega
    go_enter Try.func21, Try.ntmps21
    go_wp2
    go_ret
    exact ⟨rfl, _, rfl, by simp⟩
  have g9_0 : decide (0 ≤ i) = true := by simp; omega
  by_cases h10 : (n0 : Int) ≤ i
  · have g10_0 : decide (i < (n0 : Int)) = false := by simp; omega
    go_enter Try.func21, Try.ntmps21
    go_wp2
    go_ret
    exact ⟨rfl, _, rfl, by simp⟩
  have g10_0 : decide (i < (n0 : Int)) = true := by simp; omega
  by_cases h11 : j < 0
  · have g11_0 : decide (0 ≤ j) = false := by simp; omega
    go_enter Try.func21, Try.ntmps21
    go_wp2
    go_ret
    exact ⟨rfl, _, rfl, by simp⟩
  have g11_0 : decide (0 ≤ j) = true := by simp; omega
  by_cases h12 : (n0 : Int) ≤ j
  · have g12_0 : decide (j < (n0 : Int)) = false := by simp; omega
    go_enter Try.func21, Try.ntmps21
    go_wp2
    go_ret
    exact ⟨rfl, _, rfl, by simp⟩
  have g12_0 : decide (j < (n0 : Int)) = true := by simp; omega
  go_enter Try.func21, Try.ntmps21
  go_wp2
  go_ret
  exact ⟨rfl, _, rfl, fun _ => by omega⟩
theorem len25 (A : Option Addr) (n c : Nat) (w : World) : Calls Try.prog 25 #[.slice A n c] w fun e w' => e = .returned (.int .i64 n) ∧ w = w' := by
  go_enter Try.func25, Try.ntmps25
  go_wp2
  go_ret
  exact ⟨rfl, rfl⟩

set_option maxHeartbeats 1000000 in
theorem law (A0 : Option Addr) (n0 c0 : Nat) (z0 : List Int) (A1 : Option Addr) (n1 c1 : Nat) (z1 : List Int) (A2 : Option Addr) (n2 c2 : Nat) (z2 : List Int) (A3 : Option Addr) (n3 c3 : Nat) (z3 : List Int) (a4 : Int) (a5 : Int) (w : World) (w0 : Args.IsInts .u32 w A0 n0 c0 z0) (w1 : Args.IsInts .u32 w A1 n1 c1 z1) (w2 : Args.IsInts .u32 w A2 n2 c2 z2) (w3 : Args.IsInts .u32 w A3 n3 c3 z3) (w4 : (Lit.int .i64 a4).wf = true) (w5 : (Lit.int .i64 a5).wf = true) :
    Calls Try.prog 5 #[.slice A0 n0 c0, .slice A1 n1 c1, .slice A2 n2 c2, .slice A3 n3 c3, .int .i64 a4, .int .i64 a5] w fun e w' => e = .returned (.bool true) ∧ Below w.heap.size w w' := by
  have m0 := Nat.le_trans w0.1 w0.2.1
  have m1 := Nat.le_trans w1.1 w1.2.1
  have m2 := Nat.le_trans w2.1 w2.2.1
  have m3 := Nat.le_trans w3.1 w3.2.1
  have M := Lib.hid (And.intro m0 (And.intro m1 (And.intro m2 m3)))
  have H0 := Lib.hid w0
  have H1 := Lib.hid w1
  have H2 := Lib.hid w2
  have H3 := Lib.hid w3
  clear w0 w1 w2 w3 w4 w5 m0 m1 m2 m3
  go_enter Try.func5, Try.ntmps5
  go_wp2_with fail
  refine (zz20 A0 A1 A2 A3 n0 c0 n1 c1 n2 c2 n3 c3 a4 a5 w M.out.1 M.out.2.1 M.out.2.2.1 M.out.2.2.2).mono ?_
  rintro e w' ⟨⟨b, rfl⟩, rfl⟩
  cases b
  · go_wp2_with fail
    go_ret
    exact ⟨rfl, Below.refl _ _⟩
  go_wp2_with fail
  refine (fit21 A0 A1 A2 A3 n0 c0 n1 c1 n2 c2 n3 c3 a4 a5 w M.out.1 M.out.2.1 M.out.2.2.1 M.out.2.2.2).mono ?_
  rintro e w' ⟨rfl, b, rfl, hb⟩
  cases b
  · clear hb
    go_wp2_with fail
    go_ret
    exact ⟨rfl, Below.refl _ _⟩
  obtain ⟨hn, rfl, rfl, rfl, hi0, hi1, hj0, hj1⟩ := hb rfl
  clear hb
  obtain ⟨i, rfl⟩ := Int.eq_ofNat_of_zero_le hi0
  obtain ⟨j, rfl⟩ := Int.eq_ofNat_of_zero_le hj0
  have hi : i < n3 := by omega
  have hj : j < n3 := by omega
  clear hi0 hi1 hj0 hj1 M
  go_wp2_with fail
  refine (clo22 A0 n3 c0 z0 w H0.out (by omega)).mono ?_
  rintro e u0 ⟨B0, rfl, hc, hb⟩
  have K0 := Lib.hid hc
  replace H1 := Lib.hid (H1.out.later hb)
  replace H2 := Lib.hid (H2.out.later hb)
  replace H3 := Lib.hid (H3.out.later hb)
  have HB := Lib.hid hb
  clear hb hc H0
  go_wp2_with fail
  refine (clo22 A1 n3 c1 z1 u0 H1.out (by omega)).mono ?_
  rintro e u1 ⟨B1, rfl, hc, hb⟩
  have K1 := Lib.hid hc
  replace K0 := Lib.hid (K0.out.later hb)
  replace H2 := Lib.hid (H2.out.later hb)
  replace H3 := Lib.hid (H3.out.later hb)
  replace HB := Lib.hid (HB.out.trans (hb.mono HB.out.size))
  clear hb hc H1
  go_wp2_with fail
  refine (clo22 A2 n3 c2 z2 u1 H2.out (by omega)).mono ?_
  rintro e u2 ⟨B2, rfl, hc, hb⟩
  have K2 := Lib.hid hc
  replace K0 := Lib.hid (K0.out.later hb)
  replace K1 := Lib.hid (K1.out.later hb)
  replace H3 := Lib.hid (H3.out.later hb)
  replace HB := Lib.hid (HB.out.trans (hb.mono HB.out.size))
  clear hb hc H2
  go_wp2_with fail
  refine (clo22 A3 n3 c3 z3 u2 H3.out (by omega)).mono ?_
  rintro e u3 ⟨B3, rfl, hc, hb⟩
  have K3 := Lib.hid hc
  replace K0 := Lib.hid (K0.out.later hb)
  replace K1 := Lib.hid (K1.out.later hb)
  replace K2 := Lib.hid (K2.out.later hb)
  replace HB := Lib.hid (HB.out.trans (hb.mono HB.out.size))
  clear hb hc H3
  have HW := Lib.hid HB.out.size
  go_wp2_with fail
  refine (arr23 B0 B1 B2 B3 n3 n3 n3 n3 n3 z0 z1 z2 z3 u3 K0.out K1.out K2.out K3.out hn).mono ?_
  rintro e v0 ⟨rfl, ha, hb⟩
  have L0 := Lib.hid ha
  replace K0 := Lib.hid (K0.out.later hb)
  replace K1 := Lib.hid (K1.out.later hb)
  replace K2 := Lib.hid (K2.out.later hb)
  replace K3 := Lib.hid (K3.out.later hb)
  replace HB := Lib.hid (HB.out.trans (hb.mono HB.out.size))
  have S0 := Lib.hid (And.intro ha.lt hb.size)
  clear hb ha
  generalize hg0 : u3.heap.size = g0 at *
  go_wp2_with fail
  refine (arr23 B0 B1 B2 B3 n3 n3 n3 n3 n3 z0 z1 z2 z3 v0 K0.out K1.out K2.out K3.out hn).mono ?_
  rintro e v1 ⟨rfl, ha, hb⟩
  have L1 := Lib.hid ha
  replace L0 := Lib.hid (L0.out.below hb L0.out.lt)
  replace K0 := Lib.hid (K0.out.later hb)
  replace K1 := Lib.hid (K1.out.later hb)
  replace K2 := Lib.hid (K2.out.later hb)
  replace K3 := Lib.hid (K3.out.later hb)
  replace HB := Lib.hid (HB.out.trans (hb.mono HB.out.size))
  have S1 := Lib.hid (And.intro ha.lt hb.size)
  clear hb ha
  generalize hg1 : v0.heap.size = g1 at *
  go_wp2_with fail
  refine (arr23 B0 B1 B2 B3 n3 n3 n3 n3 n3 z0 z1 z2 z3 v1 K0.out K1.out K2.out K3.out hn).mono ?_
  rintro e v2 ⟨rfl, ha, hb⟩
  have L2 := Lib.hid ha
  replace L0 := Lib.hid (L0.out.below hb L0.out.lt)
  replace L1 := Lib.hid (L1.out.below hb L1.out.lt)
  replace K0 := Lib.hid (K0.out.later hb)
  replace K1 := Lib.hid (K1.out.later hb)
  replace K2 := Lib.hid (K2.out.later hb)
  replace K3 := Lib.hid (K3.out.later hb)
  replace HB := Lib.hid (HB.out.trans (hb.mono HB.out.size))
  have S2 := Lib.hid (And.intro ha.lt hb.size)
  clear hb ha
  generalize hg2 : v1.heap.size = g2 at *
  have d01 : g0 < g1 := S0.out.1
  have d12 : g1 < g2 := S1.out.1
  have dw : w.heap.size ≤ g0 := HW.out
  clear S0 S1 HW K0 K1 K2 K3
  generalize mk [z3, z0, z1, z2] = F at *
  go_wp2_with fail
  refine (swap24 g1 n3 n3 i j F v2 L1.out hi hj (by omega)).mono ?_
  rintro e x1 ⟨rfl, ha, hg, hs⟩
  replace L1 := Lib.hid ha
  replace L0 := Lib.hid (L0.out.grown hg (by intro e; injection e with e; omega))
  replace L2 := Lib.hid (L2.out.grown hg (by intro e; injection e with e; omega))
  replace HB := Lib.hid (HB.out.trans (grown_below hg (by omega) HB.out.size))
  clear ha hg hs
  go_wp2_with fail
  refine (swap24 g2 n3 n3 j i F x1 L2.out hj hi (by omega)).mono ?_
  rintro e x2 ⟨rfl, ha, hg, hs⟩
  replace L2 := Lib.hid ha
  replace L0 := Lib.hid (L0.out.grown hg (by intro e; injection e with e; omega))
  replace L1 := Lib.hid (L1.out.grown hg (by intro e; injection e with e; omega))
  replace HB := Lib.hid (HB.out.trans (grown_below hg (by omega) HB.out.size))
  clear ha hg hs
  have hne : ((n3 : Int) != (n3 : Int)) = false := by simp
  go_wp2_with (go_at_call 25; refine (len25 _ _ _ _).mono ?_; rintro e w' ⟨rfl, rfl⟩)
  go_loopw [17] (fun i wr => ∃ k q : Nat, k ≤ n3 ∧ i = .int .i64 k ∧ wr = x2.drewN q) (fun i _ => n3 - (intOf i).toNat)
  case atStart => exact ⟨0, 0, Nat.zero_le _, rfl, rfl⟩
  case round =>
    obtain ⟨k, q, hk, rfl, rfl⟩ := hrel
    by_cases hlt : k < n3
    · have hp : ∃ p : Nat, p < n3 ∧ ((k = i ∧ p = j) ∨ (k ≠ i ∧ k = j ∧ p = i) ∨ (k ≠ i ∧ k ≠ j ∧ p = k)) := by
        by_cases e1 : k = i
        · exact ⟨j, hj, .inl ⟨e1, rfl⟩⟩
        · by_cases e2 : k = j
          · exact ⟨i, hi, .inr (.inl ⟨e1, e2, rfl⟩)⟩
          · exact ⟨k, hlt, .inr (.inr ⟨e1, e2, rfl⟩)⟩
      obtain ⟨p, hpn, hp⟩ := hp
      have hsw : ∀ l, swp F i j k l = F p l := by
        intro l
        rcases hp with ⟨rfl, rfl⟩ | ⟨h1, rfl, rfl⟩ | ⟨h1, h2, rfl⟩
        · by_cases e : k = p
          · subst e; simp [swp]
          · simp [swp, e]
        · simp [swp]
        · simp [swp, h1, h2]
      have hsw' : ∀ l, swp F j i k l = F p l := by
        intro l
        rcases hp with ⟨rfl, rfl⟩ | ⟨h1, rfl, rfl⟩ | ⟨h1, h2, rfl⟩
        · simp [swp]
        · simp [swp, h1]
        · simp [swp, h1, h2]
      have o0 : x2.cell? ⟨g0, p * 4, none⟩ = some (.int .u32 (F p 0)) := by have h := L0.out.cell p 0 hpn (by omega); simpa [u32s] using h
      have o1 : x2.cell? ⟨g0, p * 4 + 1, none⟩ = some (.int .u32 (F p 1)) := by have h := L0.out.cell p 1 hpn (by omega); simpa [u32s] using h
      have o2 : x2.cell? ⟨g0, p * 4 + 2, none⟩ = some (.int .u32 (F p 2)) := by have h := L0.out.cell p 2 hpn (by omega); simpa [u32s] using h
      have o3 : x2.cell? ⟨g0, p * 4 + 3, none⟩ = some (.int .u32 (F p 3)) := by have h := L0.out.cell p 3 hpn (by omega); simpa [u32s] using h
      have a0 : x2.cell? ⟨g1, k * 4, none⟩ = some (.int .u32 (F p 0)) := by have h := L1.out.cell k 0 hlt (by omega); simpa [u32s, hsw] using h
      have a1 : x2.cell? ⟨g1, k * 4 + 1, none⟩ = some (.int .u32 (F p 1)) := by have h := L1.out.cell k 1 hlt (by omega); simpa [u32s, hsw] using h
      have a2 : x2.cell? ⟨g1, k * 4 + 2, none⟩ = some (.int .u32 (F p 2)) := by have h := L1.out.cell k 2 hlt (by omega); simpa [u32s, hsw] using h
      have a3 : x2.cell? ⟨g1, k * 4 + 3, none⟩ = some (.int .u32 (F p 3)) := by have h := L1.out.cell k 3 hlt (by omega); simpa [u32s, hsw] using h
      have b0 : x2.cell? ⟨g2, k * 4, none⟩ = some (.int .u32 (F p 0)) := by have h := L2.out.cell k 0 hlt (by omega); simpa [u32s, hsw'] using h
      have b1 : x2.cell? ⟨g2, k * 4 + 1, none⟩ = some (.int .u32 (F p 1)) := by have h := L2.out.cell k 1 hlt (by omega); simpa [u32s, hsw'] using h
      have b2 : x2.cell? ⟨g2, k * 4 + 2, none⟩ = some (.int .u32 (F p 2)) := by have h := L2.out.cell k 2 hlt (by omega); simpa [u32s, hsw'] using h
      have b3 : x2.cell? ⟨g2, k * 4 + 3, none⟩ = some (.int .u32 (F p 3)) := by have h := L2.out.cell k 3 hlt (by omega); simpa [u32s, hsw'] using h
      clear hsw hsw'
      obtain ⟨y0, hy0⟩ : ∃ y, F p 0 = y := ⟨_, rfl⟩
      obtain ⟨y1, hy1⟩ : ∃ y, F p 1 = y := ⟨_, rfl⟩
      obtain ⟨y2, hy2⟩ : ∃ y, F p 2 = y := ⟨_, rfl⟩
      obtain ⟨y3, hy3⟩ : ∃ y, F p 3 = y := ⟨_, rfl⟩
      rw [hy0] at o0 a0 b0
      rw [hy1] at o1 a1 b1
      rw [hy2] at o2 a2 b2
      rw [hy3] at o3 a3 b3
      clear hy0 hy1 hy2 hy3
      rcases hp with ⟨rfl, rfl⟩ | ⟨h1, rfl, rfl⟩ | ⟨h1, h2, rfl⟩
      · have t1 : ((k : Int) == (k : Int)) = true := by simp
        go_wp2_with fail
        go_quiet (fail)
        go_wp2
        go_roundw
        case rel => exact ⟨k + 1, q + nq, by omega, by go_num, by simp⟩
        case measure => simp [intOf]; omega
      · have t1 : ((k : Int) == (p : Int)) = false := beq_eq_false_iff_ne.2 (by omega)
        have t2 : ((k : Int) == (k : Int)) = true := by simp
        go_wp2_with fail
        go_quiet (fail)
        go_wp2
        go_roundw
        case rel => exact ⟨k + 1, q + nq, by omega, by go_num, by simp⟩
        case measure => simp [intOf]; omega
      · have t1 : ((p : Int) == (i : Int)) = false := beq_eq_false_iff_ne.2 (by omega)
        have t2 : ((p : Int) == (j : Int)) = false := beq_eq_false_iff_ne.2 (by omega)
        go_wp2_with fail
        go_quiet (fail)
        go_wp2
        go_roundw
        case rel => exact ⟨p + 1, q + nq, by omega, by go_num, by simp⟩
        case measure => simp [intOf]; omega
    · go_wp2
      go_ret
      exact ⟨rfl, below_drewN HB.out q⟩
end Go.Proofs.Ytjgomgagaolhgab.SymL
