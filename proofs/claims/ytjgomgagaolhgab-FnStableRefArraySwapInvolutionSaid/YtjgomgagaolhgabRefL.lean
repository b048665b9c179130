/- FnStableRefArraySwapInvolution: the law. -/
import Derived.Test.YtjgomgagaolhgabRows
import Derived.Test.YtjgomgagaolhgabMem
import Derived.Test.YtjgomgagaolhgabSl
import Derived.Test.YtjgomgagaolhgabArr
import Derived.Test.YtjgomgagaolhgabArrB
import Derived.Test.YtjgomgagaolhgabRefB
import Derived.Test.YtjgomgagaolhgabClo
import Derived.Deep.RegionHeld3
import Derived.WalkKit
import Derived.ProofKit
import Derived.OpenShut
import Derived.Below
import Derived.WalkLawsBesides
import Derived.Lib.Hide
import Derived.Outline
import Derived.RegionTactic
import Derived.Deep.QuietTactic
import Derived.BigQuiet
import Derived.WalkSpells
import Derived.Deep.OwnRows
import Derived.IntWalk
import Derived.Deep.DeepMust
namespace Go.Proofs.Ytjgomgagaolhgab.RefL
open Go.RowKit Mem Sl
set_option linter.unusedVariables false
open Arr ArrB RefB Clo

theorem zz13 (A0 A1 A2 : Option Addr) (n0 c0 n1 c1 n2 c2 : Nat) (i j : Int) (w : World) (h0 : n0 ≤ maxLen) (h1 : n1 ≤ maxLen) (h2 : n2 ≤ maxLen) :
    Calls Try.prog 13 #[.slice A0 n0 c0, .slice A1 n1 c1, .slice A2 n2 c2, .int .i64 i, .int .i64 j] w fun e w' => (∃ b, e = .returned (.bool b)) ∧ w = w' := by
  unfold maxLen at h0 h1 h2
  go_enter Try.func13, Try.ntmps13
  go_wp2
  all_goals go_ret
  all_goals exact ⟨⟨_, rfl⟩, rfl⟩
def Big (n0 n1 n2 : Nat) (w : World) (e : Ending) (w' : World) : Prop := w = w' ∧ ∃ b, e = .returned (.bool b) ∧ (b = false → n0 ≤ 65536 ∧ n1 ≤ 65536 ∧ n2 ≤ 65536)
theorem big14 (A0 A1 A2 : Option Addr) (n0 c0 n1 c1 n2 c2 : Nat) (w : World) (m0 : n0 ≤ maxLen) (m1 : n1 ≤ maxLen) (m2 : n2 ≤ maxLen) :
    Calls Try.prog 14 #[.slice A0 n0 c0, .slice A1 n1 c1, .slice A2 n2 c2] w (Big n0 n1 n2 w) := by
  unfold maxLen at m0 m1 m2
  by_cases h0 : 65536 < n0
  · have g0_0 : decide (65536 < (n0 : Int)) = true := by simp; omega
    have g0_1 : decide (65536 < n0) = true := by simp; omega
    go_enter Try.func14, Try.ntmps14
    go_wp2
    go_ret
    exact ⟨rfl, _, rfl, by simp⟩
  have g0_0 : decide (65536 < (n0 : Int)) = false := by simp; omega
  have g0_1 : decide (65536 < n0) = false := by simp; omega
  by_cases h1 : 65536 < n1
  · have g1_0 : decide (65536 < (n1 : Int)) = true := by simp; omega
    have g1_1 : decide (65536 < n1) = true := by simp; omega
    go_enter Try.func14, Try.ntmps14
    go_wp2
    go_ret
    exact ⟨rfl, _, rfl, by simp⟩
  have g1_0 : decide (65536 < (n1 : Int)) = false := by simp; omega
  have g1_1 : decide (65536 < n1) = false := by simp; omega
  by_cases h2 : 65536 < n2
  · have g2_0 : decide (65536 < (n2 : Int)) = true := by simp; omega
    have g2_1 : decide (65536 < n2) = true := by simp; omega
    go_enter Try.func14, Try.ntmps14
    go_wp2
    go_ret
    exact ⟨rfl, _, rfl, by simp⟩
  have g2_0 : decide (65536 < (n2 : Int)) = false := by simp; omega
  have g2_1 : decide (65536 < n2) = false := by simp; omega
  go_enter Try.func14, Try.ntmps14
  go_wp2
  go_ret
  exact ⟨rfl, _, rfl, fun _ => by omega⟩
theorem min15 (a b c : Nat) (w : World) : Calls Try.prog 15 #[.int .i64 a, .int .i64 b, .int .i64 c] w fun e w' => e = .returned (.int .i64 ((min (min a b) c : Nat) : Int)) ∧ w = w' := by
  by_cases h1 : b < a
  · have e1 : min a b = b := by omega
    rw [e1]
    by_cases h2 : c < b
    · have e2 : min b c = c := by omega
      rw [e2]
      go_enter Try.func15, Try.ntmps15
      go_wp2
      go_ret
      exact ⟨rfl, rfl⟩
    · have e2 : min b c = b := by omega
      rw [e2]
      go_enter Try.func15, Try.ntmps15
      go_wp2
      go_ret
      exact ⟨rfl, rfl⟩
  · have e1 : min a b = a := by omega
    rw [e1]
    by_cases h2 : c < a
    · have e2 : min a c = c := by omega
      rw [e2]
      go_enter Try.func15, Try.ntmps15
      go_wp2
      go_ret
      exact ⟨rfl, rfl⟩
    · have e2 : min a c = a := by omega
      rw [e2]
      go_enter Try.func15, Try.ntmps15
      go_wp2
      go_ret
      exact ⟨rfl, rfl⟩
/-- A slice that lies below what was touched is kept. -/
theorem kept {w w' : World} {A : Option Addr} {n c g B : Nat} {zs : List Int} (h : Args.IsInts .u32 w A n c zs) (hg : w.grownBy w' (some g)) (hB : ∀ b off, A = some ⟨b, off, none⟩ → b < B) (hg' : B ≤ g) : Args.IsInts .u32 w' A n c zs := by
  obtain ⟨h1, h2, h3, h4, h5, h6⟩ := h
  refine ⟨h1, h2, h3, h4, h5, fun hp => ?_⟩
  obtain ⟨b, off, ha, hlt, hc⟩ := h6 hp
  refine ⟨b, off, ha, Nat.lt_of_lt_of_le hlt hg.size, fun i hi => ?_⟩
  have := hg.block b hlt (by have := hB b off ha; intro e; injection e with e; omega)
  rw [← hc i hi]
  simp [World.cell?, this]
set_option maxHeartbeats 2000000 in
theorem law (A0 : Option Addr) (n0 c0 : Nat) (z0 : List Int) (A1 : Option Addr) (n1 c1 : Nat) (z1 : List Int) (A2 : Option Addr) (n2 c2 : Nat) (z2 : List Int) (a3 : Int) (a4 : Int) (w : World) (w0 : Args.IsInts .u32 w A0 n0 c0 z0) (w1 : Args.IsInts .u32 w A1 n1 c1 z1) (w2 : Args.IsInts .u32 w A2 n2 c2 z2) (w3 : (Lit.int .i64 a3).wf = true) (w4 : (Lit.int .i64 a4).wf = true) :
    Calls Try.prog 4 #[.slice A0 n0 c0, .slice A1 n1 c1, .slice A2 n2 c2, .int .i64 a3, .int .i64 a4] w fun e w' => e = .returned (.bool true) ∧ Below w.heap.size w w' := by
  have m0 := Nat.le_trans w0.1 w0.2.1
  have m1 := Nat.le_trans w1.1 w1.2.1
  have m2 := Nat.le_trans w2.1 w2.2.1
  have M := Lib.hid (And.intro m0 (And.intro m1 m2))
  have H0 := Lib.hid w0
  have H1 := Lib.hid w1
  have H2 := Lib.hid w2
  clear w0 w1 w2 w3 w4 m0 m1 m2
  go_enter Try.func4, Try.ntmps4
  go_wp2_with fail
  refine (zz13 A0 A1 A2 n0 c0 n1 c1 n2 c2 a3 a4 w M.out.1 M.out.2.1 M.out.2.2).mono ?_
  rintro e w' ⟨⟨b, rfl⟩, rfl⟩
  cases b
  · go_wp2_with fail
    go_ret
    exact ⟨rfl, Below.refl _ _⟩
  go_wp2_with fail
  refine (big14 A0 A1 A2 n0 c0 n1 c1 n2 c2 w M.out.1 M.out.2.1 M.out.2.2).mono ?_
  rintro e w' ⟨rfl, b, rfl, hb⟩
  cases b
  · obtain ⟨hn0, hn1, hn2⟩ := hb rfl
    clear hb
    go_wp2_with fail
    refine (min15 n0 n1 n2 w).mono ?_
    rintro e w' ⟨rfl, rfl⟩
    have l0 : min (min n0 n1) n2 ≤ n0 := by omega
    have l1 : min (min n0 n1) n2 ≤ n1 := by omega
    have l2 : min (min n0 n1) n2 ≤ n2 := by omega
    generalize min (min n0 n1) n2 = n at *
    have hn : n ≤ 65536 := by omega
    by_cases q0 : a3 < 0
    · have g0 : decide (a3 < 0) = true := by simp; omega
      go_wp2_with fail
      go_ret
      exact ⟨rfl, Below.refl _ _⟩
    have g0 : decide (a3 < 0) = false := by simp; omega
    by_cases q1 : (n : Int) ≤ a3
    · have g1 : decide ((n : Int) ≤ a3) = true := by simp; omega
      go_wp2_with fail
      go_ret
      exact ⟨rfl, Below.refl _ _⟩
    have g1 : decide ((n : Int) ≤ a3) = false := by simp; omega
    by_cases q2 : a4 < 0
    · have g2 : decide (a4 < 0) = true := by simp; omega
      go_wp2_with fail
      go_ret
      exact ⟨rfl, Below.refl _ _⟩
    have g2 : decide (a4 < 0) = false := by simp; omega
    by_cases q3 : (n : Int) ≤ a4
    · have g3 : decide ((n : Int) ≤ a4) = true := by simp; omega
      go_wp2_with fail
      go_ret
      exact ⟨rfl, Below.refl _ _⟩
    have g3 : decide ((n : Int) ≤ a4) = false := by simp; omega
    obtain ⟨i, rfl⟩ := Int.eq_ofNat_of_zero_le (show 0 ≤ a3 by omega)
    obtain ⟨j, rfl⟩ := Int.eq_ofNat_of_zero_le (show 0 ≤ a4 by omega)
    have hi : i < n := by omega
    have hj : j < n := by omega
    clear M q0 q1 q2 q3
    go_wp2_with fail
    refine (clo16 A0 n0 c0 z0 w H0.out (by omega)).mono ?_
    rintro e u0 ⟨B0, rfl, hc, hb⟩
    have K0 := Lib.hid hc
    clear g0 g1 g2 g3
    replace H1 := Lib.hid (H1.out.later hb)
    replace H2 := Lib.hid (H2.out.later hb)
    have HB := Lib.hid hb
    clear hb hc H0
    go_wp2_with fail
    refine (clo16 A1 n1 c1 z1 u0 H1.out (by omega)).mono ?_
    rintro e u1 ⟨B1, rfl, hc, hb⟩
    have K1 := Lib.hid hc
    replace K0 := Lib.hid (K0.out.later hb)
    replace H2 := Lib.hid (H2.out.later hb)
    replace HB := Lib.hid (HB.out.trans (hb.mono HB.out.size))
    clear hb hc H1
    go_wp2_with fail
    refine (clo16 A2 n2 c2 z2 u1 H2.out (by omega)).mono ?_
    rintro e u2 ⟨B2, rfl, hc, hb⟩
    have K2 := Lib.hid hc
    replace K0 := Lib.hid (K0.out.later hb)
    replace K1 := Lib.hid (K1.out.later hb)
    replace HB := Lib.hid (HB.out.trans (hb.mono HB.out.size))
    clear hb hc H2
    have X0 := Lib.hid (show ∀ b off, B0 = some ⟨b, off, none⟩ → b < u2.heap.size by
      intro b off hb
      obtain ⟨b', off', h1, h2, _⟩ := K0.out.2.2.2.2.2 (by omega)
      rw [hb] at h1; injection h1 with h1; injection h1 with h1 _; omega)
    have X1 := Lib.hid (show ∀ b off, B1 = some ⟨b, off, none⟩ → b < u2.heap.size by
      intro b off hb
      obtain ⟨b', off', h1, h2, _⟩ := K1.out.2.2.2.2.2 (by omega)
      rw [hb] at h1; injection h1 with h1; injection h1 with h1 _; omega)
    have X2 := Lib.hid (show ∀ b off, B2 = some ⟨b, off, none⟩ → b < u2.heap.size by
      intro b off hb
      obtain ⟨b', off', h1, h2, _⟩ := K2.out.2.2.2.2.2 (by omega)
      rw [hb] at h1; injection h1 with h1; injection h1 with h1 _; omega)
    have HW := Lib.hid HB.out.size
    go_wp2_with fail
    refine (arr17 B0 B1 B2 n n0 n1 n2 n0 n1 n2 z0 z1 z2 u2 K0.out K1.out K2.out hn l0 l1 l2).mono ?_
    rintro e v0 ⟨rfl, ha, hb⟩
    have L0 := Lib.hid ha
    replace K0 := Lib.hid (K0.out.later hb)
    replace K1 := Lib.hid (K1.out.later hb)
    replace K2 := Lib.hid (K2.out.later hb)
    replace HB := Lib.hid (HB.out.trans (hb.mono HB.out.size))
    have S0 := Lib.hid (And.intro ha.lt hb.size)
    clear hb ha
    generalize hg0 : u2.heap.size = g0 at *
    go_wp2_with fail
    refine (arr17 B0 B1 B2 n n0 n1 n2 n0 n1 n2 z0 z1 z2 v0 K0.out K1.out K2.out hn l0 l1 l2).mono ?_
    rintro e v1 ⟨rfl, ha, hb⟩
    have L1 := Lib.hid ha
    replace L0 := Lib.hid (L0.out.below hb L0.out.lt)
    replace K0 := Lib.hid (K0.out.later hb)
    replace K1 := Lib.hid (K1.out.later hb)
    replace K2 := Lib.hid (K2.out.later hb)
    replace HB := Lib.hid (HB.out.trans (hb.mono HB.out.size))
    have S1 := Lib.hid (And.intro ha.lt hb.size)
    clear hb ha
    generalize hg1 : v0.heap.size = g1 at *
    go_wp2_with fail
    refine (arr17 B0 B1 B2 n n0 n1 n2 n0 n1 n2 z0 z1 z2 v1 K0.out K1.out K2.out hn l0 l1 l2).mono ?_
    rintro e v2 ⟨rfl, ha, hb⟩
    have L2 := Lib.hid ha
    replace L0 := Lib.hid (L0.out.below hb L0.out.lt)
    replace L1 := Lib.hid (L1.out.below hb L1.out.lt)
    replace K0 := Lib.hid (K0.out.later hb)
    replace K1 := Lib.hid (K1.out.later hb)
    replace K2 := Lib.hid (K2.out.later hb)
    replace HB := Lib.hid (HB.out.trans (hb.mono HB.out.size))
    have S2 := Lib.hid (And.intro ha.lt hb.size)
    clear hb ha
    generalize hg2 : v1.heap.size = g2 at *
    have d01 : g0 < g1 := S0.out.1
    have d12 : g1 < g2 := S1.out.1
    have dw : w.heap.size ≤ g0 := HW.out
    have hF : ∀ k, mk [z0, z1, z2] k 0 = z0.getD k 0 ∧ mk [z0, z1, z2] k 1 = z1.getD k 0 ∧ mk [z0, z1, z2] k 2 = z2.getD k 0 := fun k => ⟨rfl, rfl, rfl⟩
    have HF := Lib.hid hF
    have KB := Lib.hid (show ∀ t, t = g0 ∨ t = g1 ∨ t = g2 → ∀ x : World, v2.grownBy x (some t) → True from fun _ _ _ _ => trivial)
    clear S0 S1 HW hF KB
    generalize mk [z0, z1, z2] = F at *
    go_wp2_with fail
    refine (swap18 g0 n n i j F v2 L0.out hi hj (by omega)).mono ?_
    rintro e x1 ⟨rfl, ha, hg, hs⟩
    replace L0 := Lib.hid ha
    replace L1 := Lib.hid (L1.out.grown hg (by intro e; injection e with e; omega))
    replace L2 := Lib.hid (L2.out.grown hg (by intro e; injection e with e; omega))
    replace K0 := Lib.hid (kept K0.out hg X0.out (by omega))
    replace K1 := Lib.hid (kept K1.out hg X1.out (by omega))
    replace K2 := Lib.hid (kept K2.out hg X2.out (by omega))
    replace HB := Lib.hid (HB.out.trans (grown_below hg (by omega) HB.out.size))
    clear ha hg hs
    go_wp2_with fail
    refine (swap18 g0 n n i j (swp F i j) x1 L0.out hi hj (by omega)).mono ?_
    rintro e x2 ⟨rfl, ha, hg, hs⟩
    replace L0 := Lib.hid ha
    replace L1 := Lib.hid (L1.out.grown hg (by intro e; injection e with e; omega))
    replace L2 := Lib.hid (L2.out.grown hg (by intro e; injection e with e; omega))
    replace K0 := Lib.hid (kept K0.out hg X0.out (by omega))
    replace K1 := Lib.hid (kept K1.out hg X1.out (by omega))
    replace K2 := Lib.hid (kept K2.out hg X2.out (by omega))
    replace HB := Lib.hid (HB.out.trans (grown_below hg (by omega) HB.out.size))
    clear ha hg hs
    replace L0 := Lib.hid (L0.out.congr (F' := F) (by
      intro k l hk hl
      by_cases e1 : k = j
      · subst e1
        by_cases e2 : i = k
        · subst e2; simp [swp]
        · simp [swp, e2]
      · by_cases e2 : k = i
        · subst e2; simp [swp, e1]
        · simp [swp, e1, e2]))
    go_wp2_with fail
    refine (swap18 g1 n n i j F x2 L1.out hi hj (by omega)).mono ?_
    rintro e x3 ⟨rfl, ha, hg, hs⟩
    replace L1 := Lib.hid ha
    replace L0 := Lib.hid (L0.out.grown hg (by intro e; injection e with e; omega))
    replace L2 := Lib.hid (L2.out.grown hg (by intro e; injection e with e; omega))
    replace K0 := Lib.hid (kept K0.out hg X0.out (by omega))
    replace K1 := Lib.hid (kept K1.out hg X1.out (by omega))
    replace K2 := Lib.hid (kept K2.out hg X2.out (by omega))
    replace HB := Lib.hid (HB.out.trans (grown_below hg (by omega) HB.out.size))
    clear ha hg hs
    go_wp2_with fail
    refine (swap18 g2 n n j i F x3 L2.out hj hi (by omega)).mono ?_
    rintro e x4 ⟨rfl, ha, hg, hs⟩
    replace L2 := Lib.hid ha
    replace L0 := Lib.hid (L0.out.grown hg (by intro e; injection e with e; omega))
    replace L1 := Lib.hid (L1.out.grown hg (by intro e; injection e with e; omega))
    replace K0 := Lib.hid (kept K0.out hg X0.out (by omega))
    replace K1 := Lib.hid (kept K1.out hg X1.out (by omega))
    replace K2 := Lib.hid (kept K2.out hg X2.out (by omega))
    replace HB := Lib.hid (HB.out.trans (grown_below hg (by omega) HB.out.size))
    clear ha hg hs
    go_wp2_with fail
    go_loopw [15] (fun i wr => ∃ k : Nat, k ≤ n ∧ i = .int .i64 k ∧ Below x4.heap.size x4 wr) (fun i _ => n - (intOf i).toNat)
    case atStart => exact ⟨0, Nat.zero_le _, rfl, Below.refl _ _⟩
    case round =>
      obtain ⟨k, hk, rfl, hbel⟩ := hrel
      have HBEL := Lib.hid hbel
      by_cases hlt : k < n
      · obtain ⟨b0, o0, ha0, hb0, hc0⟩ := K0.out.read k (by omega)
        obtain ⟨b1, o1, ha1, hb1, hc1⟩ := K1.out.read k (by omega)
        obtain ⟨b2, o2, ha2, hb2, hc2⟩ := K2.out.read k (by omega)
        subst ha0 ha1 ha2
        have hk0 : k < n0 := by omega
        have hk1 : k < n1 := by omega
        have hk2 : k < n2 := by omega
        rw [← (HF.out k).1] at hc0
        rw [← (HF.out k).2.1] at hc1
        rw [← (HF.out k).2.2] at hc2
        have d0 := cell_later hbel hc0
        have d1 := cell_later hbel hc1
        have d2 := cell_later hbel hc2
        have Y0 := Lib.hid (show ∀ W : World, Below x4.heap.size x4 W → W.cell? ⟨g0, k * 3, none⟩ = some (.int .u32 (F k 0)) ∧ W.cell? ⟨g0, k * 3 + 1, none⟩ = some (.int .u32 (F k 1)) ∧ W.cell? ⟨g0, k * 3 + 2, none⟩ = some (.int .u32 (F k 2)) from
          fun W hW => ⟨(L0.out.below hW L0.out.lt).cell k 0 hlt (by omega), (L0.out.below hW L0.out.lt).cell k 1 hlt (by omega), (L0.out.below hW L0.out.lt).cell k 2 hlt (by omega)⟩)
        obtain ⟨a0, a1, a2⟩ := Y0.out wr hbel
        have hsw : ∀ l, swp F j i k l = swp F i j k l := by
          intro l
          by_cases e1 : k = j
          · by_cases e2 : k = i
            · subst e1; subst e2; rfl
            · subst e1; simp [swp, e2]
          · by_cases e2 : k = i
            · subst e2; simp [swp, e1]
            · simp [swp, e1, e2]
        have Y1 := Lib.hid (show ∀ W : World, Below x4.heap.size x4 W → W.cell? ⟨g1, k * 3, none⟩ = some (.int .u32 (swp F i j k 0)) ∧ W.cell? ⟨g1, k * 3 + 1, none⟩ = some (.int .u32 (swp F i j k 1)) ∧ W.cell? ⟨g1, k * 3 + 2, none⟩ = some (.int .u32 (swp F i j k 2)) from
          fun W hW => ⟨(L1.out.below hW L1.out.lt).cell k 0 hlt (by omega), (L1.out.below hW L1.out.lt).cell k 1 hlt (by omega), (L1.out.below hW L1.out.lt).cell k 2 hlt (by omega)⟩)
        have Y2 := Lib.hid (show ∀ W : World, Below x4.heap.size x4 W → W.cell? ⟨g2, k * 3, none⟩ = some (.int .u32 (swp F i j k 0)) ∧ W.cell? ⟨g2, k * 3 + 1, none⟩ = some (.int .u32 (swp F i j k 1)) ∧ W.cell? ⟨g2, k * 3 + 2, none⟩ = some (.int .u32 (swp F i j k 2)) from
          fun W hW => ⟨by rw [← hsw]; exact (L2.out.below hW L2.out.lt).cell k 0 hlt (by omega), by rw [← hsw]; exact (L2.out.below hW L2.out.lt).cell k 1 hlt (by omega), by rw [← hsw]; exact (L2.out.below hW L2.out.lt).cell k 2 hlt (by omega)⟩)
        generalize swp F i j k 0 = s0 at Y1 Y2
        generalize swp F i j k 1 = s1 at Y1 Y2
        generalize swp F i j k 2 = s2 at Y1 Y2
        generalize F k 0 = y0 at *
        generalize F k 1 = y1 at *
        generalize F k 2 = y2 at *
        have NEW := Lib.hid (show ∀ W : World, Below x4.heap.size x4 W → (W.cell? ⟨g0, k * 3, none⟩ = some (.int .u32 y0) ∧ W.cell? ⟨g0, k * 3 + 1, none⟩ = some (.int .u32 y1) ∧ W.cell? ⟨g0, k * 3 + 2, none⟩ = some (.int .u32 y2) ∧ W.cell? ⟨b0, o0 + k, none⟩ = some (.int .u32 y0) ∧ W.cell? ⟨b1, o1 + k, none⟩ = some (.int .u32 y1) ∧ W.cell? ⟨b2, o2 + k, none⟩ = some (.int .u32 y2)) from
          fun W hW => ⟨(Y0.out W hW).1, (Y0.out W hW).2.1, (Y0.out W hW).2.2, cell_later hW hc0, cell_later hW hc1, cell_later hW hc2⟩)
        clear hbel hc0 hc1 hc2 hsw
        go_wp2_with fail
        go_region_held3 (fun w' => w'.cell? ⟨g0, k * 3, none⟩ = some (.int .u32 y0) ∧ w'.cell? ⟨g0, k * 3 + 1, none⟩ = some (.int .u32 y1) ∧ w'.cell? ⟨g0, k * 3 + 2, none⟩ = some (.int .u32 y2) ∧ w'.cell? ⟨b0, o0 + k, none⟩ = some (.int .u32 y0) ∧ w'.cell? ⟨b1, o1 + k, none⟩ = some (.int .u32 y1) ∧ w'.cell? ⟨b2, o2 + k, none⟩ = some (.int .u32 y2)) (first | exact NEW.out _ HB'.out | exact ⟨a0, a1, a2, d0, d1, d2⟩)
          (first | (go_at_call 19; refine (new19 y0 y1 y2 _).mono ?_; rintro e w' ⟨rfl, hb⟩; have HB' := Lib.hid (HBEL.out.drew.trans (hb.mono HBEL.out.size)); clear hb))
        all_goals
          obtain ⟨p0, p1, p2⟩ := Y1.out w' HB'.out
          obtain ⟨r0, r1, r2⟩ := Y2.out w' HB'.out
          clear a0 a1 a2 d0 d1 d2
          go_wp2_with fail
          go_quiet (fail)
          go_wp2
          go_roundw
          case rel => exact ⟨k + 1, by omega, by go_num, below_drewN HB'.out _⟩
          case measure => simp [intOf]; omega
      · go_wp2
        go_ret
        exact ⟨rfl, HB.out.trans (HBEL.out.mono HB.out.size)⟩
  · clear hb
    go_wp2_with fail
    go_ret
    exact ⟨rfl, Below.refl _ _⟩
end Go.Proofs.Ytjgomgagaolhgab.RefL
