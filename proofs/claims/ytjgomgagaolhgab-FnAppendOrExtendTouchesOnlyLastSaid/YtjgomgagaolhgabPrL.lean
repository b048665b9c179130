/- FnAppendOrExtendTouchesOnlyLast: the law. -/
import Derived.Test.YtjgomgagaolhgabRows
import Derived.Test.YtjgomgagaolhgabMem
import Derived.Test.YtjgomgagaolhgabSl
import Derived.Test.YtjgomgagaolhgabArr
import Derived.Test.YtjgomgagaolhgabArrB
import Derived.Test.YtjgomgagaolhgabClo
import Derived.Test.YtjgomgagaolhgabPrA
import Derived.Test.YtjgomgagaolhgabPrU
import Derived.Test.YtjgomgagaolhgabPrF
import Derived.WalkKit
import Derived.ProofKit
import Derived.OpenShut
import Derived.Below
import Derived.WalkLawsBesides
import Derived.Lib.Hide
import Derived.Outline
import Derived.RegionTactic
import Derived.Deep.QuietTactic
import Derived.BigQuiet
import Derived.WalkSpells
import Derived.Deep.OwnRows
import Derived.IntWalk
import Derived.Deep.DeepMust
namespace Go.Proofs.Ytjgomgagaolhgab.PrL
open Go.RowKit Mem Sl
set_option linter.unusedVariables false
open Arr ArrB Clo PrA PrU PrF

theorem zz34 (A0 A1 A2 : Option Addr) (n0 c0 n1 c1 n2 c2 : Nat) (i j : Int) (w : World) (h0 : n0 ≤ maxLen) (h1 : n1 ≤ maxLen) (h2 : n2 ≤ maxLen) :
    Calls Try.prog 34 #[.slice A0 n0 c0, .slice A1 n1 c1, .slice A2 n2 c2, .int .u32 i, .int .u32 j] w fun e w' => (∃ b, e = .returned (.bool b)) ∧ w = w' := by
  unfold maxLen at h0 h1 h2
  go_enter Try.func34, Try.ntmps34
  go_wp2
  all_goals go_ret
  all_goals exact ⟨⟨_, rfl⟩, rfl⟩
/-- What the check at the end looks at. -/
structure Fin (w : World) (A0 A1 A2 : Option Addr) (n : Nat) (z0 z1 z2 : List Int) (q m : Nat) (F' : Nat → Nat → Int) : Prop where
  k0 : Args.IsInts .u32 w A0 n n z0
  k1 : Args.IsInts .u32 w A1 n n z1
  k2 : Args.IsInts .u32 w A2 n n z2
  r0 : Row w q 28 (iv .u32 (col F' 0 m))
  r1 : Row w (q + 1) 28 (iv .u32 (col F' 1 m))
  r2 : Row w (q + 1 + 1) 28 (iv .u32 (col F' 2 m))
theorem Fin.drewN {w : World} {A0 A1 A2 : Option Addr} {n : Nat} {z0 z1 z2 : List Int} {q m : Nat} {F' : Nat → Nat → Int} (h : Fin w A0 A1 A2 n z0 z1 z2 q m F') (j : Nat) : Fin (w.drewN j) A0 A1 A2 n z0 z1 z2 q m F' := ⟨h.k0, h.k1, h.k2, h.r0, h.r1, h.r2⟩
theorem Fin.c0 {w : World} {A0 A1 A2 : Option Addr} {n : Nat} {z0 z1 z2 : List Int} {q m : Nat} {F' : Nat → Nat → Int} (h : Fin w A0 A1 A2 n z0 z1 z2 q m F') (k : Nat) (hk : k < m) : w.cell? ⟨q, k, none⟩ = some (.int .u32 (F' k 0)) := h.r0.at_ (civ F' 0 m k hk)
theorem Fin.c1 {w : World} {A0 A1 A2 : Option Addr} {n : Nat} {z0 z1 z2 : List Int} {q m : Nat} {F' : Nat → Nat → Int} (h : Fin w A0 A1 A2 n z0 z1 z2 q m F') (k : Nat) (hk : k < m) : w.cell? ⟨q + 1, k, none⟩ = some (.int .u32 (F' k 1)) := h.r1.at_ (civ F' 1 m k hk)
theorem Fin.c2 {w : World} {A0 A1 A2 : Option Addr} {n : Nat} {z0 z1 z2 : List Int} {q m : Nat} {F' : Nat → Nat → Int} (h : Fin w A0 A1 A2 n z0 z1 z2 q m F') (k : Nat) (hk : k < m) : w.cell? ⟨q + 1 + 1, k, none⟩ = some (.int .u32 (F' k 2)) := h.r2.at_ (civ F' 2 m k hk)
theorem mk0 (z0 z1 z2 : List Int) (k : Nat) : mk [z0, z1, z2] k 0 = z0.getD k 0 := rfl
theorem mk1 (z0 z1 z2 : List Int) (k : Nat) : mk [z0, z1, z2] k 1 = z1.getD k 0 := rfl
theorem mk2 (z0 z1 z2 : List Int) (k : Nat) : mk [z0, z1, z2] k 2 = z2.getD k 0 := rfl
set_option maxHeartbeats 8000000 in
set_option maxRecDepth 100000 in
theorem law (A0 : Option Addr) (n0 c0 : Nat) (z0 : List Int) (A1 : Option Addr) (n1 c1 : Nat) (z1 : List Int) (A2 : Option Addr) (n2 c2 : Nat) (z2 : List Int) (a3 : Int) (a4 : Int) (w : World) (w0 : Args.IsInts .u32 w A0 n0 c0 z0) (w1 : Args.IsInts .u32 w A1 n1 c1 z1) (w2 : Args.IsInts .u32 w A2 n2 c2 z2) (w3 : (Lit.int .u32 a3).wf = true) (w4 : (Lit.int .u32 a4).wf = true) :
    Calls Try.prog 7 #[.slice A0 n0 c0, .slice A1 n1 c1, .slice A2 n2 c2, .int .u32 a3, .int .u32 a4] w fun e w' => e = .returned (.bool true) ∧ Below w.heap.size w w' := by
  have m0 := Nat.le_trans w0.1 w0.2.1
  have m1 := Nat.le_trans w1.1 w1.2.1
  have m2 := Nat.le_trans w2.1 w2.2.1
  have M := Lib.hid (And.intro m0 (And.intro m1 m2))
  have H0 := Lib.hid w0
  have H1 := Lib.hid w1
  have H2 := Lib.hid w2
  obtain ⟨hp0, hp1⟩ := bounds_u32 w4
  unfold maxLen at m0 m1 m2
  clear w0 w1 w2 w3 w4
  go_enter Try.func7, Try.ntmps7
  go_wp2_with fail
  refine (zz34 A0 A1 A2 n0 c0 n1 c1 n2 c2 a3 a4 w M.out.1 M.out.2.1 M.out.2.2).mono ?_
  rintro e w' ⟨⟨b, rfl⟩, rfl⟩
  cases b
  · go_wp2_with fail
    go_ret
    exact ⟨rfl, Below.refl _ _⟩
  by_cases q0 : 65536 < n0
  · have g0 : decide (65536 < (n0 : Int)) = true := by simp; omega
    go_wp2_with fail
    go_ret
    exact ⟨rfl, Below.refl _ _⟩
  have g0 : decide (65536 < (n0 : Int)) = false := by simp; omega
  by_cases q1 : 65536 < n1
  · have g1 : decide (65536 < (n1 : Int)) = true := by simp; omega
    go_wp2_with fail
    go_ret
    exact ⟨rfl, Below.refl _ _⟩
  have g1 : decide (65536 < (n1 : Int)) = false := by simp; omega
  by_cases q2 : 65536 < n2
  · have g2 : decide (65536 < (n2 : Int)) = true := by simp; omega
    go_wp2_with fail
    go_ret
    exact ⟨rfl, Below.refl _ _⟩
  have g2 : decide (65536 < (n2 : Int)) = false := by simp; omega
  by_cases q3 : 1048576 < 4 * ((n0 : Int) + n1 + n2)
  · have g3 : decide (1048576 < 4 * ((n0 : Int) + n1 + n2)) = true := by simp; omega
    go_wp2_with fail
    go_ret
    exact ⟨rfl, Below.refl _ _⟩
  have g3 : decide (1048576 < 4 * ((n0 : Int) + n1 + n2)) = false := by simp; omega
  by_cases q4 : n1 ≠ n0
  · have g4 : ((n1 : Int) != (n0 : Int)) = true := by simp; omega
    go_wp2_with fail
    go_ret
    exact ⟨rfl, Below.refl _ _⟩
  have g4 : ((n1 : Int) != (n0 : Int)) = false := by simp; omega
  by_cases q5 : n2 ≠ n0
  · have g5 : ((n2 : Int) != (n0 : Int)) = true := by simp; omega
    go_wp2_with fail
    go_ret
    exact ⟨rfl, Below.refl _ _⟩
  have g5 : ((n2 : Int) != (n0 : Int)) = false := by simp; omega
  by_cases q6 : a4 = 4294967295
  · have g6 : (a4 == 4294967295) = true := by simp; omega
    go_wp2_with fail
    go_ret
    exact ⟨rfl, Below.refl _ _⟩
  have g6 : (a4 == 4294967295) = false := by simp; omega
  obtain rfl : n1 = n0 := by omega
  obtain rfl : n2 = n1 := by omega
  have hn : n2 ≤ 65536 := by omega
  have hp : a4 < 4294967295 := by omega
  clear q0 q1 q2 q3 q4 q5 q6 hp1 m0 m1 m2
  go_wp2_with fail
  clear g0 g1 g2 g3 g4 g5 g6
  go_loopw [11] (fun i wr => ∃ k j : Nat, k ≤ n2 ∧ i = .int .i64 k ∧ wr = w.drewN j ∧ ∀ l, l < k → z1.getD l 0 < z2.getD l 0) (fun i _ => n2 - (intOf i).toNat)
  case atStart => exact ⟨0, 0, Nat.zero_le _, rfl, rfl, fun l hl => by omega⟩
  case round =>
    obtain ⟨k, j, hk, rfl, rfl, hlt⟩ := hrel
    have HL := Lib.hid hlt
    clear hlt
    by_cases hkn : k < n2
    · obtain ⟨b1, o1, ha1, hb1, hc1⟩ := H1.out.read k hkn
      obtain ⟨b2, o2, ha2, hb2, hc2⟩ := H2.out.read k hkn
      subst ha1 ha2
      obtain ⟨x, hx⟩ : ∃ x, x = z1.getD k 0 := ⟨_, rfl⟩
      obtain ⟨y, hy⟩ : ∃ y, y = z2.getD k 0 := ⟨_, rfl⟩
      rw [← hx] at hc1
      rw [← hy] at hc2
      have HX := Lib.hid hx
      have HY := Lib.hid hy
      clear hx hy
      by_cases hxy : y ≤ x
      · have g : decide (y ≤ x) = true := by simpa using hxy
        go_wp2_with fail
        go_quiet (fail)
        go_wp2_with fail
        go_ret
        exact ⟨rfl, below_drewN (below_drewN (Below.refl _ _) _) _⟩
      · have g : decide (y ≤ x) = false := by simpa using hxy
        go_wp2_with fail
        go_quiet (fail)
        go_wp2_with fail
        go_roundw
        case rel => exact ⟨k + 1, j + nq, by omega, by go_num, by simp, fun l hl => by
          by_cases e : l = k
          · subst e; rw [← HX.out, ← HY.out]; omega
          · exact HL.out l (by omega)⟩
        case measure => simp [intOf]; omega
    · obtain rfl : k = n2 := by omega
      replace H0 := Lib.hid (show Args.IsInts .u32 (w.drewN j) A0 k c0 z0 from H0.out)
      replace H1 := Lib.hid (show Args.IsInts .u32 (w.drewN j) A1 k c1 z1 from H1.out)
      replace H2 := Lib.hid (show Args.IsInts .u32 (w.drewN j) A2 k c2 z2 from H2.out)
      have HB := Lib.hid (below_drewN (Below.refl w.heap.size w) j)
      generalize w.drewN j = u at H0 H1 H2 HB ⊢
      clear M
      go_wp2_with fail
      refine (clo35 A0 k c0 z0 u H0.out (by omega)).mono ?_
      rintro e u0 ⟨B0, rfl, hc, hb⟩
      have K0 := Lib.hid hc
      replace H1 := Lib.hid (H1.out.later hb)
      replace H2 := Lib.hid (H2.out.later hb)
      replace HB := Lib.hid (HB.out.trans (hb.mono HB.out.size))
      clear hb hc H0
      go_wp2_with fail
      refine (clo35 A1 k c1 z1 u0 H1.out (by omega)).mono ?_
      rintro e u1 ⟨B1, rfl, hc, hb⟩
      have K1 := Lib.hid hc
      replace K0 := Lib.hid (K0.out.later hb)
      replace H2 := Lib.hid (H2.out.later hb)
      replace HB := Lib.hid (HB.out.trans (hb.mono HB.out.size))
      clear hb hc H1
      go_wp2_with fail
      refine (clo35 A2 k c2 z2 u1 H2.out (by omega)).mono ?_
      rintro e u2 ⟨B2, rfl, hc, hb⟩
      have K2 := Lib.hid hc
      replace K0 := Lib.hid (K0.out.later hb)
      replace K1 := Lib.hid (K1.out.later hb)
      replace HB := Lib.hid (HB.out.trans (hb.mono HB.out.size))
      clear hb hc H2
      go_wp2_with fail
      refine (ae36 B0 B1 B2 k k k k z0 z1 z2 a3 a4 u2 K0.out K1.out K2.out hn hp0 hp).mono ?_
      rintro e x ⟨q, m, F', rfl, s0, s1, s2, hb, hd⟩
      have FI := Lib.hid (Fin.mk (K0.out.later hb) (K1.out.later hb) (K2.out.later hb) s0 s1 s2)
      replace HB := Lib.hid (HB.out.trans (hb.mono HB.out.size))
      clear s0 s1 s2 hb K0 K1 K2
      rcases hd with ⟨hm, hpos, hs, he, hF⟩ | ⟨hm, hno, hF, f0, f1, f2⟩
      · obtain ⟨t, rfl⟩ : ∃ t, k = t + 1 := ⟨k - 1, by omega⟩
        obtain rfl : m = t + 1 := hm
        have et : t + 1 - 1 = t := by omega
        rw [et] at hs he hF
        have HF := Lib.hid (show ∀ l, l + 1 < t + 1 → F' l 0 = z0.getD l 0 ∧ F' l 1 = z1.getD l 0 ∧ F' l 2 = z2.getD l 0 from fun l hl => by
          have : l ≠ t := by omega
          rw [hF]; simp [upd, this, mk])
        have HV := Lib.hid (show F' t 0 = a3 ∧ F' t 1 = z1.getD t 0 ∧ F' t 2 = a4 + 1 ∧ z0.getD t 0 = a3 ∧ z2.getD t 0 = a4 ∧ z1.getD t 0 ≤ a4 from by
          rw [mk0] at hs
          rw [mk2] at he
          refine ⟨?_, ?_, ?_, hs, he, ?_⟩
          · rw [hF]; unfold upd; rw [if_neg (by simp)]; exact hs
          · rw [hF]; unfold upd; rw [if_neg (by simp)]; rfl
          · rw [hF]; simp [upd]
          · have := HL.out t (by omega); omega)
        clear hF hs he hpos et HL
        have g1 : ((((t : Nat) : Int) + 1) != (((t : Nat) : Int) + 1)) = false := by simp
        have g2 : ((((t : Nat) : Int) + 1) == 0) = false := by simp; omega
        go_wp2_with fail
        clear g1 g2
        go_loopw [17] (fun i wr => ∃ l j : Nat, l ≤ (t + 1) ∧ i = .int .i64 l ∧ wr = x.drewN j) (fun i _ => (t + 1) - (intOf i).toNat)
        case atStart => exact ⟨0, 0, Nat.zero_le _, rfl, rfl⟩
        case round =>
          obtain ⟨l, j, hl, rfl, rfl⟩ := hrel
          by_cases hlk : l + 1 < t + 1
          · obtain ⟨b0, o0, ha0, hb0, hc0⟩ := FI.out.k0.read l (by omega)
            obtain ⟨b1, o1, ha1, hb1, hc1⟩ := FI.out.k1.read l (by omega)
            obtain ⟨b2, o2, ha2, hb2, hc2⟩ := FI.out.k2.read l (by omega)
            subst ha0 ha1 ha2
            have d0 := FI.out.c0 l (by omega)
            have d1 := FI.out.c1 l (by omega)
            have d2 := FI.out.c2 l (by omega)
            rw [(HF.out l hlk).1] at d0
            rw [(HF.out l hlk).2.1] at d1
            rw [(HF.out l hlk).2.2] at d2
            generalize z0.getD l 0 = y0 at hc0 d0
            generalize z1.getD l 0 = y1 at hc1 d1
            generalize z2.getD l 0 = y2 at hc2 d2
            have e0 : (y0 != y0) = false := by simp
            have e1 : (y1 != y1) = false := by simp
            have e2 : (y2 != y2) = false := by simp
            have i0 : (0 : Int) ≤ l := by omega
            have i1 : (l : Int) < (t + 1) := by omega
            have i2 : (l : Int) < t + 1 := by omega
            go_wp2_with fail
            go_quiet (fail)
            go_wp2_with fail
            go_roundw
            case rel => exact ⟨l + 1, j + nq, by omega, by go_num, by simp⟩
            case measure => simp [intOf]; omega
          · have g4 : ¬ ((l : Int) + 1 < t + 1) := by omega
            have HBx := Lib.hid (below_drewN HB.out j)
            replace FI := Lib.hid (FI.out.drewN j)
            generalize x.drewN j = y at FI HBx ⊢
            clear HB
            obtain ⟨b0, o0, ha0, hb0, hc0⟩ := FI.out.k0.read t (by omega)
            obtain ⟨b1, o1, ha1, hb1, hc1⟩ := FI.out.k1.read t (by omega)
            obtain ⟨b2, o2, ha2, hb2, hc2⟩ := FI.out.k2.read t (by omega)
            subst ha0 ha1 ha2
            have d0 := FI.out.c0 t (by omega)
            have d1 := FI.out.c1 t (by omega)
            have d2 := FI.out.c2 t (by omega)
            rw [HV.out.1] at d0
            rw [HV.out.2.1] at d1
            rw [HV.out.2.2.1] at d2
            rw [HV.out.2.2.2.1] at hc0
            rw [HV.out.2.2.2.2.1] at hc2
            have hle := HV.out.2.2.2.2.2
            generalize z1.getD t 0 = b at hc1 d1 hle
            have e0 : (a3 != a3) = false := by simp
            have e1 : (a4 != a4) = false := by simp
            have e2 : (a4 + 1 != a4 + 1) = false := by simp
            have e3 : decide (a4 < b) = false := by simp; omega
            have e4 : (b != b) = false := by simp
            have i0 : (0 : Int) ≤ t := by omega
            clear HV
            go_wp2_with fail
            go_quiet (fail)
            go_wp2_with fail
            go_ret
            exact ⟨rfl, below_drewN HBx.out _⟩
      · rcases Nat.eq_zero_or_pos k with h0 | h0
        · obtain rfl : k = 0 := h0
          obtain rfl : m = 1 := hm
          have HF := Lib.hid (show ∀ l, l + 1 < 0 → F' l 0 = z0.getD l 0 ∧ F' l 1 = z1.getD l 0 ∧ F' l 2 = z2.getD l 0 from fun l hl => by omega)
          have HV := Lib.hid (And.intro f0 (And.intro f1 f2))
          clear hno hF f0 f1 f2 HL
          have g1 : ((1 : Int) != (1 : Int)) = false := by simp
          have g2 : ((1 : Int) == 0) = false := by simp
          go_wp2_with fail
          clear g1 g2
          go_loopw [17] (fun i wr => ∃ l j : Nat, l ≤ 0 ∧ i = .int .i64 l ∧ wr = x.drewN j) (fun i _ => 0 - (intOf i).toNat)
          case atStart => exact ⟨0, 0, Nat.zero_le _, rfl, rfl⟩
          case round =>
            obtain ⟨l, j, hl, rfl, rfl⟩ := hrel
            by_cases hlk : l + 1 < 0
            · omega
            · have g4 : ¬ ((l : Int) + 1 < 0) := by omega
              have HBx := Lib.hid (below_drewN HB.out j)
              replace FI := Lib.hid (FI.out.drewN j)
              generalize x.drewN j = y at FI HBx ⊢
              clear HB
              have d0 := FI.out.c0 0 (by omega)
              have d1 := FI.out.c1 0 (by omega)
              have d2 := FI.out.c2 0 (by omega)
              rw [HV.out.1] at d0
              rw [HV.out.2.1] at d1
              rw [HV.out.2.2] at d2
              have e0 : (a3 != a3) = false := by simp
              have e1 : (a4 != a4) = false := by simp
              have e2 : (a4 + 1 != a4 + 1) = false := by simp
              have e3 : decide (a4 < a4) = false := by simp
              clear HV
              go_wp2_with fail
              go_quiet (fail)
              go_wp2_with fail
              go_ret
              exact ⟨rfl, below_drewN HBx.out _⟩
        · obtain ⟨t, rfl⟩ : ∃ t, k = t + 1 := ⟨k - 1, by omega⟩
          obtain rfl : m = t + 1 + 1 := hm
          have et : t + 1 - 1 = t := by omega
          rw [et] at hno
          have HF := Lib.hid (show ∀ l, l + 1 < t + 1 → F' l 0 = z0.getD l 0 ∧ F' l 1 = z1.getD l 0 ∧ F' l 2 = z2.getD l 0 from fun l hl => ⟨hF l 0 (by omega), hF l 1 (by omega), hF l 2 (by omega)⟩)
          have HV := Lib.hid (And.intro f0 (And.intro f1 (And.intro f2 (And.intro (show F' t 0 = z0.getD t 0 from hF t 0 (by omega)) (And.intro (show F' t 1 = z1.getD t 0 from hF t 1 (by omega)) (And.intro (show F' t 2 = z2.getD t 0 from hF t 2 (by omega)) (show z0.getD t 0 = a3 → z2.getD t 0 ≠ a4 from hno (by omega))))))))
          clear hno hF f0 f1 f2 HL et h0
          have g1 : ((((t : Nat) : Int) + 1 + 1) != (((t : Nat) : Int) + 1 + 1)) = false := by simp
          have g2 : ((((t : Nat) : Int) + 1 + 1) == 0) = false := by simp; omega
          have g3 : ((((t : Nat) : Int) + 1 + 1) != (t : Int) + 1) = true := by simp; omega
          go_wp2_with fail
          clear g1 g2 g3
          go_loopw [17] (fun i wr => ∃ l j : Nat, l ≤ (t + 1) ∧ i = .int .i64 l ∧ wr = x.drewN j) (fun i _ => (t + 1) - (intOf i).toNat)
          case atStart => exact ⟨0, 0, Nat.zero_le _, rfl, rfl⟩
          case round =>
            obtain ⟨l, j, hl, rfl, rfl⟩ := hrel
            by_cases hlk : l + 1 < t + 1
            · obtain ⟨b0, o0, ha0, hb0, hc0⟩ := FI.out.k0.read l (by omega)
              obtain ⟨b1, o1, ha1, hb1, hc1⟩ := FI.out.k1.read l (by omega)
              obtain ⟨b2, o2, ha2, hb2, hc2⟩ := FI.out.k2.read l (by omega)
              subst ha0 ha1 ha2
              have d0 := FI.out.c0 l (by omega)
              have d1 := FI.out.c1 l (by omega)
              have d2 := FI.out.c2 l (by omega)
              rw [(HF.out l hlk).1] at d0
              rw [(HF.out l hlk).2.1] at d1
              rw [(HF.out l hlk).2.2] at d2
              generalize z0.getD l 0 = y0 at hc0 d0
              generalize z1.getD l 0 = y1 at hc1 d1
              generalize z2.getD l 0 = y2 at hc2 d2
              have e0 : (y0 != y0) = false := by simp
              have e1 : (y1 != y1) = false := by simp
              have e2 : (y2 != y2) = false := by simp
              have i0 : (0 : Int) ≤ l := by omega
              have i1 : (l : Int) < (t + 1) := by omega
              have i2 : (l : Int) < t + 1 + 1 := by omega
              go_wp2_with fail
              go_quiet (fail)
              go_wp2_with fail
              go_roundw
              case rel => exact ⟨l + 1, j + nq, by omega, by go_num, by simp⟩
              case measure => simp [intOf]; omega
            · have g4 : ¬ ((l : Int) + 1 < t + 1) := by omega
              have HBx := Lib.hid (below_drewN HB.out j)
              replace FI := Lib.hid (FI.out.drewN j)
              generalize x.drewN j = y at FI HBx ⊢
              clear HB
              obtain ⟨b0, o0, ha0, hb0, hc0⟩ := FI.out.k0.read t (by omega)
              obtain ⟨b1, o1, ha1, hb1, hc1⟩ := FI.out.k1.read t (by omega)
              obtain ⟨b2, o2, ha2, hb2, hc2⟩ := FI.out.k2.read t (by omega)
              subst ha0 ha1 ha2
              have d0 := FI.out.c0 (t + 1) (by omega)
              have d1 := FI.out.c1 (t + 1) (by omega)
              have d2 := FI.out.c2 (t + 1) (by omega)
              have p0 := FI.out.c0 t (by omega)
              have p1 := FI.out.c1 t (by omega)
              have p2 := FI.out.c2 t (by omega)
              rw [HV.out.1] at d0
              rw [HV.out.2.1] at d1
              rw [HV.out.2.2.1] at d2
              rw [HV.out.2.2.2.1] at p0
              rw [HV.out.2.2.2.2.1] at p1
              rw [HV.out.2.2.2.2.2.1] at p2
              have hno := HV.out.2.2.2.2.2.2
              generalize z0.getD t 0 = y0 at hc0 p0 hno
              generalize z1.getD t 0 = y1 at hc1 p1
              generalize z2.getD t 0 = y2 at hc2 p2 hno
              have e0 : (a3 != a3) = false := by simp
              have e1 : (a4 != a4) = false := by simp
              have e2 : (a4 + 1 != a4 + 1) = false := by simp
              have e3 : decide (a4 < a4) = false := by simp
              have e4 : (y0 != y0) = false := by simp
              have e5 : (y1 != y1) = false := by simp
              have e6 : (y2 != y2) = false := by simp
              have i0 : (0 : Int) ≤ t := by omega
              clear HV
              by_cases ey : y0 = a3
              · have e7 : (y0 == a3) = true := by simpa using ey
                have e8 : (y2 == a4) = false := by simpa using hno ey
                clear hno ey
                go_wp2_with fail
                go_quiet (fail)
                go_wp2_with fail
                go_ret
                exact ⟨rfl, below_drewN HBx.out _⟩
              · have e7 : (y0 == a3) = false := by simpa using ey
                clear hno ey
                go_wp2_with fail
                go_quiet (fail)
                go_wp2_with fail
                go_ret
                exact ⟨rfl, below_drewN HBx.out _⟩
end Go.Proofs.Ytjgomgagaolhgab.PrL
