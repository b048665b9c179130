/- FnCCIASwapSymmetricInvolution: the law. -/
import Derived.Test.YtjgomgagaolhgabRows
import Derived.Test.YtjgomgagaolhgabMem
import Derived.Test.YtjgomgagaolhgabSl
import Derived.Test.YtjgomgagaolhgabArr
import Derived.Test.YtjgomgagaolhgabArrB
import Derived.Test.YtjgomgagaolhgabCcB
import Derived.Deep.RegionHeld3
import Derived.WalkKit
import Derived.ProofKit
import Derived.OpenShut
import Derived.Below
import Derived.WalkLawsBesides
import Derived.Lib.Hide
import Derived.Outline
import Derived.RegionTactic
import Derived.Deep.QuietTactic
import Derived.BigQuiet
import Derived.WalkSpells
import Derived.Deep.OwnRows
import Derived.IntWalk
import Derived.Deep.DeepMust
namespace Go.Proofs.Ytjgomgagaolhgab.CcL
open Go.RowKit Mem Sl
set_option linter.unusedVariables false
open Arr ArrB CcB

theorem zz9 (A0 : Option Addr) (n0 c0 : Nat) (i j : Int) (w : World) (h0 : n0 ≤ maxLen) :
    Calls Try.prog 9 #[.slice A0 n0 c0, .int .i64 i, .int .i64 j] w fun e w' => (∃ b, e = .returned (.bool b)) ∧ w = w' := by
  unfold maxLen at h0
  go_enter Try.func9, Try.ntmps9
  go_wp2
  all_goals go_ret
  all_goals exact ⟨⟨_, rfl⟩, rfl⟩
theorem kept {w w' : World} {A : Option Addr} {n c g B : Nat} {zs : List Int} (h : Args.IsInts .u32 w A n c zs) (hg : w.grownBy w' (some g)) (hB : ∀ b off, A = some ⟨b, off, none⟩ → b < B) (hg' : B ≤ g) : Args.IsInts .u32 w' A n c zs := by
  obtain ⟨h1, h2, h3, h4, h5, h6⟩ := h
  refine ⟨h1, h2, h3, h4, h5, fun hp => ?_⟩
  obtain ⟨b, off, ha, hlt, hc⟩ := h6 hp
  refine ⟨b, off, ha, Nat.lt_of_lt_of_le hlt hg.size, fun i hi => ?_⟩
  have := hg.block b hlt (by have := hB b off ha; intro e; injection e with e; omega)
  rw [← hc i hi]
  simp [World.cell?, this]
set_option maxHeartbeats 2000000 in
theorem law (A0 : Option Addr) (n0 c0 : Nat) (z0 : List Int) (a1 : Int) (a2 : Int) (w : World) (w0 : Args.IsInts .u32 w A0 n0 c0 z0) (w1 : (Lit.int .i64 a1).wf = true) (w2 : (Lit.int .i64 a2).wf = true) :
    Calls Try.prog 3 #[.slice A0 n0 c0, .int .i64 a1, .int .i64 a2] w fun e w' => e = .returned (.bool true) ∧ Below w.heap.size w w' := by
  have m0 := Nat.le_trans w0.1 w0.2.1
  have M := Lib.hid m0
  have K0 := Lib.hid w0
  unfold maxLen at m0
  clear w0 w1 w2
  go_enter Try.func3, Try.ntmps3
  go_wp2_with fail
  refine (zz9 A0 n0 c0 a1 a2 w M.out).mono ?_
  rintro e w' ⟨⟨b, rfl⟩, rfl⟩
  cases b
  · go_wp2_with fail
    go_ret
    exact ⟨rfl, Below.refl _ _⟩
  by_cases hn : 131072 < n0
  · have g0 : decide (131072 < (n0 : Int)) = true := by simp; omega
    go_wp2_with fail
    go_ret
    exact ⟨rfl, Below.refl _ _⟩
  have gg : decide (131072 < (n0 : Int)) = false := by simp; omega
  have hn' : n0 ≤ 131072 := by omega
  by_cases q0 : a1 < 0
  · have g0 : decide (a1 < 0) = true := by simp; omega
    go_wp2_with fail
    go_ret
    exact ⟨rfl, Below.refl _ _⟩
  have g0 : decide (a1 < 0) = false := by simp; omega
  by_cases q1 : (n0 : Int) ≤ a1
  · have g1 : decide ((n0 : Int) ≤ a1) = true := by simp; omega
    go_wp2_with fail
    go_ret
    exact ⟨rfl, Below.refl _ _⟩
  have g1 : decide ((n0 : Int) ≤ a1) = false := by simp; omega
  by_cases q2 : a2 < 0
  · have g2 : decide (a2 < 0) = true := by simp; omega
    go_wp2_with fail
    go_ret
    exact ⟨rfl, Below.refl _ _⟩
  have g2 : decide (a2 < 0) = false := by simp; omega
  by_cases q3 : (n0 : Int) ≤ a2
  · have g3 : decide ((n0 : Int) ≤ a2) = true := by simp; omega
    go_wp2_with fail
    go_ret
    exact ⟨rfl, Below.refl _ _⟩
  have g3 : decide ((n0 : Int) ≤ a2) = false := by simp; omega
  obtain ⟨i, rfl⟩ := Int.eq_ofNat_of_zero_le (show 0 ≤ a1 by omega)
  obtain ⟨j, rfl⟩ := Int.eq_ofNat_of_zero_le (show 0 ≤ a2 by omega)
  have hi : i < n0 := by omega
  have hj : j < n0 := by omega
  clear M q0 q1 q2 q3
  have X0 := Lib.hid (show ∀ b off, A0 = some ⟨b, off, none⟩ → b < w.heap.size by
      intro b off hb
      obtain ⟨b', off', h1, h2, _⟩ := K0.out.2.2.2.2.2 (by have := K0.out.1; omega)
      rw [hb] at h1; injection h1 with h1; injection h1 with h1 _; omega)
  have HB := Lib.hid (Below.refl w.heap.size w)
  go_wp2_with fail
  refine (arr10 A0 n0 c0 z0 w K0.out hn').mono ?_
  rintro e v0 ⟨rfl, ha, hb⟩
  have L0 := Lib.hid ha
  clear g0 g1 g2 g3 gg
  replace K0 := Lib.hid (K0.out.later hb)
  replace HB := Lib.hid (HB.out.trans (hb.mono HB.out.size))
  have S0 := Lib.hid (ha.lt)
  clear hb ha
  obtain ⟨g0, hg0⟩ : ∃ g, w.heap.size = g := ⟨_, rfl⟩
  rw [hg0] at L0 S0 X0 ⊢
  have HBg := Lib.hid (Nat.le_of_eq hg0)
  go_wp2_with fail
  refine (arr10 A0 n0 c0 z0 v0 K0.out hn').mono ?_
  rintro e v1 ⟨rfl, ha, hb⟩
  have L1 := Lib.hid ha
  replace L0 := Lib.hid (L0.out.below hb L0.out.lt)
  replace K0 := Lib.hid (K0.out.later hb)
  replace HB := Lib.hid (HB.out.trans (hb.mono HB.out.size))
  have S1 := Lib.hid (ha.lt)
  clear hb ha
  obtain ⟨g1, hg1⟩ : ∃ g, v0.heap.size = g := ⟨_, rfl⟩
  rw [hg1] at L1 S1 S0 ⊢
  have d01 : g0 < g1 := S0.out
  have dw : w.heap.size ≤ g0 := HBg.out
  obtain ⟨F, hF⟩ : ∃ F : Nat → Nat → Int, F = fun k _ => z0.getD k 0 := ⟨_, rfl⟩
  rw [← hF] at L0 L1
  have HF := Lib.hid (show ∀ k, z0.getD k 0 = F k 1 from fun k => by rw [hF])
  clear hF S0 S1 HBg hg0 hg1
  go_wp2_with fail
  refine (swap11 g0 n0 n0 i j F v1 L0.out hi hj (by omega)).mono ?_
  rintro e x1 ⟨rfl, ha, hg, hs⟩
  replace L0 := Lib.hid ha
  replace L1 := Lib.hid (L1.out.grown hg (by intro e; injection e with e; omega))
  replace K0 := Lib.hid (kept K0.out hg X0.out (by omega))
  replace HB := Lib.hid (HB.out.trans (grown_below hg (by omega) HB.out.size))
  clear ha hg hs
  go_wp2_with fail
  refine (swap11 g1 n0 n0 j i F x1 L1.out hj hi (by omega)).mono ?_
  rintro e x2 ⟨rfl, ha, hg, hs⟩
  replace L1 := Lib.hid ha
  replace L0 := Lib.hid (L0.out.grown hg (by intro e; injection e with e; omega))
  replace K0 := Lib.hid (kept K0.out hg X0.out (by omega))
  replace HB := Lib.hid (HB.out.trans (grown_below hg (by omega) HB.out.size))
  clear ha hg hs
  go_wp2_with fail
  go_loopw [10] (fun i wr => ∃ k : Nat, k ≤ n0 ∧ i = .int .i64 k ∧ Below x2.heap.size x2 wr) (fun i _ => n0 - (intOf i).toNat)
  case atStart => exact ⟨0, Nat.zero_le _, rfl, Below.refl _ _⟩
  case round =>
    obtain ⟨k, hk, rfl, hbel⟩ := hrel
    have HBQ := Lib.hid hbel
    by_cases hlt : k < n0
    · have hsw : ∀ l, swp F j i k l = swp F i j k l := by
        intro l
        by_cases e1 : k = j
        · by_cases e2 : k = i
          · subst e1; subst e2; rfl
          · subst e1; simp [swp, e2]
        · by_cases e2 : k = i
          · subst e2; simp [swp, e1]
          · simp [swp, e1, e2]
      have NEW := Lib.hid (show ∀ W : World, Below x2.heap.size x2 W → (W.cell? ⟨g0, k * 2, none⟩ = some (.slice none 0 0) ∧ W.cell? ⟨g0, k * 2 + 1, none⟩ = some (.int .u32 (swp F i j k 1)) ∧ W.cell? ⟨g1, k * 2, none⟩ = some (.slice none 0 0) ∧ W.cell? ⟨g1, k * 2 + 1, none⟩ = some (.int .u32 (swp F i j k 1))) from
        fun W hW => ⟨(L0.out.below hW L0.out.lt).cell k 0 hlt (by omega), (L0.out.below hW L0.out.lt).cell k 1 hlt (by omega), (L1.out.below hW L1.out.lt).cell k 0 hlt (by omega), by rw [← hsw]; exact (L1.out.below hW L1.out.lt).cell k 1 hlt (by omega)⟩)
      generalize swp F i j k 1 = y at NEW
      obtain ⟨a0, a1, b0, b1⟩ := NEW.out wr hbel
      have hyy : (y != y) = false := by simp
      clear hbel hsw
      go_wp2_with fail
      go_region_held3 (fun w' => w'.cell? ⟨g0, k * 2, none⟩ = some (.slice none 0 0) ∧ w'.cell? ⟨g0, k * 2 + 1, none⟩ = some (.int .u32 y) ∧ w'.cell? ⟨g1, k * 2, none⟩ = some (.slice none 0 0) ∧ w'.cell? ⟨g1, k * 2 + 1, none⟩ = some (.int .u32 y)) (first | exact NEW.out _ HB'.out | exact ⟨a0, a1, b0, b1⟩)
        (first | (go_at_call 12; refine (chunk12 y _).mono ?_; rintro e w' ⟨rfl, hb⟩; first | (have HB' := Lib.hid (HB'.out.trans (hb.mono HB'.out.size)); clear hb) | (have HB' := Lib.hid (HBQ.out.drew.trans (hb.mono HBQ.out.size)); clear hb)))
      all_goals
        go_wp2
        go_roundw
        case rel => exact ⟨k + 1, by omega, by go_num, HB'.out⟩
        case measure => simp [intOf]; omega
    · have M0 := Lib.hid (L0.out.below hbel L0.out.lt)
      have N0 := Lib.hid (K0.out.later hbel)
      have HC := Lib.hid (HB.out.trans (hbel.mono HB.out.size))
      clear hbel HBQ L0 L1 K0 HB
      go_wp2_with fail
      refine (swap11 g0 n0 n0 i j (swp F i j) wr M0.out hi hj (by omega)).mono ?_
      rintro e x3 ⟨rfl, ha, hg, hs⟩
      have L0 := Lib.hid (ha.congr (F' := F) (by
        intro k l hk hl
        by_cases e1 : k = j
        · subst e1
          by_cases e2 : i = k
          · subst e2; simp [swp]
          · simp [swp, e2]
        · by_cases e2 : k = i
          · subst e2; simp [swp, e1]
          · simp [swp, e1, e2]))
      have K0 := Lib.hid (kept N0.out hg X0.out (by omega))
      have HB := Lib.hid (HC.out.trans (grown_below hg (by omega) HC.out.size))
      clear ha hg hs M0 N0 HC
      go_wp2_with fail
      go_loopw [11] (fun i wr => ∃ k : Nat, k ≤ n0 ∧ i = .int .i64 k ∧ Below x3.heap.size x3 wr) (fun i _ => n0 - (intOf i).toNat)
      case atStart => exact ⟨0, Nat.zero_le _, rfl, Below.refl _ _⟩
      case round =>
        obtain ⟨k, hk, rfl, hbel⟩ := hrel
        have HBQ := Lib.hid hbel
        by_cases hlt : k < n0
        · obtain ⟨b0, o0, ha0, hb0, hc0⟩ := K0.out.read k hlt
          subst ha0
          rw [HF.out k] at hc0
          have NEW := Lib.hid (show ∀ W : World, Below x3.heap.size x3 W → (W.cell? ⟨g0, k * 2, none⟩ = some (.slice none 0 0) ∧ W.cell? ⟨g0, k * 2 + 1, none⟩ = some (.int .u32 (F k 1)) ∧ W.cell? ⟨b0, o0 + k, none⟩ = some (.int .u32 (F k 1))) from
            fun W hW => ⟨(L0.out.below hW L0.out.lt).cell k 0 hlt (by omega), (L0.out.below hW L0.out.lt).cell k 1 hlt (by omega), cell_later hW hc0⟩)
          generalize F k 1 = y at NEW
          obtain ⟨a0, a1, b1⟩ := NEW.out wr hbel
          have hyy : (y != y) = false := by simp
          clear hbel hc0
          go_wp2_with fail
          go_region_held3 (fun w' => w'.cell? ⟨g0, k * 2, none⟩ = some (.slice none 0 0) ∧ w'.cell? ⟨g0, k * 2 + 1, none⟩ = some (.int .u32 y) ∧ w'.cell? ⟨b0, o0 + k, none⟩ = some (.int .u32 y)) (first | exact NEW.out _ HB'.out | exact ⟨a0, a1, b1⟩)
            (first | (go_at_call 12; refine (chunk12 y _).mono ?_; rintro e w' ⟨rfl, hb⟩; have HB' := Lib.hid (HBQ.out.drew.trans (hb.mono HBQ.out.size)); clear hb))
          all_goals
            go_wp2
            go_roundw
            case rel => exact ⟨k + 1, by omega, by go_num, HB'.out⟩
            case measure => simp [intOf]; omega
        · go_wp2
          go_ret
          exact ⟨rfl, HB.out.trans (HBQ.out.mono HB.out.size)⟩
end Go.Proofs.Ytjgomgagaolhgab.CcL
