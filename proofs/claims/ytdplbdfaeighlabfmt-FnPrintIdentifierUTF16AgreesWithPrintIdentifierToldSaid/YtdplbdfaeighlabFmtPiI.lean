/- FnPrintIdentifierUTF16AgreesWithPrintIdentifier: the law. -/
import Derived.Test.YtdplbdfaeighlabFmtRows
import Derived.Test.YtdplbdfaeighlabFmtMem
import Derived.Test.YtdplbdfaeighlabFmtSl
import Derived.Test.YtdplbdfaeighlabFmtPiH
import Derived.Test.YtdplbdfaeighlabFmtArgs
import Derived.WalkKit
import Derived.ProofKit
import Derived.OpenShut
import Derived.Below
import Derived.WalkLawsBesides
import Derived.Lib.Hide
import Derived.Outline
import Derived.RegionTactic
import Derived.Deep.QuietTactic
import Derived.BigQuiet
import Derived.WalkSpells
import Derived.Deep.OwnRows
import Derived.IntWalk
import Derived.Deep.DeepMust
namespace Go.Proofs.YtdplbdfaeighlabFmt.PiI
open Go.RowKit Mem Sl
set_option linter.unusedVariables false
open Prn Pru Own Owg Args PiA PiB PiC PiD PiE PiF PiG PiH

/-- A clone of units. -/
structure Cl (w : World) (n : Nat) (zs : List Int) (A' : Option Addr) (c' : Nat) (w' : World) : Prop where
  ints : IsInts .u16 w' A' n c' zs
  top : ∀ b off, A' = some ⟨b, off, none⟩ → b < w'.heap.size
  bel : Below w.heap.size w w'
theorem cl_of {w w' : World} {A : Option Addr} {n c : Nat} {zs : List Int} {e : Ending} (h : IsInts .u16 w A n c zs) (hc : Cloned .u16 25 w A n zs e w') : ∃ A' c', e = .returned (.slice A' n c') ∧ Cl w n zs A' c' w' := by
  obtain ⟨v, rfl, hc⟩ := hc
  obtain ⟨h1, h2, h3, h4, h5, h6⟩ := h
  rcases hc with ⟨rfl, rfl, rfl⟩ | ⟨_, rfl, hr, hb, _⟩
  · have hc := h5 rfl
    subst hc
    obtain rfl : n = 0 := by omega
    obtain rfl : zs = [] := List.eq_nil_of_length_eq_zero h3
    exact ⟨none, 0, rfl, ⟨h1, h2, h3, h4, h5, h6⟩, (fun b off e => by cases e), Below.refl _ _⟩
  · subst h3
    refine ⟨_, _, rfl, ints_of_row hr (Nat.le_trans h1 h2) h4, fun b off e => ?_, hb⟩
    injection e with e
    injection e with e1 e2
    subst e1
    exact hr.lt
/-- What the law's tail starts from. -/
structure Prem (U : List Int) (a : Bool) (n : Nat) : Prop where
  wf : Wf U
  nop : a = true → NoPair U
  low : a = true → ∀ z ∈ U, 32 ≤ z ∧ z ≤ 65535
  len : U.length = n
  n20 : n ≤ 524288
theorem Prem.same {U : List Int} {n : Nat} (h : Prem U true n) : cps U = U := cps_same _ U (Nat.le_refl _) (h.nop rfl)
theorem Prem.cps_low {U : List Int} {a : Bool} {n : Nat} (h : Prem U a n) : a = true → ∀ z ∈ cps U, 32 ≤ z ∧ z ≤ 65535 := by
  rintro rfl
  rw [h.same]
  exact h.low rfl
theorem Prem.cps_len {U : List Int} {a : Bool} {n : Nat} (h : Prem U a n) : (cps U).length ≤ 524288 := by
  have h1 := PiA.cps_len _ U (Nat.le_refl _)
  have h2 := h.len
  have h3 := h.n20
  omega
theorem Prem.out_wf {U : List Int} {a : Bool} {n : Nat} (h : Prem U a n) : ∀ z ∈ outA a (cps U), (Lit.int .u8 z).wf = true := outA_wf h.wf (fun e z hz => (h.cps_low e z hz).2)
theorem pr_below {w w' : World} {p : Nat} {cs : List Value} {v : Value} {Z : List Int} (h : Pr w p 84 9 5 cs v Z) (hb : Below w.heap.size w w') : Pr w' p 84 9 5 cs v Z := ⟨h.row.below hb h.row.lt, h.at_, h.buf.below hb (Nat.le_refl _)⟩

set_option maxRecDepth 100000 in
set_option maxHeartbeats 16000000 in
theorem law (A0 : Option Addr) (n0 c0 : Nat) (z0 : List Int) (a1 : Bool) (w : World) (w0 : Args.IsInts .u16 w A0 n0 c0 z0) (_ : True) :
    Calls Tryf.prog 3 #[.slice A0 n0 c0, .bool a1] w fun e w' => e = .returned (.bool true) ∧ Below w.heap.size w w' := by
  have H4 := Lib.hid (bytes4 A0 n0 c0 a1 w (Nat.le_trans w0.1 w0.2.1))
  have HI := Lib.hid w0
  have HU := Lib.hid (u16_of w0)
  have HLEN := Lib.hid w0.2.2.1
  have hm : n0 ≤ maxLen := Nat.le_trans w0.1 w0.2.1
  unfold maxLen at hm
  clear w0
  go_enter Tryf.func3, Tryf.ntmps3
  go_wp2_with fail
  refine H4.out.mono ?_
  rintro e wx ⟨rfl, rfl⟩
  by_cases h20 : n0 ≤ 1048576
  case neg =>
    have d20 : decide (n0 ≤ 1048576) = false := by simp; omega
    rw [d20]
    go_wp2_with fail
    go_ret
    exact ⟨rfl, Below.refl _ _⟩
  have d20 : decide (n0 ≤ 1048576) = true := by simp; omega
  rw [d20]
  by_cases h19 : n0 ≤ 524288
  case neg =>
    have d19 : decide ((524288 : Int) < (n0 : Int)) = true := by simp; omega
    go_wp2_with fail
    go_ret
    exact ⟨rfl, Below.refl _ _⟩
  have d19 : decide ((524288 : Int) < (n0 : Int)) = false := by simp; omega
  have hm2 : n0 ≤ 1048576 := by omega
  go_wp2_with fail
  refine (lone5 A0 n0 c0 z0 w HI.out hm2).mono ?_
  rintro e wx ⟨b, rfl, hb, rfl⟩
  cases b with
  | true =>
    go_wp2_with fail
    go_ret
    exact ⟨rfl, Below.refl _ _⟩
  | false =>
  have HW := Lib.hid (hb rfl)
  clear hb
  cases a1 with
  | false =>
    have HPM := Lib.hid (show Prem z0 false n0 from ⟨HW.out, (fun e => by cases e), (fun e => by cases e), HLEN.out, h19⟩)
    go_wp2_with fail
    refine (clone7 A0 n0 c0 z0 w HI.out hm2).mono ?_
    intro e w1 hc
    obtain ⟨A1, c1, rfl, hcl⟩ := cl_of HI.out hc
    have HCL := Lib.hid hcl
    clear hc hcl
    go_wp2_with fail
    refine (utf8 A1 n0 c1 z0 w1 HCL.out.ints hm2 HPM.out.wf).mono ?_
    rintro e w2 ⟨v2, rfl, ho2, hb2⟩
    obtain ⟨A2, c2, rfl, hi2⟩ := ho2.ints (bytes8_wf HPM.out.wf)
    have hcv := Str.run_string (P := Tryf.prog) Tryf.underlying27 Tryf.underlying5 Tryf.underlying9 hi2
    have HB2 := Lib.hid hb2
    have HTX := Lib.hid (show Str.bytesOf (bytes8 (cps z0)) = txt (cps z0) from rfl)
    rw [HTX.out] at hcv
    clear ho2 hb2 hi2 HTX
    go_wp2_with fail
    refine (new9 false w2).mono ?_
    rintro e w3 ⟨p, cs, rfl, hf3⟩
    have HF3 := Lib.hid hf3
    clear hf3
    go_wp2_with fail
    refine (piu10 w2.heap.size p false A1 n0 c1 z0 cs w3 ((HCL.out.ints.later HB2.out).later HF3.out.bel) (fun b off e => Nat.lt_of_lt_of_le (HCL.out.top b off e) HB2.out.size) hm2 HPM.out.wf HPM.out.nop HF3.out.pr HF3.out.a31 HF3.out.le HF3.out.bel.size).mono ?_
    rintro e w4 ⟨rfl, v4, hpr4, hb4⟩
    have HP4 := Lib.hid hpr4
    have HB4 := Lib.hid hb4
    clear hpr4 hb4
    go_wp2_with fail
    refine (new9 false w4).mono ?_
    rintro e w5 ⟨q, ds, rfl, hf5⟩
    have HF5 := Lib.hid hf5
    clear hf5
    go_wp2_with fail
    refine (prid11 false (cps z0) w4.heap.size q ds w5 HPM.out.wf HPM.out.cps_low (Nat.le_trans HPM.out.cps_len (by decide)) HF5.out.pr HF5.out.a31 HF5.out.a24 HF5.out.le HF5.out.bel.size).mono ?_
    rintro e w6 ⟨rfl, v6, hpr6, hb6⟩
    have hp4 := pr_below HP4.out (HF5.out.bel.trans hb6)
    obtain ⟨A6, c6, rfl, hi6, _⟩ := hpr6.buf.ints (by have h1 := outA_len false (cps z0); have h2 := HPM.out.cps_len; unfold maxLen; omega) HPM.out.out_wf
    obtain ⟨A4, c4, rfl, hi4, _⟩ := hp4.buf.ints (by have h1 := outA_len false (cps z0); have h2 := HPM.out.cps_len; unfold maxLen; omega) HPM.out.out_wf
    have J6 := Lib.hid (js13 q _ w6 (hpr6.row.at_ hpr6.at_))
    have J4 := Lib.hid (js13 p _ w6 (hp4.row.at_ hp4.at_))
    have HSM := Lib.hid (same12 A4 A6 _ c4 c6 _ w6 hi4 hi6 (by have h1 := outA_len false (cps z0); have h2 := HPM.out.cps_len; omega))
    have HBB := Lib.hid (show Below w.heap.size w w6 from HCL.out.bel.trans ((HB2.out.mono HCL.out.bel.size).trans ((HF3.out.bel.mono (Nat.le_trans HCL.out.bel.size HB2.out.size)).trans ((HB4.out.mono (Nat.le_trans HCL.out.bel.size HB2.out.size)).trans ((HF5.out.bel.mono (Nat.le_trans HCL.out.bel.size (Nat.le_trans HB2.out.size (Nat.le_trans HF3.out.bel.size HB4.out.size)))).trans (hb6.mono (Nat.le_trans HCL.out.bel.size (Nat.le_trans HB2.out.size (Nat.le_trans HF3.out.bel.size HB4.out.size)))))))))
    clear hp4 hpr6 hb6 hi6 hi4
    go_wp2_with (first | (refine J4.out.mono ?_; rintro e wq ⟨rfl, rfl⟩) | (refine J6.out.mono ?_; rintro e wq ⟨rfl, rfl⟩) | (go_at_call 13; (first | (with_reducible refine J4.out.mono ?_) | (with_reducible refine J6.out.mono ?_)); rintro e wq ⟨rfl, rfl⟩) | (go_at_call 12; (with_reducible refine HSM.out.mono ?_); rintro e wq ⟨rfl, m, rfl⟩) | (refine HSM.out.mono ?_; rintro e wq ⟨rfl, m, rfl⟩))
    go_ret
    exact ⟨rfl, below_drewN HBB.out _⟩
  | true =>
    go_wp2_with fail
    refine (pair6 A0 n0 c0 z0 w HI.out hm2).mono ?_
    rintro e wx ⟨b, rfl, hb, rfl⟩
    cases b with
    | true =>
      go_wp2_with fail
      go_ret
      exact ⟨rfl, Below.refl _ _⟩
    | false =>
    have HNP := Lib.hid (hb rfl)
    clear hb
    have R := Lib.hid (fun k => HI.out.read k)
    go_wp2_with fail
    go_loop [5] (fun i => ∃ (k : Nat), k ≤ n0 ∧ i = .int .i64 (k : Int) ∧ Hid (∀ j, j < k → 32 ≤ z0.getD j 0)) (fun i => n0 - (intOf i).toNat)
    case atStart => exact ⟨0, Nat.zero_le _, rfl, fun j hj => absurd hj (by omega)⟩
    case round =>
      obtain ⟨k, hk, rfl, HL⟩ := hrel
      by_cases hlt : k < n0
      · obtain ⟨b, o, ha, hb, hc⟩ := R.out k hlt
        subst ha
        obtain ⟨z1, z2⟩ := HU.out.at_ k (by have := HLEN.out; omega)
        obtain ⟨x, hx⟩ : ∃ x, x = z0.getD k 0 := ⟨_, rfl⟩
        rw [← hx] at hc z1 z2
        by_cases h32 : x < 32
        · have d32 : decide (x < 32) = true := by simp; omega
          clear hx
          go_wp2_with fail
          go_ret
          exact ⟨rfl, Below.refl _ _⟩
        · have d32 : decide (x < 32) = false := by simp; omega
          have HN := Lib.hid (show ∀ j, j < k + 1 → 32 ≤ z0.getD j 0 by
            intro j hj
            by_cases e : j = k
            · subst e; rw [← hx]; omega
            · exact HL.out j (by omega))
          clear hx
          go_wp2_with fail
          go_round
          case rel => exact ⟨k + 1, by omega, by go_num, HN.out⟩
          case measure => simp [intOf]; omega
      · obtain rfl : k = n0 := by omega
        have HPM := Lib.hid (show Prem z0 true k from ⟨HW.out, fun _ => HNP.out, (fun _ z hz => by
          obtain ⟨i, hi, rfl⟩ := List.mem_iff_getElem.1 hz
          have h1 := HL.out i (by have := HLEN.out; omega)
          have h2 := HU.out.at_ i hi
          simp only [List.getD, List.getElem?_eq_getElem hi, Option.getD_some] at h1 h2
          omega), HLEN.out, h19⟩)
        clear HL
        go_wp2_with fail
        refine (clone7 A0 k c0 z0 w HI.out hm2).mono ?_
        intro e w1 hc
        obtain ⟨A1, c1, rfl, hcl⟩ := cl_of HI.out hc
        have HCL := Lib.hid hcl
        clear hc hcl
        go_wp2_with fail
        refine (utf8 A1 k c1 z0 w1 HCL.out.ints hm2 HPM.out.wf).mono ?_
        rintro e w2 ⟨v2, rfl, ho2, hb2⟩
        obtain ⟨A2, c2, rfl, hi2⟩ := ho2.ints (bytes8_wf HPM.out.wf)
        have hcv := Str.run_string (P := Tryf.prog) Tryf.underlying27 Tryf.underlying5 Tryf.underlying9 hi2
        have HB2 := Lib.hid hb2
        have HTX := Lib.hid (show Str.bytesOf (bytes8 (cps z0)) = txt (cps z0) from rfl)
        rw [HTX.out] at hcv
        clear ho2 hb2 hi2 HTX
        go_wp2_with fail
        refine (new9 true w2).mono ?_
        rintro e w3 ⟨p, cs, rfl, hf3⟩
        have HF3 := Lib.hid hf3
        clear hf3
        go_wp2_with fail
        refine (piu10 w2.heap.size p true A1 k c1 z0 cs w3 ((HCL.out.ints.later HB2.out).later HF3.out.bel) (fun b off e => Nat.lt_of_lt_of_le (HCL.out.top b off e) HB2.out.size) hm2 HPM.out.wf HPM.out.nop HF3.out.pr HF3.out.a31 HF3.out.le HF3.out.bel.size).mono ?_
        rintro e w4 ⟨rfl, v4, hpr4, hb4⟩
        have HP4 := Lib.hid hpr4
        have HB4 := Lib.hid hb4
        clear hpr4 hb4
        go_wp2_with fail
        refine (new9 true w4).mono ?_
        rintro e w5 ⟨q, ds, rfl, hf5⟩
        have HF5 := Lib.hid hf5
        clear hf5
        go_wp2_with fail
        refine (prid11 true (cps z0) w4.heap.size q ds w5 HPM.out.wf HPM.out.cps_low (Nat.le_trans HPM.out.cps_len (by decide)) HF5.out.pr HF5.out.a31 HF5.out.a24 HF5.out.le HF5.out.bel.size).mono ?_
        rintro e w6 ⟨rfl, v6, hpr6, hb6⟩
        have hp4 := pr_below HP4.out (HF5.out.bel.trans hb6)
        obtain ⟨A6, c6, rfl, hi6, _⟩ := hpr6.buf.ints (by have h1 := outA_len true (cps z0); have h2 := HPM.out.cps_len; unfold maxLen; omega) HPM.out.out_wf
        obtain ⟨A4, c4, rfl, hi4, _⟩ := hp4.buf.ints (by have h1 := outA_len true (cps z0); have h2 := HPM.out.cps_len; unfold maxLen; omega) HPM.out.out_wf
        have J6 := Lib.hid (js13 q _ w6 (hpr6.row.at_ hpr6.at_))
        have J4 := Lib.hid (js13 p _ w6 (hp4.row.at_ hp4.at_))
        have HSM := Lib.hid (same12 A4 A6 _ c4 c6 _ w6 hi4 hi6 (by have h1 := outA_len true (cps z0); have h2 := HPM.out.cps_len; omega))
        have HBB := Lib.hid (show Below w.heap.size w w6 from HCL.out.bel.trans ((HB2.out.mono HCL.out.bel.size).trans ((HF3.out.bel.mono (Nat.le_trans HCL.out.bel.size HB2.out.size)).trans ((HB4.out.mono (Nat.le_trans HCL.out.bel.size HB2.out.size)).trans ((HF5.out.bel.mono (Nat.le_trans HCL.out.bel.size (Nat.le_trans HB2.out.size (Nat.le_trans HF3.out.bel.size HB4.out.size)))).trans (hb6.mono (Nat.le_trans HCL.out.bel.size (Nat.le_trans HB2.out.size (Nat.le_trans HF3.out.bel.size HB4.out.size)))))))))
        clear hp4 hpr6 hb6 hi6 hi4
        go_wp2_with (first | (refine J4.out.mono ?_; rintro e wq ⟨rfl, rfl⟩) | (refine J6.out.mono ?_; rintro e wq ⟨rfl, rfl⟩) | (go_at_call 13; (first | (with_reducible refine J4.out.mono ?_) | (with_reducible refine J6.out.mono ?_)); rintro e wq ⟨rfl, rfl⟩) | (go_at_call 12; (with_reducible refine HSM.out.mono ?_); rintro e wq ⟨rfl, m, rfl⟩) | (refine HSM.out.mono ?_; rintro e wq ⟨rfl, m, rfl⟩))
        go_ret
        exact ⟨rfl, below_drewN HBB.out _⟩

theorem of_laid {w : World} (_h : laidMetH Tryf.prog Rows.fnPrintIdentifierUTF16AgreesWithPrintIdentifierRow.laid w) : True := trivial
end Go.Proofs.YtdplbdfaeighlabFmt.PiI
