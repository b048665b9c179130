/- FnPrintIdentifierUTF16AgreesWithPrintIdentifier: printIdentifierUTF16. -/
import Derived.Test.YtdplbdfaeighlabFmtRows
import Derived.Test.YtdplbdfaeighlabFmtMem
import Derived.Test.YtdplbdfaeighlabFmtSl
import Derived.Test.YtdplbdfaeighlabFmtPiD
import Derived.Great.BuildSlice
import Derived.Deep.RegionLaw
import Derived.Deep.RegionHeld3
import Derived.BigRegion
import Derived.WalkKit
import Derived.ProofKit
import Derived.OpenShut
import Derived.Below
import Derived.WalkLawsBesides
import Derived.Lib.Hide
import Derived.Outline
import Derived.RegionTactic
import Derived.Deep.QuietTactic
import Derived.BigQuiet
import Derived.WalkSpells
import Derived.Deep.OwnRows
import Derived.IntWalk
import Derived.Deep.DeepMust
namespace Go.Proofs.YtdplbdfaeighlabFmt.PiE
open Go.RowKit Mem Sl
set_option linter.unusedVariables false
open Prn Pru Own Owg Args PiA PiB PiC PiD

theorem idxH0 : ∀ W : World, (Instr.index 9 (.string ⟨#[48, 49, 50, 51, 52, 53, 54, 55, 56, 57, 65, 66, 67, 68, 69, 70]⟩) (.int .i32 0)).run Tryf.prog W = .ok (.int .u8 48) W := fun _ => by kernel_rfl
theorem idxH1 : ∀ W : World, (Instr.index 9 (.string ⟨#[48, 49, 50, 51, 52, 53, 54, 55, 56, 57, 65, 66, 67, 68, 69, 70]⟩) (.int .i32 1)).run Tryf.prog W = .ok (.int .u8 49) W := fun _ => by kernel_rfl
theorem idxH2 : ∀ W : World, (Instr.index 9 (.string ⟨#[48, 49, 50, 51, 52, 53, 54, 55, 56, 57, 65, 66, 67, 68, 69, 70]⟩) (.int .i32 2)).run Tryf.prog W = .ok (.int .u8 50) W := fun _ => by kernel_rfl
theorem idxH3 : ∀ W : World, (Instr.index 9 (.string ⟨#[48, 49, 50, 51, 52, 53, 54, 55, 56, 57, 65, 66, 67, 68, 69, 70]⟩) (.int .i32 3)).run Tryf.prog W = .ok (.int .u8 51) W := fun _ => by kernel_rfl
theorem idxH4 : ∀ W : World, (Instr.index 9 (.string ⟨#[48, 49, 50, 51, 52, 53, 54, 55, 56, 57, 65, 66, 67, 68, 69, 70]⟩) (.int .i32 4)).run Tryf.prog W = .ok (.int .u8 52) W := fun _ => by kernel_rfl
theorem idxH5 : ∀ W : World, (Instr.index 9 (.string ⟨#[48, 49, 50, 51, 52, 53, 54, 55, 56, 57, 65, 66, 67, 68, 69, 70]⟩) (.int .i32 5)).run Tryf.prog W = .ok (.int .u8 53) W := fun _ => by kernel_rfl
theorem idxH6 : ∀ W : World, (Instr.index 9 (.string ⟨#[48, 49, 50, 51, 52, 53, 54, 55, 56, 57, 65, 66, 67, 68, 69, 70]⟩) (.int .i32 6)).run Tryf.prog W = .ok (.int .u8 54) W := fun _ => by kernel_rfl
theorem idxH7 : ∀ W : World, (Instr.index 9 (.string ⟨#[48, 49, 50, 51, 52, 53, 54, 55, 56, 57, 65, 66, 67, 68, 69, 70]⟩) (.int .i32 7)).run Tryf.prog W = .ok (.int .u8 55) W := fun _ => by kernel_rfl
theorem idxH8 : ∀ W : World, (Instr.index 9 (.string ⟨#[48, 49, 50, 51, 52, 53, 54, 55, 56, 57, 65, 66, 67, 68, 69, 70]⟩) (.int .i32 8)).run Tryf.prog W = .ok (.int .u8 56) W := fun _ => by kernel_rfl
theorem idxH9 : ∀ W : World, (Instr.index 9 (.string ⟨#[48, 49, 50, 51, 52, 53, 54, 55, 56, 57, 65, 66, 67, 68, 69, 70]⟩) (.int .i32 9)).run Tryf.prog W = .ok (.int .u8 57) W := fun _ => by kernel_rfl
theorem idxH10 : ∀ W : World, (Instr.index 9 (.string ⟨#[48, 49, 50, 51, 52, 53, 54, 55, 56, 57, 65, 66, 67, 68, 69, 70]⟩) (.int .i32 10)).run Tryf.prog W = .ok (.int .u8 65) W := fun _ => by kernel_rfl
theorem idxH11 : ∀ W : World, (Instr.index 9 (.string ⟨#[48, 49, 50, 51, 52, 53, 54, 55, 56, 57, 65, 66, 67, 68, 69, 70]⟩) (.int .i32 11)).run Tryf.prog W = .ok (.int .u8 66) W := fun _ => by kernel_rfl
theorem idxH12 : ∀ W : World, (Instr.index 9 (.string ⟨#[48, 49, 50, 51, 52, 53, 54, 55, 56, 57, 65, 66, 67, 68, 69, 70]⟩) (.int .i32 12)).run Tryf.prog W = .ok (.int .u8 67) W := fun _ => by kernel_rfl
theorem idxH13 : ∀ W : World, (Instr.index 9 (.string ⟨#[48, 49, 50, 51, 52, 53, 54, 55, 56, 57, 65, 66, 67, 68, 69, 70]⟩) (.int .i32 13)).run Tryf.prog W = .ok (.int .u8 68) W := fun _ => by kernel_rfl
theorem idxH14 : ∀ W : World, (Instr.index 9 (.string ⟨#[48, 49, 50, 51, 52, 53, 54, 55, 56, 57, 65, 66, 67, 68, 69, 70]⟩) (.int .i32 14)).run Tryf.prog W = .ok (.int .u8 69) W := fun _ => by kernel_rfl
theorem idxH15 : ∀ W : World, (Instr.index 9 (.string ⟨#[48, 49, 50, 51, 52, 53, 54, 55, 56, 57, 65, 66, 67, 68, 69, 70]⟩) (.int .i32 15)).run Tryf.prog W = .ok (.int .u8 70) W := fun _ => by kernel_rfl
theorem idxH (d : Int) (h0 : 0 ≤ d) (h1 : d < 16) (W : World) : (Instr.index 9 (.string ⟨#[48, 49, 50, 51, 52, 53, 54, 55, 56, 57, 65, 66, 67, 68, 69, 70]⟩) (.int .i32 d)).run Tryf.prog W = .ok (.int .u8 (hx d)) W := by
  have hd : d = 0 ∨ d = 1 ∨ d = 2 ∨ d = 3 ∨ d = 4 ∨ d = 5 ∨ d = 6 ∨ d = 7 ∨ d = 8 ∨ d = 9 ∨ d = 10 ∨ d = 11 ∨ d = 12 ∨ d = 13 ∨ d = 14 ∨ d = 15 := by omega
  rcases hd with rfl | rfl | rfl | rfl | rfl | rfl | rfl | rfl | rfl | rfl | rfl | rfl | rfl | rfl | rfl | rfl
  · exact idxH0 W
  · exact idxH1 W
  · exact idxH2 W
  · exact idxH3 W
  · exact idxH4 W
  · exact idxH5 W
  · exact idxH6 W
  · exact idxH7 W
  · exact idxH8 W
  · exact idxH9 W
  · exact idxH10 W
  · exact idxH11 W
  · exact idxH12 W
  · exact idxH13 W
  · exact idxH14 W
  · exact idxH15 W
/-- At the head of a round: the code points P of the first k units are printed. -/
def R17 (w : World) (p : Nat) (cs : List Value) (v : Value) (Z U : List Int) (a : Bool) (n : Nat) (i : Value) (wr : World) : Prop :=
  ∃ (k : Nat) (P : List Int) (v' : Value) (D : List Int) (wv : World), wv = wr ∧ k ≤ n ∧ P.length ≤ k ∧ i = .int .i64 (k : Int) ∧ cps U = P ++ cps (U.drop k) ∧ Pr wr p 84 9 5 (cs.set 9 v') v' (Z ++ outA a P) ∧ T4 wr w.heap.size D ∧ Step p w v wr v'
theorem t4_ne {w : World} {T : Nat} {D : List Int} {v : Value} {zs : List Int} (h : T4 w T D) (hb : Buf w 5 v zs) : v.ownBlock ≠ some T := by
  obtain ⟨ys, _, hr⟩ := h
  exact hb.ne hr (by decide)
theorem t4_lt {w : World} {T : Nat} {D : List Int} (h : T4 w T D) : T < w.heap.size := by
  obtain ⟨ys, _, hr⟩ := h
  exact hr.lt
theorem t4_cells {w : World} {T : Nat} {D : List Int} (h : T4 w T D) (j : Nat) (hj : j < D.length) : w.cell? ((⟨T, 0, none⟩ : Addr).add j) = some (.int .u8 (D.getD j 0)) := by
  obtain ⟨ys, _, hr⟩ := h
  have hadd : (⟨T, 0, none⟩ : Addr).add j = ⟨T, j, none⟩ := by unfold Addr.add; split <;> simp_all
  rw [hadd, hr.cell, iv_at .u8 _ j (by simp; omega)]
  simp [List.getD, List.getElem?_append_left hj]
theorem t4_grown {w w' : World} {T : Nat} {D : List Int} {row : Option Nat} (h : T4 w T D) (hg : w.grownBy w' row) (hne : row ≠ some T) : T4 w' T D := by
  obtain ⟨ys, hl, hr⟩ := h
  exact ⟨ys, hl, hr.grown hg (Ne.symm hne)⟩
theorem t4_far {w : World} {T : Nat} {D : List Int} (h : T4 w T D) {q : Addr} (hq : T ≠ q.block) (u : Value) : T4 (w.setCell q u) T D := by
  obtain ⟨ys, hl, hr⟩ := h
  exact ⟨ys, hl, hr.far hq u⟩
theorem slice88 (g m : Nat) (h : m ≤ 4) (W : World) : (Instr.sliceAt 88 (.pointer (some ⟨g, 0, none⟩)) none (some (.int .i64 (m : Int))) none).run Tryf.prog W = .ok (.slice (some ⟨g, 0, none⟩) m 4) W := by
  have ht : Tryf.prog.underlying 88 = some (.array (Tryf.prog.arrayLen 88) (Tryf.prog.elem 88)) := by kernel_rfl
  have hl : Tryf.prog.arrayLen 88 = 4 := by kernel_rfl
  have he : Tryf.prog.elem 88 = 5 := by kernel_rfl
  have hz : (sizeOf 5).run Tryf.prog W = .ok 1 W := Tryf.sizeOf5 W
  rw [run_sliceAt_array_h W 88 ⟨g, 0, none⟩ ht .i64 m (by omega) (by rw [hl]; omega), hl, he, hz]
  simp [Result.andThen_ok, slicedAt, Int.toNat_natCast, Addr.add]
theorem set_set9 (cs : List Value) (v v' : Value) : (cs.set 9 v).set 9 v' = cs.set 9 v' := by simp
theorem one_false (c : Int) : one false c = enc8 c := by simp [one]
theorem one_low (c : Int) (h : c ≤ 126) : one true c = enc8 c := by unfold one; rw [if_neg (by omega)]
theorem one_high (c : Int) (h : 126 < c) : one true c = hex6 c := by unfold one; rw [if_pos ⟨rfl, h⟩]
theorem t4_alloc {w : World} {T : Nat} {D : List Int} (h : T4 w T D) (o : Obj) : T4 (w.alloc o) T D := by
  obtain ⟨ys, hl, hr⟩ := h
  exact ⟨ys, hl, hr.alloc o⟩

set_option maxRecDepth 100000 in
set_option maxHeartbeats 8000000 in
theorem piu17 (B p : Nat) (a : Bool) (A : Option Addr) (n c : Nat) (U : List Int) (cs : List Value) (v : Value) (Z : List Int) (w : World) (h : IsInts .u16 w A n c U) (hA : ∀ b off, A = some ⟨b, off, none⟩ → b < B) (hn : n ≤ 1048576) (hZ : Z.length ≤ 1048576)
    (hw : Wf U) (hno : a = true → NoPair U) (hpr : Pr w p 84 9 5 cs v Z) (h31 : cs[31]? = some (.bool a)) (hp : B ≤ p) (hv : ∀ g, v.ownBlock = some g → B ≤ g) (hB : B ≤ w.heap.size) :
    Calls Tryf.prog 17 #[.pointer (some ⟨p, 0, none⟩), .slice A n c] w fun e w' => e = .returned (.tuple #[]) ∧ Printed w p 84 9 5 cs v (Z ++ outA a (cps U)) w' := by
  obtain ⟨i0, hi0, hz0, hz1, hz2⟩ := info_parts info5
  have hU := Lib.hid (u16_of h)
  have HLN := Lib.hid h.2.2.1
  have HI := Lib.hid h
  have HA := Lib.hid hA
  have HW := Lib.hid hw
  have HNO := Lib.hid hno
  have HPR0 := Lib.hid hpr
  have HV := Lib.hid hv
  have HZL := Lib.hid hZ
  have hplt := hpr.row.lt
  have H31 := Lib.hid h31
  have hcl : 31 < cs.length := (List.getElem?_eq_some_iff.1 h31).1
  clear h hA hw hno hpr hv h31 hZ
  go_enter Tryf.func17, Tryf.ntmps17
  go_wp2_with fail
  go_loopw [6] (fun i wr => R17 w p cs v Z U a n i wr) (fun i _ => n - (intOf i).toNat)
  case atStart =>
    have hb0 : Below w.heap.size w (w.alloc (.cells #[.int .u8 0, .int .u8 0, .int .u8 0, .int .u8 0] 88)) := (Below.refl _ _).alloc (Nat.le_refl _) _
    have hs0 : cs.set 9 v = cs := by
      apply List.ext_getElem?
      intro i
      rw [List.getElem?_set]
      split
      · rename_i e; subst e; rw [if_pos (by omega)]; exact HPR0.out.at_.symm
      · rfl
    refine ⟨0, [], v, [], _, rfl, Nat.zero_le _, Nat.zero_le _, rfl, by simp, ?_, ⟨[0, 0, 0, 0], rfl, Row.newArr w 88 _⟩, Step.of_below hb0 (Nat.le_refl _)⟩
    rw [hs0]
    simpa [outA] using HPR0.out.alloc (.cells #[.int .u8 0, .int .u8 0, .int .u8 0, .int .u8 0] 88)
  case round =>
    obtain ⟨k, P, v', D, wx, rfl, hk, hpk, rfl, hcp, hpr, ht, hst⟩ := hrel
    have HCP0 := Lib.hid hcp
    have HPR := Lib.hid hpr
    have HT := Lib.hid ht
    have HST := Lib.hid hst
    have HPK := Lib.hid hpk
    have HBQ := Lib.hid (hst.below hp HV.out hB)
    have HLEN := Lib.hid (show (Z ++ outA a P).length ≤ 20000000 by have h1 := outA_len a P; have h2 := HZL.out; simp only [List.length_append]; omega)
    have c31 := hpr.row.at_ (i := 31) (v := .bool a) (by rw [List.getElem?_set_ne (by decide)]; exact H31.out)
    clear hcp hpr ht hst hpk
    by_cases hlt : k < n
    · obtain ⟨b, o, ha, hb, hc⟩ := HI.out.read k hlt
      subst ha
      have hc1 := (HBQ.out.cell (p := ⟨b, o + k, none⟩) (HA.out b o rfl)).trans hc
      have hkl : k < U.length := by have := HLN.out; omega
      obtain ⟨z0, z1⟩ := hU.out.at_ k hkl
      obtain ⟨x, hx⟩ : ∃ x, x = U.getD k 0 := ⟨_, rfl⟩
      rw [← hx] at hc1 z0 z1
      have HX := Lib.hid hx
      have HKL := Lib.hid hkl
      clear hx hkl hb hc
      have wx1 : IntKind.i32.wrap x = x := IntWalk.i32_in _ (by omega)
      by_cases hpair : k + 1 < n ∧ hi x = true ∧ lo (U.getD (k + 1) 0) = true
      · obtain ⟨h2, h1, h3⟩ := hpair
        have hc2 := (HI.out.read (k + 1) h2)
        obtain ⟨b', o', ha', hb', hc'⟩ := hc2
        injection ha' with ha'
        injection ha' with e1 e2
        subst e1 e2
        have hc2 := (HBQ.out.cell (p := ⟨b, o + (k + 1), none⟩) (HA.out b o rfl)).trans hc'
        obtain ⟨y0, y1⟩ := hU.out.at_ (k + 1) (by have := HLN.out; omega)
        obtain ⟨y, hy⟩ : ∃ y, y = U.getD (k + 1) 0 := ⟨_, rfl⟩
        rw [← hy] at hc2 y0 y1 h3
        have HY := Lib.hid hy
        clear hy hb' hc'
        have tl : decide ((k : Int) + 1 < (n : Int)) = true := by simp; omega
        have haf : a = false := by
          cases a with
          | false => rfl
          | true => exact absurd ⟨by rw [← HX.out]; exact h1, by rw [← HY.out]; exact h3⟩ (HNO.out rfl k (by have := HLN.out; omega))
        have hcpn := cps_pair (U := U) (i := k) (by have := HLN.out; omega) (by rw [← HX.out]; exact h1) (by rw [← HY.out]; exact h3)
        rw [← HX.out, ← HY.out] at hcpn
        have HCP := Lib.hid (show cps U = (P ++ [join2 x y]) ++ cps (U.drop (k + 2)) by rw [HCP0.out, hcpn]; simp)
        have HSC := Lib.hid (join_scalar h1 h3).1
        obtain ⟨g1, g2⟩ := hi_true.1 h1
        obtain ⟨g3, g4⟩ := lo_true.1 h3
        have u1 : decide (55296 ≤ x) = true := by simp; omega
        have u2 : decide (x ≤ 56319) = true := by simp; omega
        have u3 : decide (56320 ≤ y) = true := by simp; omega
        have u4 : decide (y ≤ 57343) = true := by simp; omega
        have wy1 : IntKind.i32.wrap y = y := IntWalk.i32_in _ (by omega)
        obtain ⟨J, hJ⟩ : ∃ J, J = join2 x y := ⟨_, rfl⟩
        rw [← hJ] at HCP HSC
        have eJ : x * 1024 + y + -56613888 = J := by rw [hJ]; unfold join2; omega
        have HKN := Lib.hid (show k + 2 ≤ n by omega)
        clear hcpn hJ h1 h3
        subst haf
        go_wp2_with fail
        obtain ⟨m, hm⟩ : ∃ m, m = (enc8 J).length := ⟨_, rfl⟩
        have hm1 : 1 ≤ m := by rw [hm]; exact (enc8_len _).1
        have hm4 : m ≤ 4 := by rw [hm]; exact (enc8_len _).2
        have hK := enc21 w.heap.size J D wx HT.out HSC.out
        unfold Encd at hK
        rw [← hm] at hK
        have K21 := Lib.hid hK
        have HM := Lib.hid hm
        clear hm hK
        go_wp2_with (go_at_call 21; (with_reducible refine K21.out.mono ?_); rintro e w2 ⟨rfl, ht2, hg2, hs2⟩; have HT2 := Lib.hid ht2; have HG2 := Lib.hid hg2; have HS2 := Lib.hid hs2; clear ht2 hg2 hs2)
        have HP2 := Lib.hid (HPR.out.other HG2.out (by omega : p ≠ w.heap.size) (t4_ne HT.out HPR.out.buf))
        obtain ⟨v5, w5, hrun, hbuf5, hgr5, hat5⟩ := run_append_ints_at (P := Tryf.prog) w2.drew 27 27 5 i0 Tryf.underlying27 hi0 hz0 hz1 hz2 v' (Z ++ outA false P) HP2.out.drew.buf ⟨w.heap.size, 0, none⟩ m 4 (enc8 J) HM.out.symm (fun j hj => t4_cells HT2.out j (by rw [← HM.out]; exact hj)) (by have := HLEN.out; omega)
        obtain ⟨k1, k2, k3, k4⟩ := (HP2.out.drew).store (by decide) hbuf5 (.of_grown hgr5 hat5) hgr5
        rw [set_set9] at k1
        obtain ⟨A5, cc5, hv5⟩ := hbuf5.form
        have HT5 := Lib.hid (t4_far (q := ⟨p, 9, none⟩) (t4_grown (show T4 w2.drew w.heap.size (enc8 J) from HT2.out) hgr5 (t4_ne HT2.out HP2.out.buf)) (by show w.heap.size ≠ p; omega) v5)
        generalize ((Z ++ outA false P) ++ enc8 J).length = n5 at hv5
        subst hv5
        have HRUN := Lib.hid hrun
        have K1 := Lib.hid k1
        have K2 := Lib.hid k2
        have c9 := HP2.out.row.at_ HP2.out.at_
        clear hrun hbuf5 hgr5 hat5 k1 k2
        have hs88 := slice88 w.heap.size m hm4
        go_wp2_with fail
        go_region_law (first | (refine step_append_run rfl _ _ 27 27 rfl _ _ _ w5 rfl rfl HRUN.out ?_))
        all_goals
          go_wp2_with fail
          go_roundw
          case rel => exact ⟨_, P ++ [J], _, _, _, rfl, HKN.out, by have := HPK.out; simp; omega, by go_num, HCP.out, by rw [outA_snoc, one_false, ← List.append_assoc]; exact K1.out, HT5.out, (HST.out.more HG2.out (Nat.le_refl _)).trans (((Step.refl p w2 v').drew).trans K2.out)⟩
          case measure => simp [intOf]; omega
      · have hcpn := cps_one (U := U) (i := k) (by have := HLN.out; omega) (by rw [HLN.out, ← HX.out]; exact hpair)
        rw [← HX.out] at hcpn
        have hsx : Scalar x := HW.out x (by rw [HCP0.out, hcpn]; simp)
        have HCP := Lib.hid (show cps U = (P ++ [x]) ++ cps (U.drop (k + 1)) by rw [HCP0.out, hcpn]; simp)
        have HSC := Lib.hid hsx
        have HKN := Lib.hid (show k + 1 ≤ n by omega)
        have hlow : x < 55296 ∨ 57343 < x := hsx.2.2
        clear hcpn hsx hpair
        have HLW := Lib.hid hlow
        clear hlow
        rcases HLW.out with hlow | hlow
        · have u1 : decide (55296 ≤ x) = false := by simp; omega
          cases a with
          | false =>
            obtain ⟨m, hm⟩ : ∃ m, m = (enc8 x).length := ⟨_, rfl⟩
            have hm1 : 1 ≤ m := by rw [hm]; exact (enc8_len _).1
            have hm4 : m ≤ 4 := by rw [hm]; exact (enc8_len _).2
            have hK := enc21 w.heap.size x D wx HT.out HSC.out
            unfold Encd at hK
            rw [← hm] at hK
            have K21 := Lib.hid hK
            have HM := Lib.hid hm
            clear hm hK
            go_wp2_with (go_at_call 21; (with_reducible refine K21.out.mono ?_); rintro e w2 ⟨rfl, ht2, hg2, hs2⟩; have HT2 := Lib.hid ht2; have HG2 := Lib.hid hg2; have HS2 := Lib.hid hs2; clear ht2 hg2 hs2)
            have HP2 := Lib.hid (HPR.out.other HG2.out (by omega : p ≠ w.heap.size) (t4_ne HT.out HPR.out.buf))
            obtain ⟨v5, w5, hrun, hbuf5, hgr5, hat5⟩ := run_append_ints_at (P := Tryf.prog) w2.drew 27 27 5 i0 Tryf.underlying27 hi0 hz0 hz1 hz2 v' (Z ++ outA false P) HP2.out.drew.buf ⟨w.heap.size, 0, none⟩ m 4 (enc8 x) HM.out.symm (fun j hj => t4_cells HT2.out j (by rw [← HM.out]; exact hj)) (by have := HLEN.out; omega)
            obtain ⟨k1, k2, k3, k4⟩ := (HP2.out.drew).store (by decide) hbuf5 (.of_grown hgr5 hat5) hgr5
            rw [set_set9] at k1
            obtain ⟨A5, cc5, hv5⟩ := hbuf5.form
            have HT5 := Lib.hid (t4_far (q := ⟨p, 9, none⟩) (t4_grown (show T4 w2.drew w.heap.size (enc8 x) from HT2.out) hgr5 (t4_ne HT2.out HP2.out.buf)) (by show w.heap.size ≠ p; omega) v5)
            generalize ((Z ++ outA false P) ++ enc8 x).length = n5 at hv5
            subst hv5
            have HRUN := Lib.hid hrun
            have K1 := Lib.hid k1
            have K2 := Lib.hid k2
            have c9 := HP2.out.row.at_ HP2.out.at_
            clear hrun hbuf5 hgr5 hat5 k1 k2
            have hs88 := slice88 w.heap.size m hm4
            go_wp2_with fail
            go_region_law (first | (refine step_append_run rfl _ _ 27 27 rfl _ _ _ w5 rfl rfl HRUN.out ?_))
            all_goals
              go_wp2_with fail
              go_roundw
              case rel => exact ⟨_, P ++ [x], _, _, _, rfl, HKN.out, by have := HPK.out; simp; omega, by go_num, HCP.out, by rw [outA_snoc, one_false, ← List.append_assoc]; exact K1.out, HT5.out, (HST.out.more HG2.out (Nat.le_refl _)).trans (((Step.refl p w2 v').drew).trans K2.out)⟩
              case measure => simp [intOf]; omega
          | true =>
            by_cases h126 : x ≤ 126
            · have u2 : decide (126 < x) = false := by simp; omega
              have HO := Lib.hid (one_low x h126)
              obtain ⟨m, hm⟩ : ∃ m, m = (enc8 x).length := ⟨_, rfl⟩
              have hm1 : 1 ≤ m := by rw [hm]; exact (enc8_len _).1
              have hm4 : m ≤ 4 := by rw [hm]; exact (enc8_len _).2
              have hK := enc21 w.heap.size x D wx HT.out HSC.out
              unfold Encd at hK
              rw [← hm] at hK
              have K21 := Lib.hid hK
              have HM := Lib.hid hm
              clear hm hK
              go_wp2_with (go_at_call 21; (with_reducible refine K21.out.mono ?_); rintro e w2 ⟨rfl, ht2, hg2, hs2⟩; have HT2 := Lib.hid ht2; have HG2 := Lib.hid hg2; have HS2 := Lib.hid hs2; clear ht2 hg2 hs2)
              have HP2 := Lib.hid (HPR.out.other HG2.out (by omega : p ≠ w.heap.size) (t4_ne HT.out HPR.out.buf))
              obtain ⟨v5, w5, hrun, hbuf5, hgr5, hat5⟩ := run_append_ints_at (P := Tryf.prog) w2.drew 27 27 5 i0 Tryf.underlying27 hi0 hz0 hz1 hz2 v' (Z ++ outA true P) HP2.out.drew.buf ⟨w.heap.size, 0, none⟩ m 4 (enc8 x) HM.out.symm (fun j hj => t4_cells HT2.out j (by rw [← HM.out]; exact hj)) (by have := HLEN.out; omega)
              obtain ⟨k1, k2, k3, k4⟩ := (HP2.out.drew).store (by decide) hbuf5 (.of_grown hgr5 hat5) hgr5
              rw [set_set9] at k1
              obtain ⟨A5, cc5, hv5⟩ := hbuf5.form
              have HT5 := Lib.hid (t4_far (q := ⟨p, 9, none⟩) (t4_grown (show T4 w2.drew w.heap.size (enc8 x) from HT2.out) hgr5 (t4_ne HT2.out HP2.out.buf)) (by show w.heap.size ≠ p; omega) v5)
              generalize ((Z ++ outA true P) ++ enc8 x).length = n5 at hv5
              subst hv5
              have HRUN := Lib.hid hrun
              have K1 := Lib.hid k1
              have K2 := Lib.hid k2
              have c9 := HP2.out.row.at_ HP2.out.at_
              clear hrun hbuf5 hgr5 hat5 k1 k2
              have hs88 := slice88 w.heap.size m hm4
              go_wp2_with fail
              go_region_law (first | (refine step_append_run rfl _ _ 27 27 rfl _ _ _ w5 rfl rfl HRUN.out ?_))
              all_goals
                go_wp2_with fail
                go_roundw
                case rel => exact ⟨_, P ++ [x], _, _, _, rfl, HKN.out, by have := HPK.out; simp; omega, by go_num, HCP.out, by rw [outA_snoc, HO.out, ← List.append_assoc]; exact K1.out, HT5.out, (HST.out.more HG2.out (Nat.le_refl _)).trans (((Step.refl p w2 v').drew).trans K2.out)⟩
                case measure => simp [intOf]; omega
            · have u2 : decide (126 < x) = true := by simp; omega
              have u3 : decide (x ≤ 65535) = true := by simp; omega
              have HO := Lib.hid (one_high x (by omega))
              have i1 := idxH (x / 4096) (by omega) (by omega)
              have i2 := idxH (x / 256 % 16) (by omega) (by omega)
              have i3 := idxH (x / 16 % 16) (by omega) (by omega)
              have i4 := idxH (x % 16) (by omega) (by omega)
              have b2 : bits .and .i32 (x / 256) 15 = x / 256 % 16 := i_and15 _ (by omega) (by omega)
              have b3 : bits .and .i32 (x / 16) 15 = x / 16 % 16 := i_and15 _ (by omega) (by omega)
              have b4 : bits .and .i32 x 15 = x % 16 := i_and15 _ (by omega) (by omega)
              have hp2 : Pr (wx.alloc (.cells #[.int .u8 92, .int .u8 117, .int .u8 (hx (x / 4096)), .int .u8 (hx (x / 256 % 16)), .int .u8 (hx (x / 16 % 16)), .int .u8 (hx (x % 16))] 5)).drew p 84 9 5 (cs.set 9 v') v' (Z ++ outA true P) := (HPR.out.alloc _).drew
              have hr2 := (Row.newArr wx 5 #[.int .u8 92, .int .u8 117, .int .u8 (hx (x / 4096)), .int .u8 (hx (x / 256 % 16)), .int .u8 (hx (x / 16 % 16)), .int .u8 (hx (x % 16))]).drew
              obtain ⟨v5, w5, hrun, hbuf5, hgr5, hat5⟩ := run_append_ints_at (P := Tryf.prog) (wx.alloc (.cells #[.int .u8 92, .int .u8 117, .int .u8 (hx (x / 4096)), .int .u8 (hx (x / 256 % 16)), .int .u8 (hx (x / 16 % 16)), .int .u8 (hx (x % 16))] 5)).drew 27 27 5 i0 Tryf.underlying27 hi0 hz0 hz1 hz2 v' (Z ++ outA true P) hp2.buf ⟨wx.heap.size, 0, none⟩ 6 6 (hex6 x) rfl (fun j hj => (by have hadd : (⟨wx.heap.size, 0, none⟩ : Addr).add j = ⟨wx.heap.size, j, none⟩ := (by unfold Addr.add; split <;> simp_all); rw [hadd]; rcases (show j = 0 ∨ j = 1 ∨ j = 2 ∨ j = 3 ∨ j = 4 ∨ j = 5 by omega) with rfl | rfl | rfl | rfl | rfl | rfl <;> exact hr2.at_ rfl)) (by have := HLEN.out; omega)
              obtain ⟨k1, k2, k3, k4⟩ := hp2.store (by decide) hbuf5 (.of_grown hgr5 hat5) hgr5
              rw [set_set9] at k1
              obtain ⟨A5, cc5, hv5⟩ := hbuf5.form
              have HT5 := Lib.hid (t4_far (q := ⟨p, 9, none⟩) (t4_grown (show T4 (wx.alloc (.cells #[.int .u8 92, .int .u8 117, .int .u8 (hx (x / 4096)), .int .u8 (hx (x / 256 % 16)), .int .u8 (hx (x / 16 % 16)), .int .u8 (hx (x % 16))] 5)).drew w.heap.size D from t4_alloc HT.out _) hgr5 (t4_ne HT.out HPR.out.buf)) (by show w.heap.size ≠ p; omega) v5)
              have HS5 := Lib.hid ((Step.of_below (p := p) (v := v') ((Below.refl wx.heap.size wx).alloc (Nat.le_refl _) (.cells #[.int .u8 92, .int .u8 117, .int .u8 (hx (x / 4096)), .int .u8 (hx (x / 256 % 16)), .int .u8 (hx (x / 16 % 16)), .int .u8 (hx (x % 16))] 5)) (Nat.le_refl _)).drew)
              generalize ((Z ++ outA true P) ++ hex6 x).length = n5 at hv5
              subst hv5
              have HRUN := Lib.hid hrun
              have K1 := Lib.hid k1
              have K2 := Lib.hid k2
              have c9 := HPR.out.row.at_ HPR.out.at_
              have c9b := (HPR.out.alloc (.cells #[.int .u8 92, .int .u8 117, .int .u8 (hx (x / 4096)), .int .u8 (hx (x / 256 % 16)), .int .u8 (hx (x / 16 % 16)), .int .u8 (hx (x % 16))] 5)).row.at_ HPR.out.at_
              clear hrun hbuf5 hgr5 hat5 k1 k2 hp2 hr2
              have hnep : ¬ p = wx.heap.size := by have := HPR.out.row.lt; omega
              have hne5 : ¬ p = w.heap.size := by omega
              go_wp2_with fail
              refine wp_region_held_drew (S := fun _ => True) (by kernel_rfl) trivial (fun hHeld => ?_)
              refine wpAnyH_take (i := 0) (v := .pointer (some ⟨p, 0, none⟩)) rfl (by kernel_rfl) (by kernel_rfl) (by kernel_rfl) (fun _ _ _ h => h) (Or.inl ⟨by rfl, fun W _ => by go_simp⟩) trivial ?_
              simp only [Act.put, List.setIfInBounds_toArray]
              refine wpAnyH_take (i := 1) (v := .pointer (some ⟨p, 0, none⟩)) rfl (by kernel_rfl) (by kernel_rfl) (by kernel_rfl) (fun _ _ _ h => h) (Or.inl ⟨by rfl, fun W _ => by go_simp⟩) trivial ?_
              simp only [Act.put]
              refine wpAnyH_take (i := 2) (v := .pointer (some ⟨p, 0, none⟩)) rfl (by kernel_rfl) (by kernel_rfl) (by kernel_rfl) (fun _ _ _ h => h) (Or.inl ⟨by rfl, fun W _ => by go_simp⟩) trivial ?_
              simp only [Act.put]
              refine wpAnyH_take (i := 3) (v := .pointer (some ⟨p, 9, none⟩)) rfl (by kernel_rfl) (by kernel_rfl) (by kernel_rfl) (fun _ _ _ h => h) (Or.inl ⟨by rfl, fun W _ => by go_simp⟩) trivial ?_
              simp only [Act.put]
              refine wpAnyH_take (i := 5) (v := .int .i32 x) rfl (by kernel_rfl) (by kernel_rfl) (by kernel_rfl) (fun _ _ _ h => h) (Or.inl ⟨by rfl, fun W _ => by go_simp⟩) trivial ?_
              simp only [Act.put]
              refine wpAnyH_take (i := 6) (v := .int .i32 (x / 4096)) rfl (by kernel_rfl) (by kernel_rfl) (by kernel_rfl) (fun _ _ _ h => h) (Or.inl ⟨by rfl, fun W _ => by go_simp⟩) trivial ?_
              simp only [Act.put]
              refine wpAnyH_take (i := 7) (v := .int .u8 (hx (x / 4096))) rfl (by kernel_rfl) (by kernel_rfl) (by kernel_rfl) (fun _ _ _ h => h) (Or.inl ⟨by rfl, fun W _ => by go_simp⟩) trivial ?_
              simp only [Act.put]
              refine wpAnyH_take (i := 8) (v := .int .i32 x) rfl (by kernel_rfl) (by kernel_rfl) (by kernel_rfl) (fun _ _ _ h => h) (Or.inl ⟨by rfl, fun W _ => by go_simp⟩) trivial ?_
              simp only [Act.put]
              refine wpAnyH_take (i := 9) (v := .int .i32 (x / 256)) rfl (by kernel_rfl) (by kernel_rfl) (by kernel_rfl) (fun _ _ _ h => h) (Or.inl ⟨by rfl, fun W _ => by go_simp⟩) trivial ?_
              simp only [Act.put]
              refine wpAnyH_take (i := 10) (v := .int .i32 (x / 256 % 16)) rfl (by kernel_rfl) (by kernel_rfl) (by kernel_rfl) (fun _ _ _ h => h) (Or.inl ⟨by rfl, fun W _ => by go_simp⟩) trivial ?_
              simp only [Act.put]
              refine wpAnyH_take (i := 11) (v := .int .u8 (hx (x / 256 % 16))) rfl (by kernel_rfl) (by kernel_rfl) (by kernel_rfl) (fun _ _ _ h => h) (Or.inl ⟨by rfl, fun W _ => by go_simp⟩) trivial ?_
              simp only [Act.put]
              refine wpAnyH_take (i := 12) (v := .int .i32 x) rfl (by kernel_rfl) (by kernel_rfl) (by kernel_rfl) (fun _ _ _ h => h) (Or.inl ⟨by rfl, fun W _ => by go_simp⟩) trivial ?_
              simp only [Act.put]
              refine wpAnyH_take (i := 13) (v := .int .i32 (x / 16)) rfl (by kernel_rfl) (by kernel_rfl) (by kernel_rfl) (fun _ _ _ h => h) (Or.inl ⟨by rfl, fun W _ => by go_simp⟩) trivial ?_
              simp only [Act.put]
              refine wpAnyH_take (i := 14) (v := .int .i32 (x / 16 % 16)) rfl (by kernel_rfl) (by kernel_rfl) (by kernel_rfl) (fun _ _ _ h => h) (Or.inl ⟨by rfl, fun W _ => by go_simp⟩) trivial ?_
              simp only [Act.put]
              refine wpAnyH_take (i := 15) (v := .int .u8 (hx (x / 16 % 16))) rfl (by kernel_rfl) (by kernel_rfl) (by kernel_rfl) (fun _ _ _ h => h) (Or.inl ⟨by rfl, fun W _ => by go_simp⟩) trivial ?_
              simp only [Act.put]
              refine wpAnyH_take (i := 16) (v := .int .i32 x) rfl (by kernel_rfl) (by kernel_rfl) (by kernel_rfl) (fun _ _ _ h => h) (Or.inl ⟨by rfl, fun W _ => by go_simp⟩) trivial ?_
              simp only [Act.put]
              refine wpAnyH_take (i := 17) (v := .int .i32 (x % 16)) rfl (by kernel_rfl) (by kernel_rfl) (by kernel_rfl) (fun _ _ _ h => h) (Or.inl ⟨by rfl, fun W _ => by go_simp⟩) trivial ?_
              simp only [Act.put]
              refine wpAnyH_take (i := 18) (v := .int .u8 (hx (x % 16))) rfl (by kernel_rfl) (by kernel_rfl) (by kernel_rfl) (fun _ _ _ h => h) (Or.inl ⟨by rfl, fun W _ => by go_simp⟩) trivial ?_
              simp only [Act.put]
              refine wpAnyH_ready (rs := [4, 19]) (by kernel_rfl) (by simp) ?_
              refine AllReadyH.cons rfl (fun K hK => ?_) (AllReadyH.cons rfl (fun K hK => ?_) AllReadyH.nil)
              · go_simp
                refine hK.out _ _ trivial (fun _ => ?_)
                clear hK K
                refine wpAnyH_ready (rs := [19]) (by kernel_rfl) (by simp) ?_
                refine AllReadyH.cons rfl (fun K hK => ?_) AllReadyH.nil
                go_simp
                refine hK.out _ _ trivial (fun _ => ?_)
                clear hK K
                refine wpAnyH_ready (rs := [20]) (by kernel_rfl) (by simp) ?_
                refine AllReadyH.cons rfl (fun K hK => ?_) AllReadyH.nil
                refine step_append_run rfl _ _ 27 27 rfl _ _ _ w5 rfl rfl HRUN.out ?_
                refine hK.out _ _ trivial (fun _ => ?_)
                clear hK K
                simp only [Act.put, List.setIfInBounds_toArray]
                refine wpAnyH_take (i := 21) (v := .pointer (some ⟨p, 0, none⟩)) rfl (by kernel_rfl) (by kernel_rfl) (by kernel_rfl) (fun _ _ _ h => h) (Or.inl ⟨by rfl, fun W _ => by go_simp⟩) trivial ?_
                simp only [Act.put]
                refine wpAnyH_take (i := 22) (v := .pointer (some ⟨p, 9, none⟩)) rfl (by kernel_rfl) (by kernel_rfl) (by kernel_rfl) (fun _ _ _ h => h) (Or.inl ⟨by rfl, fun W _ => by go_simp⟩) trivial ?_
                simp only [Act.put]
                refine wpAnyH_ready (rs := [23]) (by kernel_rfl) (by simp) ?_
                refine AllReadyH.cons rfl (fun K hK => ?_) AllReadyH.nil
                go_simp
                refine hK.out _ _ trivial (fun _ => ?_)
                clear hK K
                refine wpAnyH_done (by kernel_rfl) ?_ _
                go_wp2_with fail
                go_roundw
                case rel => exact ⟨_, P ++ [x], _, _, _, rfl, HKN.out, by have := HPK.out; simp; omega, by go_num, HCP.out, by rw [outA_snoc, HO.out, ← List.append_assoc]; exact K1.out, HT5.out, HST.out.trans (HS5.out.trans K2.out)⟩
                case measure => simp [intOf]; omega
              · go_simp
                refine hK.out _ _ trivial (fun _ => ?_)
                clear hK K
                refine wpAnyH_ready (rs := [4]) (by kernel_rfl) (by simp) ?_
                refine AllReadyH.cons rfl (fun K hK => ?_) AllReadyH.nil
                go_simp
                refine hK.out _ _ trivial (fun _ => ?_)
                clear hK K
                refine wpAnyH_ready (rs := [20]) (by kernel_rfl) (by simp) ?_
                refine AllReadyH.cons rfl (fun K hK => ?_) AllReadyH.nil
                refine step_append_run rfl _ _ 27 27 rfl _ _ _ w5 rfl rfl HRUN.out ?_
                refine hK.out _ _ trivial (fun _ => ?_)
                clear hK K
                simp only [Act.put, List.setIfInBounds_toArray]
                refine wpAnyH_take (i := 21) (v := .pointer (some ⟨p, 0, none⟩)) rfl (by kernel_rfl) (by kernel_rfl) (by kernel_rfl) (fun _ _ _ h => h) (Or.inl ⟨by rfl, fun W _ => by go_simp⟩) trivial ?_
                simp only [Act.put]
                refine wpAnyH_take (i := 22) (v := .pointer (some ⟨p, 9, none⟩)) rfl (by kernel_rfl) (by kernel_rfl) (by kernel_rfl) (fun _ _ _ h => h) (Or.inl ⟨by rfl, fun W _ => by go_simp⟩) trivial ?_
                simp only [Act.put]
                refine wpAnyH_ready (rs := [23]) (by kernel_rfl) (by simp) ?_
                refine AllReadyH.cons rfl (fun K hK => ?_) AllReadyH.nil
                go_simp
                refine hK.out _ _ trivial (fun _ => ?_)
                clear hK K
                refine wpAnyH_done (by kernel_rfl) ?_ _
                go_wp2_with fail
                go_roundw
                case rel => exact ⟨_, P ++ [x], _, _, _, rfl, HKN.out, by have := HPK.out; simp; omega, by go_num, HCP.out, by rw [outA_snoc, HO.out, ← List.append_assoc]; exact K1.out, HT5.out, HST.out.trans (HS5.out.trans K2.out)⟩
                case measure => simp [intOf]; omega
        · have u1 : decide (55296 ≤ x) = true := by simp; omega
          have u1b : decide (x ≤ 56319) = false := by simp; omega
          cases a with
          | false =>
            obtain ⟨m, hm⟩ : ∃ m, m = (enc8 x).length := ⟨_, rfl⟩
            have hm1 : 1 ≤ m := by rw [hm]; exact (enc8_len _).1
            have hm4 : m ≤ 4 := by rw [hm]; exact (enc8_len _).2
            have hK := enc21 w.heap.size x D wx HT.out HSC.out
            unfold Encd at hK
            rw [← hm] at hK
            have K21 := Lib.hid hK
            have HM := Lib.hid hm
            clear hm hK
            go_wp2_with (go_at_call 21; (with_reducible refine K21.out.mono ?_); rintro e w2 ⟨rfl, ht2, hg2, hs2⟩; have HT2 := Lib.hid ht2; have HG2 := Lib.hid hg2; have HS2 := Lib.hid hs2; clear ht2 hg2 hs2)
            have HP2 := Lib.hid (HPR.out.other HG2.out (by omega : p ≠ w.heap.size) (t4_ne HT.out HPR.out.buf))
            obtain ⟨v5, w5, hrun, hbuf5, hgr5, hat5⟩ := run_append_ints_at (P := Tryf.prog) w2.drew 27 27 5 i0 Tryf.underlying27 hi0 hz0 hz1 hz2 v' (Z ++ outA false P) HP2.out.drew.buf ⟨w.heap.size, 0, none⟩ m 4 (enc8 x) HM.out.symm (fun j hj => t4_cells HT2.out j (by rw [← HM.out]; exact hj)) (by have := HLEN.out; omega)
            obtain ⟨k1, k2, k3, k4⟩ := (HP2.out.drew).store (by decide) hbuf5 (.of_grown hgr5 hat5) hgr5
            rw [set_set9] at k1
            obtain ⟨A5, cc5, hv5⟩ := hbuf5.form
            have HT5 := Lib.hid (t4_far (q := ⟨p, 9, none⟩) (t4_grown (show T4 w2.drew w.heap.size (enc8 x) from HT2.out) hgr5 (t4_ne HT2.out HP2.out.buf)) (by show w.heap.size ≠ p; omega) v5)
            generalize ((Z ++ outA false P) ++ enc8 x).length = n5 at hv5
            subst hv5
            have HRUN := Lib.hid hrun
            have K1 := Lib.hid k1
            have K2 := Lib.hid k2
            have c9 := HP2.out.row.at_ HP2.out.at_
            clear hrun hbuf5 hgr5 hat5 k1 k2
            have hs88 := slice88 w.heap.size m hm4
            go_wp2_with fail
            go_region_law (first | (refine step_append_run rfl _ _ 27 27 rfl _ _ _ w5 rfl rfl HRUN.out ?_))
            all_goals
              go_wp2_with fail
              go_roundw
              case rel => exact ⟨_, P ++ [x], _, _, _, rfl, HKN.out, by have := HPK.out; simp; omega, by go_num, HCP.out, by rw [outA_snoc, one_false, ← List.append_assoc]; exact K1.out, HT5.out, (HST.out.more HG2.out (Nat.le_refl _)).trans (((Step.refl p w2 v').drew).trans K2.out)⟩
              case measure => simp [intOf]; omega
          | true =>
            have u2 : decide (126 < x) = true := by simp; omega
            have u3 : decide (x ≤ 65535) = true := by simp; omega
            have HO := Lib.hid (one_high x (by omega))
            have i1 := idxH (x / 4096) (by omega) (by omega)
            have i2 := idxH (x / 256 % 16) (by omega) (by omega)
            have i3 := idxH (x / 16 % 16) (by omega) (by omega)
            have i4 := idxH (x % 16) (by omega) (by omega)
            have b2 : bits .and .i32 (x / 256) 15 = x / 256 % 16 := i_and15 _ (by omega) (by omega)
            have b3 : bits .and .i32 (x / 16) 15 = x / 16 % 16 := i_and15 _ (by omega) (by omega)
            have b4 : bits .and .i32 x 15 = x % 16 := i_and15 _ (by omega) (by omega)
            have hp2 : Pr (wx.alloc (.cells #[.int .u8 92, .int .u8 117, .int .u8 (hx (x / 4096)), .int .u8 (hx (x / 256 % 16)), .int .u8 (hx (x / 16 % 16)), .int .u8 (hx (x % 16))] 5)).drew p 84 9 5 (cs.set 9 v') v' (Z ++ outA true P) := (HPR.out.alloc _).drew
            have hr2 := (Row.newArr wx 5 #[.int .u8 92, .int .u8 117, .int .u8 (hx (x / 4096)), .int .u8 (hx (x / 256 % 16)), .int .u8 (hx (x / 16 % 16)), .int .u8 (hx (x % 16))]).drew
            obtain ⟨v5, w5, hrun, hbuf5, hgr5, hat5⟩ := run_append_ints_at (P := Tryf.prog) (wx.alloc (.cells #[.int .u8 92, .int .u8 117, .int .u8 (hx (x / 4096)), .int .u8 (hx (x / 256 % 16)), .int .u8 (hx (x / 16 % 16)), .int .u8 (hx (x % 16))] 5)).drew 27 27 5 i0 Tryf.underlying27 hi0 hz0 hz1 hz2 v' (Z ++ outA true P) hp2.buf ⟨wx.heap.size, 0, none⟩ 6 6 (hex6 x) rfl (fun j hj => (by have hadd : (⟨wx.heap.size, 0, none⟩ : Addr).add j = ⟨wx.heap.size, j, none⟩ := (by unfold Addr.add; split <;> simp_all); rw [hadd]; rcases (show j = 0 ∨ j = 1 ∨ j = 2 ∨ j = 3 ∨ j = 4 ∨ j = 5 by omega) with rfl | rfl | rfl | rfl | rfl | rfl <;> exact hr2.at_ rfl)) (by have := HLEN.out; omega)
            obtain ⟨k1, k2, k3, k4⟩ := hp2.store (by decide) hbuf5 (.of_grown hgr5 hat5) hgr5
            rw [set_set9] at k1
            obtain ⟨A5, cc5, hv5⟩ := hbuf5.form
            have HT5 := Lib.hid (t4_far (q := ⟨p, 9, none⟩) (t4_grown (show T4 (wx.alloc (.cells #[.int .u8 92, .int .u8 117, .int .u8 (hx (x / 4096)), .int .u8 (hx (x / 256 % 16)), .int .u8 (hx (x / 16 % 16)), .int .u8 (hx (x % 16))] 5)).drew w.heap.size D from t4_alloc HT.out _) hgr5 (t4_ne HT.out HPR.out.buf)) (by show w.heap.size ≠ p; omega) v5)
            have HS5 := Lib.hid ((Step.of_below (p := p) (v := v') ((Below.refl wx.heap.size wx).alloc (Nat.le_refl _) (.cells #[.int .u8 92, .int .u8 117, .int .u8 (hx (x / 4096)), .int .u8 (hx (x / 256 % 16)), .int .u8 (hx (x / 16 % 16)), .int .u8 (hx (x % 16))] 5)) (Nat.le_refl _)).drew)
            generalize ((Z ++ outA true P) ++ hex6 x).length = n5 at hv5
            subst hv5
            have HRUN := Lib.hid hrun
            have K1 := Lib.hid k1
            have K2 := Lib.hid k2
            have c9 := HPR.out.row.at_ HPR.out.at_
            have c9b := (HPR.out.alloc (.cells #[.int .u8 92, .int .u8 117, .int .u8 (hx (x / 4096)), .int .u8 (hx (x / 256 % 16)), .int .u8 (hx (x / 16 % 16)), .int .u8 (hx (x % 16))] 5)).row.at_ HPR.out.at_
            clear hrun hbuf5 hgr5 hat5 k1 k2 hp2 hr2
            have hnep : ¬ p = wx.heap.size := by have := HPR.out.row.lt; omega
            have hne5 : ¬ p = w.heap.size := by omega
            go_wp2_with fail
            refine wp_region_held_drew (S := fun _ => True) (by kernel_rfl) trivial (fun hHeld => ?_)
            refine wpAnyH_take (i := 0) (v := .pointer (some ⟨p, 0, none⟩)) rfl (by kernel_rfl) (by kernel_rfl) (by kernel_rfl) (fun _ _ _ h => h) (Or.inl ⟨by rfl, fun W _ => by go_simp⟩) trivial ?_
            simp only [Act.put, List.setIfInBounds_toArray]
            refine wpAnyH_take (i := 1) (v := .pointer (some ⟨p, 0, none⟩)) rfl (by kernel_rfl) (by kernel_rfl) (by kernel_rfl) (fun _ _ _ h => h) (Or.inl ⟨by rfl, fun W _ => by go_simp⟩) trivial ?_
            simp only [Act.put]
            refine wpAnyH_take (i := 2) (v := .pointer (some ⟨p, 0, none⟩)) rfl (by kernel_rfl) (by kernel_rfl) (by kernel_rfl) (fun _ _ _ h => h) (Or.inl ⟨by rfl, fun W _ => by go_simp⟩) trivial ?_
            simp only [Act.put]
            refine wpAnyH_take (i := 3) (v := .pointer (some ⟨p, 9, none⟩)) rfl (by kernel_rfl) (by kernel_rfl) (by kernel_rfl) (fun _ _ _ h => h) (Or.inl ⟨by rfl, fun W _ => by go_simp⟩) trivial ?_
            simp only [Act.put]
            refine wpAnyH_take (i := 5) (v := .int .i32 x) rfl (by kernel_rfl) (by kernel_rfl) (by kernel_rfl) (fun _ _ _ h => h) (Or.inl ⟨by rfl, fun W _ => by go_simp⟩) trivial ?_
            simp only [Act.put]
            refine wpAnyH_take (i := 6) (v := .int .i32 (x / 4096)) rfl (by kernel_rfl) (by kernel_rfl) (by kernel_rfl) (fun _ _ _ h => h) (Or.inl ⟨by rfl, fun W _ => by go_simp⟩) trivial ?_
            simp only [Act.put]
            refine wpAnyH_take (i := 7) (v := .int .u8 (hx (x / 4096))) rfl (by kernel_rfl) (by kernel_rfl) (by kernel_rfl) (fun _ _ _ h => h) (Or.inl ⟨by rfl, fun W _ => by go_simp⟩) trivial ?_
            simp only [Act.put]
            refine wpAnyH_take (i := 8) (v := .int .i32 x) rfl (by kernel_rfl) (by kernel_rfl) (by kernel_rfl) (fun _ _ _ h => h) (Or.inl ⟨by rfl, fun W _ => by go_simp⟩) trivial ?_
            simp only [Act.put]
            refine wpAnyH_take (i := 9) (v := .int .i32 (x / 256)) rfl (by kernel_rfl) (by kernel_rfl) (by kernel_rfl) (fun _ _ _ h => h) (Or.inl ⟨by rfl, fun W _ => by go_simp⟩) trivial ?_
            simp only [Act.put]
            refine wpAnyH_take (i := 10) (v := .int .i32 (x / 256 % 16)) rfl (by kernel_rfl) (by kernel_rfl) (by kernel_rfl) (fun _ _ _ h => h) (Or.inl ⟨by rfl, fun W _ => by go_simp⟩) trivial ?_
            simp only [Act.put]
            refine wpAnyH_take (i := 11) (v := .int .u8 (hx (x / 256 % 16))) rfl (by kernel_rfl) (by kernel_rfl) (by kernel_rfl) (fun _ _ _ h => h) (Or.inl ⟨by rfl, fun W _ => by go_simp⟩) trivial ?_
            simp only [Act.put]
            refine wpAnyH_take (i := 12) (v := .int .i32 x) rfl (by kernel_rfl) (by kernel_rfl) (by kernel_rfl) (fun _ _ _ h => h) (Or.inl ⟨by rfl, fun W _ => by go_simp⟩) trivial ?_
            simp only [Act.put]
            refine wpAnyH_take (i := 13) (v := .int .i32 (x / 16)) rfl (by kernel_rfl) (by kernel_rfl) (by kernel_rfl) (fun _ _ _ h => h) (Or.inl ⟨by rfl, fun W _ => by go_simp⟩) trivial ?_
            simp only [Act.put]
            refine wpAnyH_take (i := 14) (v := .int .i32 (x / 16 % 16)) rfl (by kernel_rfl) (by kernel_rfl) (by kernel_rfl) (fun _ _ _ h => h) (Or.inl ⟨by rfl, fun W _ => by go_simp⟩) trivial ?_
            simp only [Act.put]
            refine wpAnyH_take (i := 15) (v := .int .u8 (hx (x / 16 % 16))) rfl (by kernel_rfl) (by kernel_rfl) (by kernel_rfl) (fun _ _ _ h => h) (Or.inl ⟨by rfl, fun W _ => by go_simp⟩) trivial ?_
            simp only [Act.put]
            refine wpAnyH_take (i := 16) (v := .int .i32 x) rfl (by kernel_rfl) (by kernel_rfl) (by kernel_rfl) (fun _ _ _ h => h) (Or.inl ⟨by rfl, fun W _ => by go_simp⟩) trivial ?_
            simp only [Act.put]
            refine wpAnyH_take (i := 17) (v := .int .i32 (x % 16)) rfl (by kernel_rfl) (by kernel_rfl) (by kernel_rfl) (fun _ _ _ h => h) (Or.inl ⟨by rfl, fun W _ => by go_simp⟩) trivial ?_
            simp only [Act.put]
            refine wpAnyH_take (i := 18) (v := .int .u8 (hx (x % 16))) rfl (by kernel_rfl) (by kernel_rfl) (by kernel_rfl) (fun _ _ _ h => h) (Or.inl ⟨by rfl, fun W _ => by go_simp⟩) trivial ?_
            simp only [Act.put]
            refine wpAnyH_ready (rs := [4, 19]) (by kernel_rfl) (by simp) ?_
            refine AllReadyH.cons rfl (fun K hK => ?_) (AllReadyH.cons rfl (fun K hK => ?_) AllReadyH.nil)
            · go_simp
              refine hK.out _ _ trivial (fun _ => ?_)
              clear hK K
              refine wpAnyH_ready (rs := [19]) (by kernel_rfl) (by simp) ?_
              refine AllReadyH.cons rfl (fun K hK => ?_) AllReadyH.nil
              go_simp
              refine hK.out _ _ trivial (fun _ => ?_)
              clear hK K
              refine wpAnyH_ready (rs := [20]) (by kernel_rfl) (by simp) ?_
              refine AllReadyH.cons rfl (fun K hK => ?_) AllReadyH.nil
              refine step_append_run rfl _ _ 27 27 rfl _ _ _ w5 rfl rfl HRUN.out ?_
              refine hK.out _ _ trivial (fun _ => ?_)
              clear hK K
              simp only [Act.put, List.setIfInBounds_toArray]
              refine wpAnyH_take (i := 21) (v := .pointer (some ⟨p, 0, none⟩)) rfl (by kernel_rfl) (by kernel_rfl) (by kernel_rfl) (fun _ _ _ h => h) (Or.inl ⟨by rfl, fun W _ => by go_simp⟩) trivial ?_
              simp only [Act.put]
              refine wpAnyH_take (i := 22) (v := .pointer (some ⟨p, 9, none⟩)) rfl (by kernel_rfl) (by kernel_rfl) (by kernel_rfl) (fun _ _ _ h => h) (Or.inl ⟨by rfl, fun W _ => by go_simp⟩) trivial ?_
              simp only [Act.put]
              refine wpAnyH_ready (rs := [23]) (by kernel_rfl) (by simp) ?_
              refine AllReadyH.cons rfl (fun K hK => ?_) AllReadyH.nil
              go_simp
              refine hK.out _ _ trivial (fun _ => ?_)
              clear hK K
              refine wpAnyH_done (by kernel_rfl) ?_ _
              go_wp2_with fail
              go_roundw
              case rel => exact ⟨_, P ++ [x], _, _, _, rfl, HKN.out, by have := HPK.out; simp; omega, by go_num, HCP.out, by rw [outA_snoc, HO.out, ← List.append_assoc]; exact K1.out, HT5.out, HST.out.trans (HS5.out.trans K2.out)⟩
              case measure => simp [intOf]; omega
            · go_simp
              refine hK.out _ _ trivial (fun _ => ?_)
              clear hK K
              refine wpAnyH_ready (rs := [4]) (by kernel_rfl) (by simp) ?_
              refine AllReadyH.cons rfl (fun K hK => ?_) AllReadyH.nil
              go_simp
              refine hK.out _ _ trivial (fun _ => ?_)
              clear hK K
              refine wpAnyH_ready (rs := [20]) (by kernel_rfl) (by simp) ?_
              refine AllReadyH.cons rfl (fun K hK => ?_) AllReadyH.nil
              refine step_append_run rfl _ _ 27 27 rfl _ _ _ w5 rfl rfl HRUN.out ?_
              refine hK.out _ _ trivial (fun _ => ?_)
              clear hK K
              simp only [Act.put, List.setIfInBounds_toArray]
              refine wpAnyH_take (i := 21) (v := .pointer (some ⟨p, 0, none⟩)) rfl (by kernel_rfl) (by kernel_rfl) (by kernel_rfl) (fun _ _ _ h => h) (Or.inl ⟨by rfl, fun W _ => by go_simp⟩) trivial ?_
              simp only [Act.put]
              refine wpAnyH_take (i := 22) (v := .pointer (some ⟨p, 9, none⟩)) rfl (by kernel_rfl) (by kernel_rfl) (by kernel_rfl) (fun _ _ _ h => h) (Or.inl ⟨by rfl, fun W _ => by go_simp⟩) trivial ?_
              simp only [Act.put]
              refine wpAnyH_ready (rs := [23]) (by kernel_rfl) (by simp) ?_
              refine AllReadyH.cons rfl (fun K hK => ?_) AllReadyH.nil
              go_simp
              refine hK.out _ _ trivial (fun _ => ?_)
              clear hK K
              refine wpAnyH_done (by kernel_rfl) ?_ _
              go_wp2_with fail
              go_roundw
              case rel => exact ⟨_, P ++ [x], _, _, _, rfl, HKN.out, by have := HPK.out; simp; omega, by go_num, HCP.out, by rw [outA_snoc, HO.out, ← List.append_assoc]; exact K1.out, HT5.out, HST.out.trans (HS5.out.trans K2.out)⟩
              case measure => simp [intOf]; omega
    · obtain rfl : k = n := by omega
      have hC : cps U = P := by
        have h := HCP0.out
        rw [← HLN.out, cps_end, List.append_nil] at h
        exact h
      have HC := Lib.hid hC
      clear hC
      go_wp2_with fail
      go_end0
      exact ⟨rfl, _, by rw [HC.out]; exact HPR.out, HST.out⟩
end Go.Proofs.YtdplbdfaeighlabFmt.PiE
