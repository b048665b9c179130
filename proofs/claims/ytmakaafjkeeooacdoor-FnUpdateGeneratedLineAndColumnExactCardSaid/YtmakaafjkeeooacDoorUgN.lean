/- FnUpdateGeneratedLineAndColumnExact: the law, with a mapping. -/
import Derived.Test.YtmakaafjkeeooacDoorRows
import Derived.Test.YtmakaafjkeeooacDoorMem
import Derived.Test.YtmakaafjkeeooacDoorSl
import Derived.Test.YtmakaafjkeeooacDoorUgL
import Derived.LaidMore
import Derived.Deep.DeepCutAuto
import Derived.WalkKit
import Derived.ProofKit
import Derived.OpenShut
import Derived.Below
import Derived.WalkLawsBesides
import Derived.Lib.Hide
import Derived.Outline
import Derived.RegionTactic
import Derived.Deep.QuietTactic
import Derived.BigQuiet
import Derived.WalkSpells
import Derived.Deep.OwnRows
import Derived.IntWalk
import Derived.Deep.DeepMust
namespace Go.Proofs.YtmakaafjkeeooacDoor.UgN
open Go.RowKit Mem Sl
set_option linter.unusedVariables false
open Own Vq Dec Lin Str Prn Owg UgA UgB UgC UgD UgE UgF UgG UgJ UgK UgL UgP Args

set_option maxHeartbeats 16000000 in
set_option maxRecDepth 100000 in
theorem main (A0 : Option Addr) (n c0 : Nat) (z0 : List Int) (cv : Int) (w : World) (w0 : IsInts .u8 w A0 n c0 z0) (hL : B64 w.heap.size w) (hcv : Sm cv) (hn : n ≤ 1048576) :
    Calls Tryd.prog 3 #[.slice A0 n c0, .bool true, .int .i32 cv] w fun e w' => e = .returned (.bool true) ∧ Below w.heap.size w w' := by
  have m0 : n ≤ maxLen := Nat.le_trans w0.1 w0.2.1
  have H4 := Lib.hid (bytes4 A0 n c0 true cv w m0)
  rw [show decide (n ≤ 1048576) = true by simp; omega] at H4
  have H5 := Lib.hid (is5 w)
  have H6 := Lib.hid ((clone6 A0 n c0 z0 w w0 hn).mono fun e w' h => ct_any w0 h)
  have HL := Lib.hid hL
  have HCV := Lib.hid hcv
  obtain ⟨s, hs⟩ : ∃ s, bytesOf z0 = s := ⟨_, rfl⟩
  rw [hs] at H6
  have HSS := Lib.hid (show s.size = n by rw [← hs, bytesOf_size]; exact w0.2.2.1)
  clear w0 hL hs m0
  go_enter Tryd.func3, Tryd.ntmps3
  go_upto_region 8 with (first | (go_at_call 4; (with_reducible refine H4.out.mono ?_); rintro e w' ⟨rfl, rfl⟩) | (go_at_call 5; (with_reducible refine H5.out.mono ?_); rintro e w' ⟨rfl, rfl⟩) | (go_at_call 6; (with_reducible refine H6.out.mono ?_); rintro e wa ⟨A, rfl, htx, hba⟩; have HTX := Lib.hid htx; have HBA := Lib.hid hba; clear htx hba))
  clear H4 H5 H6
  have HBB := Lib.hid (HL.out.below HBA.out)
  have H7 := Lib.hid (new7 wa)
  go_upto_region 9 with (go_at_call 7; (with_reducible refine H7.out.mono ?_); rintro e wb ⟨j, q, rfl, hbd, hbb⟩; have HBD := Lib.hid hbd; have HB1 := Lib.hid hbb; clear hbd hbb)
  clear H7
  have h64a : B64 wa.heap.size wa := ⟨Nat.le_refl _, Nat.lt_of_lt_of_le HBB.out.2.1 HBB.out.1, by obtain ⟨b, off, c, hb, r⟩ := HBB.out.2.2; exact ⟨b, off, c, Nat.lt_of_lt_of_le hb HBB.out.1, r⟩⟩
  have H64 := Lib.hid (h64a.below HB1.out)
  clear h64a
  have c0 := HCV.out.1
  have c1 := HCV.out.2
  have H8 := Lib.hid (app8 wa.heap.size j q (.slice none 0 0) [] 0 [] 0 0 0 0 0 0 0 false 0 cv 1 2 3 wb HBD.out H64.out (by simp) (.inl ⟨rfl, rfl, rfl⟩) (by unfold Sm; omega) (by unfold Sm; omega) (by unfold Sm; omega) (by unfold Sm; omega) HCV.out (by unfold Sm; omega) (by unfold Sm; omega) (by unfold Sm; omega))
  unfold st7 at H8
  go_upto_region 11 with (go_at_call 8; (with_reducible refine H8.out.mono ?_); rintro e wc ⟨rfl, v, hbd, hst⟩; have HBDc := Lib.hid (show Bd wc wa.heap.size j q v (outB true cv 0) 0 cv 1 2 3 0 0 true by simpa [outB] using hbd); have HSTc := Lib.hid hst; clear hbd hst)
  have HB2 := Lib.hid (HB1.out.trans (HSTc.out.below HBD.out.hj (own_low HBD.out.own) H64.out.1))
  have H64c := Lib.hid (H64.out.below (HSTc.out.below HBD.out.hj (own_low HBD.out.own) H64.out.1))
  clear H8 HBD HB1 HSTc H64 c0 c1
  obtain ⟨A8, c8, hv8⟩ := HBDc.out.own.form
  subst hv8
  have H9 := Lib.hid (buf9 HBDc.out)
  have h0len := outB_lenm true cv HCV.out 0 (by omega)
  have hl28 := outB_len true cv HCV.out 0
  obtain ⟨A9, c9, hv9, hi9⟩ := HBDc.out.own.ints (outB_wf true cv 0)
  injection hv9 with e1 e2 e3
  subst e1 e3
  have H6b := Lib.hid ((clone6 A8 _ c8 _ wc hi9 (by omega)).mono fun e w' h => cl_any hi9 h)
  obtain ⟨n8, hn8⟩ : ∃ k, (outB true cv 0).length = k := ⟨_, rfl⟩
  have HN8 := Lib.hid hn8
  rw [hn8] at H6b H9 h0len hl28 HBDc
  clear hi9 hn8
  go_upto_region 12 with (first | (go_at_call 9; (with_reducible refine H9.out.mono ?_); rintro e w' ⟨rfl, rfl⟩) | (go_at_call 6; (with_reducible refine H6b.out.mono ?_); rintro e wd ⟨B8, d8, rfl, hic, hbc, hnew⟩; have HIC := Lib.hid hic; have HBC := Lib.hid hbc; have HNEW := Lib.hid hnew; clear hic hbc hnew))
  clear H6b H9
  have HBDd := Lib.hid (bd_later HBDc.out HBC.out (Nat.le_refl _))
  have HB3 := Lib.hid (HB2.out.trans (HBC.out.mono H64c.out.1))
  have H64d := Lib.hid (H64c.out.below (HBC.out.mono H64c.out.1))
  have hjc := HBDc.out.row.lt
  have H10 := Lib.hid (ten10 ⟨j, 0, none⟩ A n wd _ (UgI.upd21 wa.heap.size j q (.slice A8 n8 c8) s A n cv HCV.out wd HBDd.out (fun W hW => HTX.out.later (HB3.out.trans hW)) hn H64d.out))
  go_upto_region 13 with (go_at_call 10; (with_reducible refine H10.out.mono ?_); rintro e we ⟨rfl, L, U, v2, hfin, hLs, hbd, hbe, hste⟩; have HFIN := Lib.hid hfin; have HBDe := Lib.hid hbd; have HB4 := Lib.hid (HB3.out.trans hbe); have HSTe := Lib.hid hste; clear hfin hbd hbe hste)
  clear H10
  have HICe := Lib.hid (HSTe.out.ints HIC.out (fun b off hA => ⟨by have := HNEW.out b off hA; omega, fun e => by have := HNEW.out b off hA; have := (HBDc.out.own.lt b e.symm).2; omega⟩))
  clear HBDc HBDd HSTe HIC HNEW HB2 HB3 HBC
  have H11 := Lib.hid (scan11 A n n s we (HTX.out.later HB4.out) hn)
  unfold Scd at H11
  rw [HFIN.out] at H11
  have hLn : L ≤ n := by rw [← HSS.out]; exact hLs
  rw [HSS.out] at HBDe
  obtain ⟨A1, c1, hv1⟩ := HBDe.out.own.form
  subst hv1
  go_upto_region 14 with (go_at_call 11; (with_reducible refine H11.out.mono ?_); rintro e w' ⟨rfl, mm, rfl⟩)
  clear H11
  have HBDf := Lib.hid (HBDe.out.drewN mm)
  have HB5 := Lib.hid (show Below wa.heap.size wa (we.drewN mm) from HB4.out.trans (by repeat (first | exact Below.refl _ _ | apply below_drewN)))
  have HICf := Lib.hid (show IsInts .u8 (we.drewN mm) B8 n8 d8 (outB true cv 0) from HICe.out)
  clear HBDe HB4 HICe
  generalize we.drewN mm = wf at HBDf HB5 HICf ⊢
  have H9 := Lib.hid (buf9 HBDf.out)
  obtain ⟨A9, c9, hv9, hi9⟩ := HBDf.out.own.ints (outB_wf true cv L)
  injection hv9 with e1 e2 e3
  subst e1 e3
  have h1len := outB_lenm true cv HCV.out L (by omega)
  obtain ⟨hpl, hpre⟩ := outB_pre true cv L
  have HPRE := Lib.hid hpre
  obtain ⟨n1, hn1⟩ : ∃ k, (outB true cv L).length = k := ⟨_, rfl⟩
  have HN1 := Lib.hid hn1
  rw [hn1] at H9 hi9 h1len hpl HBDf
  rw [HN8.out] at hpl
  have HI1 := Lib.hid (fun k => hi9.read k)
  have HI1' := Lib.hid hi9
  have HI8 := Lib.hid (fun k => HICf.out.read k)
  have t58 : decide (n1 < n8) = false := by simp; omega
  clear hi9 hn1 hpre hLs
  go_upto_region 18 with (go_at_call 9; (with_reducible refine H9.out.mono ?_); rintro e w' ⟨rfl, rfl⟩)
  clear H9 t58
  go_loopw [12] (fun x12 wr => ∃ k m : Nat, k ≤ n8 ∧ x12 = .int .i64 (k : Int) ∧ wr = wf.drewN m) (fun x12 _ => n8 - (intOf x12).toNat)
  case atStart => exact ⟨0, 0, Nat.zero_le _, rfl, rfl⟩
  case round =>
    obtain ⟨k, m, hk, rfl, rfl⟩ := hrel
    by_cases hlt : k < n8
    · obtain ⟨b1, o1, ha1, hb1, hc1⟩ := HI1.out k (by omega)
      obtain ⟨b2, o2, ha2, hb2, hc2⟩ := HI8.out k hlt
      subst ha1 ha2
      rw [HPRE.out k (by rw [HN8.out]; exact hlt)] at hc1
      generalize (outB true cv 0).getD k 0 = x at hc1 hc2
      have t0 : (x != x) = false := by simp
      have v0 : (0 : Int) ≤ (k : Int) := by omega
      have v1 : (k : Int) < (n1 : Int) := by omega
      have v2 : (k : Int) < (n8 : Int) := by omega
      have v3 : (k : Int) ≤ 40000000 := by omega
      have v4 : decide (k < n8) = true := by simp; omega
      go_wp2_with fail
      go_quiet (fail)
      go_wp2_with fail
      go_roundw
      case rel => exact ⟨k + 1, _, by omega, by go_num, rfl⟩
      case measure => simp [intOf]; omega
    · obtain rfl : k = n8 := by omega
      have v4 : decide (k < k) = false := by simp
      have HBDg := Lib.hid (HBDf.out.drewN m)
      have HB6 := Lib.hid (show Below wa.heap.size wa (wf.drewN m) from HB5.out.trans (by repeat (first | exact Below.refl _ _ | apply below_drewN)))
      have HIG := Lib.hid (show IsInts .u8 (wf.drewN m) A1 n1 c1 (outB true cv L) from HI1'.out)
      clear HBDf HB5 HICf HI1 HI8 HI1'
      generalize wf.drewN m = wg at HBDg HB6 HIG ⊢
      go_upto_region 23 with fail
      go_upto_if 77 with fail
      go_cut [13] (fun x13 wx => x13 = .int .i64 (n1 : Int) ∧ Below wg.heap.size wg wx)
      case first =>
        cases L with
        | zero =>
          have tL : decide ((0 : Int) < ((0 : Nat) : Int)) = false := rfl
          have hn18 : n1 = k := by rw [← HN1.out, ← HN8.out]
          subst hn18
          go_wp2_with fail
          go_meet
          case rel => exact ⟨rfl, Below.refl _ _⟩
        | succ jj =>
          have HSG := Lib.hid (yes_seg cv jj HCV.out)
          have HYL := Lib.hid (yes_len cv jj)
          have HP0 := Lib.hid (show k + 1 = sP cv 0 by unfold sP sS; rw [if_pos rfl, HN8.out])
          have HPle := Lib.hid (HSG.out.up 0 (by omega))
          have hk44 := yes_44 cv jj
          rw [HN8.out] at hk44
          have hY := HYL.out
          rw [HN1.out] at hY
          have hPP := HPle.out
          rw [← HP0.out] at hPP
          obtain ⟨E, hE⟩ : ∃ E, sP cv 4 = E := ⟨_, rfl⟩
          have HE := Lib.hid hE
          rw [hE] at hY hPP
          have H12 := Lib.hid (show Calls Tryd.prog 12 #[.slice A1 n1 c1, .int .i64 ((k : Int) + 1)] wg fun e w' => e = .returned (.int .i64 (E : Int)) ∧ ∃ m, w' = wg.drewN m from sep12 A1 n1 c1 (k + 1) E _ wg HIG.out (by omega) hPP (by omega) (by rw [← hE, HP0.out]; exact yes_mark cv jj) (by rw [← hE]; exact yes_end cv jj))
          have HRD := Lib.hid (fun k => HIG.out.read k)
          obtain ⟨b1, o1, ha1, hb1, hc1⟩ := HRD.out k (by omega)
          subst ha1
          rw [hk44] at hc1
          have v0 : (0 : Int) ≤ (k : Int) := by omega
          have v1 : (k : Int) < (n1 : Int) := by omega
          have v3 : (k : Int) ≤ 40000000 := by omega
          have u0 : decide (n1 ≤ k) = false := by simp; omega
          have HYE := Lib.hid hY
          have hE1 : E + 1 + 5 * jj ≤ n1 := by omega
          have tL : decide (0 < jj + 1) = true := by simp
          clear hk44 hE hb1 hY
          go_upto_region 29 with (go_at_call 12; (with_reducible refine H12.out.mono ?_); rintro e w' ⟨rfl, m2, rfl⟩)
          have H13 := Lib.hid (seg13 (some ⟨b1, o1, none⟩) n1 c1 _ (sP cv) (sV cv) (wg.drewN m2) (show IsInts .u8 (wg.drewN m2) (some ⟨b1, o1, none⟩) n1 c1 _ from HIG.out) (by omega) (by rw [HE.out]; omega) HSG.out)
          rw [← HP0.out, HE.out] at H13
          unfold Seg at H13
          rw [show ((k + 1 : Nat) : Int) = (k : Int) + 1 from rfl] at H13
          have hvr : vrow (sV cv) 4 = [.int .i64 (-cv), .int .i64 0, .int .i64 0, .int .i64 0, .int .i64 0, .int .i64 0] := by
            have e : UgK.valOf (vlqOf (-cv)) = -cv := valOf_vlq _
            have e0 : UgK.valOf 0 = 0 := rfl
            simp [vrow, List.range_succ, sV, e, e0]
          rw [hvr] at H13
          clear hvr
          go_upto_region 30 with (go_at_call 13; (with_reducible refine H13.out.mono ?_); rintro e wh ⟨s0, s1, s2, s3, s4, s5, rfl, hbh⟩; have HBH := Lib.hid hbh; clear hbh)
          have HBI := Lib.hid (show Below wg.heap.size wg ((wh.alloc (.cells #[.int .i64 (-cv), .int .i64 0, .int .i64 0, .int .i64 0, .int .i64 0, .int .i64 0] 36)).alloc (.cells #[.int .i64 s0, .int .i64 s1, .int .i64 s2, .int .i64 s3, .int .i64 s4, .int .i64 s5] 36)) from
            (((show Below wg.heap.size wg (wg.drewN m2) by repeat (first | exact Below.refl _ _ | apply below_drewN)).trans HBH.out).alloc HBH.out.size _).alloc (by have := HBH.out.size; simp at this ⊢; omega) _)
          have RV := (Row.newArr wh 36 #[.int .i64 (-cv), .int .i64 0, .int .i64 0, .int .i64 0, .int .i64 0, .int .i64 0]).alloc (.cells #[.int .i64 s0, .int .i64 s1, .int .i64 s2, .int .i64 s3, .int .i64 s4, .int .i64 s5] 36)
          generalize hWI : ((wh.alloc (.cells #[.int .i64 (-cv), .int .i64 0, .int .i64 0, .int .i64 0, .int .i64 0, .int .i64 0] 36)).alloc (.cells #[.int .i64 s0, .int .i64 s1, .int .i64 s2, .int .i64 s3, .int .i64 s4, .int .i64 s5] 36)) = wi at HBI RV ⊢
          have x0 := RV.at_ (i := 0) rfl
          have x1 := RV.at_ (i := 1) rfl
          have x2 := RV.at_ (i := 2) rfl
          have x3 := RV.at_ (i := 3) rfl
          have HII := Lib.hid (fun k => (HIG.out.later HBI.out).read k)
          have k0 := HCV.out.1
          have k1 := HCV.out.2
          obtain ⟨b2, o2, ha2, hb2, hc2⟩ := HII.out E (by omega)
          injection ha2 with ha2
          injection ha2 with ha2 ha3
          subst ha2 ha3
          have hye := yes_end cv jj
          rw [HE.out] at hye
          rw [hye] at hc2
          have q0 : (0 : Int) ≤ (E : Int) := by omega
          have q1 : (E : Int) < (n1 : Int) := by omega
          have q3 : (E : Int) ≤ 40000000 := by omega
          have q4 : decide (n1 ≤ E) = false := by simp; omega
          clear hWI RV hye hb2 H13 H12 hc1 v0 v1 u0
          go_upto_region 36 with fail
          clear x0 x1 x2 x3 hc2
          go_loopw [13, 19] (fun x13 x19 wx => ∃ t : Nat, t ≤ jj ∧ x13 = .int .i64 ((E + 1 + 5 * t : Nat) : Int) ∧ x19 = .int .i64 (t : Int) ∧ wx = wi) (fun _ x19 _ => jj - (intOf x19).toNat)
          case atStart => exact ⟨0, Nat.zero_le _, rfl, rfl, rfl⟩
          case round =>
            obtain ⟨t, ht, rfl, rfl, rfl⟩ := hrel
            have z0 : (t : Int) ≤ 40000000 := by omega
            have z1 : (jj : Int) ≤ 40000000 := by omega
            have z2 : (0 : Int) ≤ (jj : Int) := by omega
            obtain ⟨Q, hQ⟩ : ∃ Q, E + 1 + 5 * t = Q := ⟨_, rfl⟩
            rw [hQ]
            have HQ := Lib.hid hQ
            by_cases hlt2 : t < jj
            · have rd : ∀ i, i < 5 → ∃ b off, some (⟨b1, o1, none⟩ : Addr) = some ⟨b, off, none⟩ ∧ wr.cell? ⟨b, off + (Q + i), none⟩ = some (.int .u8 (five.getD i 0)) := by
                intro i hi
                obtain ⟨b, off, h1, h2, h3⟩ := HII.out (Q + i) (by omega)
                refine ⟨b, off, h1, ?_⟩
                have h4 := yes_rep cv jj t i hlt2 hi
                rw [HE.out, show E + 1 + (5 * t + i) = Q + i by omega] at h4
                rw [h3, h4]
              have g : ∀ i, i < 5 → wr.cell? ⟨b1, o1 + (Q + i), none⟩ = some (.int .u8 (five.getD i 0)) := by
                intro i hi
                obtain ⟨b, off, h1, h2⟩ := rd i hi
                injection h1 with h1
                injection h1 with h1 h3
                subst h1 h3
                exact h2
              have g0 : wr.cell? ⟨b1, o1 + Q, none⟩ = some (.int .u8 65) := g 0 (by omega)
              have g1 : wr.cell? ⟨b1, o1 + (Q + 1), none⟩ = some (.int .u8 65) := g 1 (by omega)
              have g2 : wr.cell? ⟨b1, o1 + (Q + 2), none⟩ = some (.int .u8 65) := g 2 (by omega)
              have g3 : wr.cell? ⟨b1, o1 + (Q + 3), none⟩ = some (.int .u8 65) := g 3 (by omega)
              have g4 : wr.cell? ⟨b1, o1 + (Q + 4), none⟩ = some (.int .u8 59) := g 4 (by omega)
              have y0 : (0 : Int) ≤ (Q : Int) := by omega
              have y1 : (Q : Int) + 5 ≤ (n1 : Int) := by omega
              have y2 : (Q : Int) < (n1 : Int) := by omega
              have y3 : (Q : Int) + 1 < (n1 : Int) := by omega
              have y4 : (Q : Int) + 2 < (n1 : Int) := by omega
              have y5 : (Q : Int) + 3 < (n1 : Int) := by omega
              have y6 : (Q : Int) + 4 < (n1 : Int) := by omega
              have y7 : (n1 : Int) ≤ 40000000 := by omega
              have u1 : decide (t < jj) = true := by simp; omega
              have u2 : decide ((n1 : Int) < (Q : Int) + 5) = false := by simp; omega
              clear rd g hQ
              go_wp2_with fail
              go_roundw
              case rel => exact ⟨t + 1, by omega, by have := HQ.out; go_num, by go_num, by trivial⟩
              case measure => simp [intOf]; omega
            · obtain rfl : t = jj := by omega
              have u1 : decide (t < t) = false := by simp
              have HRL := Lib.hid (show Value.int .i64 (Q : Int) = .int .i64 (n1 : Int) by rw [HYE.out, HQ.out])
              clear hQ
              go_wp2_with fail
              go_meet
              case rel => exact ⟨HRL.out, HBI.out⟩
      case rest =>
      obtain ⟨rfl, hbx⟩ := hcut
      have HBDx := Lib.hid (bd_later HBDg.out hbx (Nat.le_refl _))
      have HBX := Lib.hid (HB6.out.trans (hbx.mono (Nat.le_trans HBDg.out.hj (Nat.le_of_lt HBDg.out.row.lt))))
      clear hbx HBDg HB6 HIG HPRE hpl hl28 h0len
      have HB7 := Lib.hid (HBA.out.trans (HBX.out.mono HBA.out.size))
      by_cases hL0 : L = 0
      · subst hL0
        have tl0 : ((0 : Int) == 0) = true := by rfl
        have tl1 : decide (0 < 0) = false := by rfl
        have HBDy := Lib.hid (show Bd wc wa.heap.size j q (.slice A1 n1 c1) _ 0 cv 1 2 3 (n : Int) (U : Int) true from by have h9 := HBDx.out; unfold gq at h9; exact h9)
        have H14 := Lib.hid (st14 HBDy.out)
        unfold st7 at H14
        have k0 := HCV.out.1
        have k1 := HCV.out.2
        go_upto_region 52 with (go_at_call 14; (with_reducible refine H14.out.mono ?_); rintro e wy ⟨rfl, hby⟩; have HBY := Lib.hid hby; clear hby)
        have hbz := HBY.out.alloc HBY.out.size (.cells #[.int .i64 0, .int .i64 cv, .int .i64 1, .int .i64 2, .int .i64 3, .int .i64 0, .bool false] 30)
        have HBDz := Lib.hid (bd_later HBDy.out hbz (Nat.le_refl _))
        have HB8 := Lib.hid (HB7.out.trans (hbz.mono (Nat.le_trans HBA.out.size HBX.out.size)))
        have RZ := Row.newArr wy 30 #[.int .i64 0, .int .i64 cv, .int .i64 1, .int .i64 2, .int .i64 3, .int .i64 0, .bool false]
        generalize hZ : wy.alloc (.cells #[.int .i64 0, .int .i64 cv, .int .i64 1, .int .i64 2, .int .i64 3, .int .i64 0, .bool false] 30) = wz at HBDz HB8 RZ ⊢
        have r0 := RZ.at_ (i := 0) rfl
        have r1 := RZ.at_ (i := 1) rfl
        have r2 := RZ.at_ (i := 2) rfl
        have r3 := RZ.at_ (i := 3) rfl
        have r4 := RZ.at_ (i := 4) rfl
        have r6 := RZ.at_ (i := 6) rfl
        have H15 := Lib.hid (col15 HBDz.out)
        have H16 := Lib.hid (upd16 HBDz.out)
        have H17 := Lib.hid (lin17 HBDz.out)
        have H18 := Lib.hid (has18 HBDz.out)
        clear hZ RZ hbz HBDx HBDy HBDz H14 HB7 HBX
        go_wp2_with (first | (go_at_call 15; (with_reducible refine H15.out.mono ?_); rintro e w' ⟨rfl, rfl⟩) | (go_at_call 16; (with_reducible refine H16.out.mono ?_); rintro e w' ⟨rfl, rfl⟩) | (go_at_call 17; (with_reducible refine H17.out.mono ?_); rintro e w' ⟨rfl, rfl⟩) | (go_at_call 18; (with_reducible refine H18.out.mono ?_); rintro e w' ⟨rfl, rfl⟩))
        go_ret
        exact ⟨rfl, HB8.out⟩
      · skip
        have tl0 : ((L : Int) == 0) = false := by simp; omega
        have tl1 : decide (0 < L) = true := by simp; omega
        have HBDy := Lib.hid (show Bd wc wa.heap.size j q (.slice A1 n1 c1) _ (L : Int) 0 1 2 3 (n : Int) (U : Int) true from by have h9 := HBDx.out; unfold gq at h9; rwa [if_neg hL0] at h9)
        have H14 := Lib.hid (st14 HBDy.out)
        unfold st7 at H14
        have k0 := HCV.out.1
        have k1 := HCV.out.2
        go_upto_region 52 with (go_at_call 14; (with_reducible refine H14.out.mono ?_); rintro e wy ⟨rfl, hby⟩; have HBY := Lib.hid hby; clear hby)
        have hbz := HBY.out.alloc HBY.out.size (.cells #[.int .i64 (L : Int), .int .i64 0, .int .i64 1, .int .i64 2, .int .i64 3, .int .i64 0, .bool false] 30)
        have HBDz := Lib.hid (bd_later HBDy.out hbz (Nat.le_refl _))
        have HB8 := Lib.hid (HB7.out.trans (hbz.mono (Nat.le_trans HBA.out.size HBX.out.size)))
        have RZ := Row.newArr wy 30 #[.int .i64 (L : Int), .int .i64 0, .int .i64 1, .int .i64 2, .int .i64 3, .int .i64 0, .bool false]
        generalize hZ : wy.alloc (.cells #[.int .i64 (L : Int), .int .i64 0, .int .i64 1, .int .i64 2, .int .i64 3, .int .i64 0, .bool false] 30) = wz at HBDz HB8 RZ ⊢
        have r0 := RZ.at_ (i := 0) rfl
        have r1 := RZ.at_ (i := 1) rfl
        have r2 := RZ.at_ (i := 2) rfl
        have r3 := RZ.at_ (i := 3) rfl
        have r4 := RZ.at_ (i := 4) rfl
        have r6 := RZ.at_ (i := 6) rfl
        have H15 := Lib.hid (col15 HBDz.out)
        have H16 := Lib.hid (upd16 HBDz.out)
        have H17 := Lib.hid (lin17 HBDz.out)
        have H18 := Lib.hid (has18 HBDz.out)
        clear hZ RZ hbz HBDx HBDy HBDz H14 HB7 HBX
        go_wp2_with (first | (go_at_call 15; (with_reducible refine H15.out.mono ?_); rintro e w' ⟨rfl, rfl⟩) | (go_at_call 16; (with_reducible refine H16.out.mono ?_); rintro e w' ⟨rfl, rfl⟩) | (go_at_call 17; (with_reducible refine H17.out.mono ?_); rintro e w' ⟨rfl, rfl⟩) | (go_at_call 18; (with_reducible refine H18.out.mono ?_); rintro e w' ⟨rfl, rfl⟩))
        go_ret
        exact ⟨rfl, HB8.out⟩
end Go.Proofs.YtmakaafjkeeooacDoor.UgN
