/- FnMarkReachableMatchesBFS: the model's distances. -/
import Derived.Test.YtpidbikdncgogaaRows
import Derived.Test.YtpidbikdncgogaaMem
import Derived.Test.YtpidbikdncgogaaSl
import Derived.Test.YtpidbikdncgogaaMrQ
import Derived.Test.YtpidbikdncgogaaMrW
import Derived.Carry
import Derived.Deep.DeepCutAuto
import Derived.WalkKit
import Derived.ProofKit
import Derived.OpenShut
import Derived.Below
import Derived.WalkLawsBesides
import Derived.Lib.Hide
import Derived.Outline
import Derived.RegionTactic
import Derived.Deep.QuietTactic
import Derived.BigQuiet
import Derived.WalkSpells
import Derived.Deep.OwnRows
import Derived.IntWalk
import Derived.Deep.DeepMust
namespace Go.Proofs.Ytpidbikdncgogaa.MrM
open Go.RowKit Mem Sl
set_option linter.unusedVariables false
open Args Fvs Fxs Argn Tab MrI MrA MrC MrG MrW MrX Own Owg MrQ
open MrP (INF Gr Path Sound Rel Bfs)

theorem make34 (W : World) (a n : Nat) (h : a ≤ n) (hn : n ≤ 256) : (Instr.makeSlice 34 (.int .i64 (a : Int)) (.int .i64 (n : Int))).run Try.prog W = .ok (.slice (some ⟨W.heap.size, 0, none⟩) a n) (W.alloc (.cells (madeCells #[.int .u32 0] n) 23)) := by
  obtain ⟨i, hi, hzz⟩ := Option.map_eq_some_iff.1 info23
  simp only [Prod.mk.injEq] at hzz
  obtain ⟨hz, hsz, hb⟩ := hzz
  have hr := run_make (P := Try.prog) W 34 23 i (.int .u32 0) Try.underlying34 hi hz .i64 .i64 (a : Int) (n : Int) (by omega) (by omega) (by rw [hb]; omega) (by omega)
  simp only [Int.toNat_natCast, hsz, Nat.mul_one] at hr
  exact hr
def Md (n s : Nat) (d : Dat) (w : World) (e : Ending) (w' : World) : Prop :=
  ∃ D q part, e = .returned (.slice (some ⟨w.heap.size, 0, none⟩) n n) ∧ Fv w' w.heap.size n (fun i => .int .u32 (D i : Int)) ∧ Below w.heap.size w w' ∧ Bfs (gr n d) s D q q.length part
/-- The main loop. -/
def Bm (n Q1 s hd : Nat) (d : Dat) (w0 : World) (v : Value) (wx : World) : Prop :=
  ∃ A c D q, v = .slice A q.length c ∧ Qw wx Q1 n D A c q ∧ Below Q1 w0 wx ∧ Bfs (gr n d) s D q hd (fun _ => False) ∧ hd ≤ q.length
set_option maxRecDepth 100000 in
set_option maxHeartbeats 16000000 in
theorem dist10 (n s : Nat) (d : Dat) (b0 o0 fc : Nat) (h : Hdr) (w : World) (hf : Fs w (some ⟨b0, o0, none⟩) n d h) (hs : s < n) (hn : n ≤ 256) (hgd : MrW.Good n n d) (hwf : Wf n d) (hl : Lens n d) :
    Calls Try.prog 10 #[.slice (some ⟨b0, o0, none⟩) n fc, .int .u32 (s : Int)] w (Md n s d w) := by
  have HF := Lib.hid hf
  have GD := Lib.hid hgd
  have WF := Lib.hid hwf
  have HLN := Lib.hid hl
  have HS := Lib.hid hs
  have mk := make34 w n n (Nat.le_refl _) hn
  have fv := fv_made w 23 (.int .u32 0) n
  have b1 : Below w.heap.size w (w.alloc (.cells (madeCells #[.int .u32 0] n) 23)) := (Below.refl _ _).alloc (Nat.le_refl _) _
  obtain ⟨w1, hw1⟩ : ∃ x, x = w.alloc (.cells (madeCells #[.int .u32 0] n) 23) := ⟨_, rfl⟩
  obtain ⟨Q1, hQ1⟩ : ∃ x, x = w.heap.size := ⟨_, rfl⟩
  rw [← hw1, ← hQ1] at mk fv
  rw [← hw1] at b1
  rw [← hQ1] at b1
  have F1 := Lib.hid fv
  have B1 := Lib.hid b1
  have HQ := Lib.hid hQ1
  clear hf hgd hwf hl fv b1 hw1 hQ1 hs
  go_enter Try.func10, Try.ntmps10
  go_upto_region 3 with fail
  clear mk
  go_wp2
  go_loopw [7] (fun i wr => ∃ k : Nat, k ≤ n ∧ i = .int .i64 k ∧ Fv wr Q1 n (upto (fun _ => .int .u32 4294967295) (.int .u32 0) k) ∧ Below Q1 w wr) (fun i _ => n - (intOf i).toNat)
  case atStart => exact ⟨0, Nat.zero_le _, rfl, F1.out.congr (fun i _ => (if_neg (Nat.not_lt_zero i)).symm), B1.out⟩
  case round =>
    clear F1
    obtain ⟨k, hk, rfl, hfv, hbl⟩ := hrel
    have FK := Lib.hid hfv
    have BK := Lib.hid hbl
    clear hfv hbl
    by_cases hlk : k < n
    · have x0 := FK.out.cell k hlk
      have z0 := FK.out.frozen k
      have NF := Lib.hid ((FK.out.set hlk (.int .u32 4294967295)).congr (fun i _ => upto_step (fun _ => .int .u32 4294967295) (.int .u32 0) k i))
      have NB := Lib.hid (BK.out.setCell (p := ⟨Q1, k, none⟩) (Nat.le_refl _) (.int .u32 4294967295))
      as_aux_lemma =>
        go_wp2
        go_roundw
        case rel => first | exact ⟨k + 1, by omega, by go_num, NF.out, NB.out⟩ | exact hrel
        case measure => simp [intOf]; omega
    · obtain rfl : n = k := by omega
      obtain ⟨w2, hw2⟩ : ∃ x, x = wr := ⟨_, rfl⟩
      rw [← hw2] at FK BK ⊢
      clear hw2
      have F2 := Lib.hid (show Fv w2 Q1 n (fun _ => .int .u32 ((INF : Nat) : Int)) from FK.out.congr (fun i hi => if_pos hi))
      have mk : (Instr.makeSlice 34 (.int .i64 0) (.int .i64 (n : Int))).run Try.prog w2 = .ok (.slice (some ⟨w2.heap.size, 0, none⟩) 0 n) (w2.alloc (.cells (madeCells #[.int .u32 0] n) 23)) := make34 w2 0 n (Nat.zero_le _) hn
      have ow := own_made w2 (Q1 + 1) 23 .u32 n F2.out.lt (by unfold maxLen; omega)
      have b3 : Below w2.heap.size w2 (w2.alloc (.cells (madeCells #[.int .u32 0] n) 23)) := (Below.refl _ _).alloc (Nat.le_refl _) _
      obtain ⟨w3, hw3⟩ : ∃ x, x = w2.alloc (.cells (madeCells #[.int .u32 0] n) 23) := ⟨_, rfl⟩
      obtain ⟨Q2, hQ2⟩ : ∃ x, x = w2.heap.size := ⟨_, rfl⟩
      rw [← hw3, ← hQ2] at mk ow
      rw [← hw3] at b3
      have B3 := Lib.hid (BK.out.trans (b3.mono (Nat.le_of_lt F2.out.lt)))
      have QW := Lib.hid (show Qw w3 Q1 n (fun _ => INF) (some ⟨Q2, 0, none⟩) n [] from ⟨F2.out.below b3 F2.out.lt, ow⟩)
      clear F2 ow b3 hw3 hQ2 FK BK
      go_upto_region 8 with fail
      clear mk
      have F3 := Lib.hid (HF.out.later (show Below w.heap.size w w3 by rw [← HQ.out]; exact B3.out))
      have R17 := Lib.hid (reach17 n Q1 d (fun _ => INF) [] s 0 (some ⟨b0, o0, none⟩) fc h (some ⟨Q2, 0, none⟩) n w3 F3.out HS.out QW.out hn (Nat.zero_le _))
      go_cut [8] (fun v wx => Bm n Q1 s 0 d w v wx)
      case first =>
        go_wp2_with fail
        refine R17.out.mono ?_
        rintro e w4 ho
        have NB : ∃ v, e = .returned v ∧ Bm n Q1 s 0 d w v w4 := by
          obtain ⟨A', c', D', q', rfl, k1, k2, k3, k4⟩ := ho
          have hge : ∀ g, ob (some ⟨Q2, 0, none⟩) = some g → Q1 + 1 ≤ g := fun g hg => (QW.out.own.lt g ((ob_own _ _ _).trans hg)).1
          have hb : Below Q1 w w4 := B3.out.trans (k2.below (by have := QW.out.dist.lt; omega) (fun j hj => by
            rcases hj with rfl | hj
            · exact Nat.le_refl _
            · have := hge j hj.symm; omega))
          refine ⟨_, rfl, A', c', D', q', rfl, k1, hb, ?_, Nat.zero_le _⟩
          rcases k4 with ⟨rfl, rfl, k5⟩ | ⟨rfl, rfl, k5, k6⟩
          · rcases k5 with k5 | k5
            · exact MrP.bfs_dead k5
            · exact absurd rfl k5
          · exact MrP.bfs_live k5 HS.out
        obtain ⟨v4, rfl, hbm⟩ := NB
        have BM := Lib.hid hbm
        clear ho hbm
        as_aux_lemma =>
          go_wp2
          go_meet
          case rel => exact BM.out
      case rest =>
        have BM := Lib.hid hcut
        clear hcut R17 F3 QW B3
        go_wp2
        go_loopw [8, 9] (fun v i wr => ∃ hd : Nat, hd ≤ n ∧ i = .int .i64 hd ∧ Bm n Q1 s hd d w v wr) (fun _ i _ => n - (intOf i).toNat)
        case atStart => exact ⟨0, Nat.zero_le _, rfl, BM.out⟩
        case round =>
          clear BM
          obtain ⟨hd, hhd, rfl, hbm⟩ := hrel
          obtain ⟨A, c, D, q, rfl, hqw, hbl, hbf, hhq⟩ := hbm
          obtain ⟨wp, hwp⟩ : ∃ x, x = wr := ⟨_, rfl⟩
          rw [← hwp] at hqw hbl ⊢
          have QW := Lib.hid hqw
          have BP := Lib.hid hbl
          have BF := Lib.hid hbf
          have hlen : q.length ≤ n := hbf.len
          obtain ⟨m, hm⟩ : ∃ m, m = q.length := ⟨_, rfl⟩
          rw [← hm] at hhq hlen ⊢
          have HM := Lib.hid hm
          clear hqw hbl hbf hm hwp
          by_cases hlt : hd < m
          · obtain ⟨u, hu⟩ : ∃ u, q[hd]? = some u := ⟨_, List.getElem?_eq_getElem (by rw [← HM.out]; exact hlt)⟩
            obtain ⟨g, hA, hg, eu⟩ := own_at QW.out.own hu
            have hun : u < n := BF.out.ltn u (List.mem_of_getElem? hu)
            have e3 := QW.out.dist.cell u hun
            obtain ⟨du, hdu⟩ : ∃ x, x = D u := ⟨_, rfl⟩
            rw [← hdu] at e3
            have hdu2 : du ≤ 256 := by
              have := BF.out.idx hd u hu
              omega
            have hw0 : Q1 ≤ w.heap.size := by rw [HQ.out]; exact Nat.le_refl _
            have HW0 := Lib.hid hw0
            have hfp := HF.out.later (show Below w.heap.size w wp by rw [← HQ.out]; exact BP.out)
            obtain ⟨b, o, hab, hb, p0, p1, p2, p3, p4⟩ := hfp.file u hun
            injection hab with hab
            injection hab with hab1 hab2
            subst hab1
            subst hab2
            subst hA
            obtain ⟨css, hcss⟩ : ∃ x, x = d.css u := ⟨_, rfl⟩
            obtain ⟨rl, hrl⟩ : ∃ x, x = d.rl u := ⟨_, rfl⟩
            obtain ⟨pl, hpl⟩ : ∃ x, x = d.pl u := ⟨_, rfl⟩
            obtain ⟨RA, hRA⟩ : ∃ x, x = h.RA u := ⟨_, rfl⟩
            obtain ⟨PA, hPA⟩ : ∃ x, x = h.PA u := ⟨_, rfl⟩
            obtain ⟨RC, hRC⟩ : ∃ x, x = h.RC u := ⟨_, rfl⟩
            obtain ⟨PC, hPC⟩ : ∃ x, x = h.PC u := ⟨_, rfl⟩
            obtain ⟨se, hse⟩ : ∃ x, x = d.se u := ⟨_, rfl⟩
            obtain ⟨lv, hlv⟩ : ∃ x, x = d.lv u := ⟨_, rfl⟩
            rw [← hcss] at p0
            rw [← hse] at p1
            rw [← hlv] at p2
            rw [← hRA, ← hrl, ← hRC] at p3
            rw [← hPA, ← hpl, ← hPC] at p4
            have hcn : css < (n : Int) := by rw [hcss]; exact (GD.out u hun).2.1
            have hrl1 : rl ≤ 1048576 := by rw [hrl]; exact (HLN.out u hun).1
            have hpl1 : pl ≤ 1048576 := by rw [hpl]; exact (HLN.out u hun).2.1
            have HCS := Lib.hid hcss
            have HRL := Lib.hid hrl
            have HPL := Lib.hid hpl
            have HRA := Lib.hid hRA
            have HPA := Lib.hid hPA
            have HUN := Lib.hid hun
            have HU := Lib.hid hu
            have HDU := Lib.hid hdu
            have hui : (u : Int) < (n : Int) := by omega
            have r5 := Row.newArr wp 68 #[.int .i32 css, .bool se, .bool lv, .slice RA rl RC, .slice PA pl PC]
            have b5 : Below wp.heap.size wp (wp.alloc (.cells #[.int .i32 css, .bool se, .bool lv, .slice RA rl RC, .slice PA pl PC] 68)) := (Below.refl _ _).alloc (Nat.le_refl _) _
            clear hfp hb hcss hrl hpl hRA hPA hRC hPC hse hlv hu hdu hun hw0
            go_upto_region 14 with fail
            obtain ⟨g5, hg5⟩ : ∃ z, z = wp.heap.size := ⟨_, rfl⟩
            obtain ⟨w5, hw5⟩ : ∃ z, z = wp.alloc (.cells #[.int .i32 css, .bool se, .bool lv, .slice RA rl RC, .slice PA pl PC] 68) := ⟨_, rfl⟩
            rw [← hw5] at r5 b5 ⊢
            obtain ⟨L, hL⟩ : ∃ L, L = [Value.int .i32 css, .bool se, .bool lv, .slice RA rl RC, .slice PA pl PC] := ⟨_, rfl⟩
            have rL : Row w5 wp.heap.size 68 L := by rw [hL]; exact r5
            have L0 := Lib.hid (show L[0]? = some (.int .i32 css) from by rw [hL]; rfl)
            have L3 := Lib.hid (show L[3]? = some (.slice RA rl RC) from by rw [hL]; rfl)
            have L4 := Lib.hid (show L[4]? = some (.slice PA pl PC) from by rw [hL]; rfl)
            have BQ := Lib.hid (show Bq n Q1 s hd u du g5 d L w (fun _ => False) (.slice (some ⟨g, 0, none⟩) m c) w5 from
              ⟨_, c, D, q, by rw [HM.out], QW.out.later b5, BP.out.trans (b5.mono (by have := QW.out.dist.lt; omega)), BF.out, HU.out, HDU.out.symm, by rw [hg5]; exact rL, by have := QW.out.dist.lt; omega, fun e => by
                have h1 := (QW.out.own.lt g rfl).2
                injection e with e
                have h2 : g = g5 := e
                omega⟩)
            have e3' := cell_later b5 e3
            have m0 := r5.at_ (i := 0) rfl
            rw [← hg5] at m0 ⊢
            clear r5 b5 hg5 hw5 hL rL p0 p1 p2 p3 p4 eu e3
            go_upto_if 57 with fail
            have M0 := Lib.hid m0
            clear m0 e3'
            go_cut [8] (fun v wx => Bq n Q1 s hd u du g5 d L w (fun x => d.css u = (x : Int)) v wx)
            case first =>
              by_cases q0 : css < 0
              · have t0 : decide (css ≥ (0 : Int)) = false := by simp; omega
                have t1 : decide ((0 : Int) ≤ css) = false := by simp; omega
                have SX := Lib.hid (BQ.out.weaker (p' := fun x => d.css u = (x : Int)) (fun y hy => by rw [← HCS.out] at hy; omega))
                as_aux_lemma =>
                  go_wp2
                  go_meet
                  case rel => exact SX.out
              · have t0 : decide (css ≥ (0 : Int)) = true := by simp; omega
                have t1 : decide ((0 : Int) ≤ css) = true := by simp; omega
                obtain ⟨ci, hci⟩ : ∃ ci : Nat, css = (ci : Int) := ⟨css.toNat, by omega⟩
                subst hci
                have cin : ci < n := by omega
                have wk : IntKind.u32.wrap (ci : Int) = (ci : Int) := IntWalk.u32_in _ (by omega)
                have m0 := M0.out
                obtain ⟨A2, c2, D2, q2, hv, k1, k2, k3, k4, k5, k6, k7, k8⟩ := BQ.out
                have CN := Lib.hid cin
                have F5 := Lib.hid (HF.out.later (show Below w.heap.size w w5 by rw [← HQ.out]; exact k2))
                have RX := Lib.hid (reach17 n Q1 d D2 q2 ci (du + 1) (some ⟨b0, o0, none⟩) fc h A2 c2 w5 F5.out cin k1 hn (Nat.le_trans k3.len hn))
                have STEP := Lib.hid (fun (e : Ending) (w' : World) (ho : Of n Q1 d D2 A2 q2 ci (du + 1) w5 e w') => bq_step (p' := fun x => d.css u = (x : Int)) hn k1 k2 k3 k4 k5 k6 k7 k8 (.inl HCS.out.symm) CN.out ho HW0.out (fun y hy => by right; have := HCS.out; omega))
                have ec : ((du + 1 : Nat) : Int) = (du : Int) + 1 := by omega
                rw [← hv, ec] at RX
                clear hv k1 k2 k3 k4 k5 k6 k7 k8 ec
                go_wp2_with fail
                refine RX.out.mono ?_
                rintro e w6 ho
                obtain ⟨v6, rfl, hbq⟩ := STEP.out e w6 ho
                have BQ6 := Lib.hid hbq
                clear ho hbq
                as_aux_lemma =>
                  go_wp2
                  go_meet
                  case rel => exact BQ6.out
            case rest =>
              have BQ7 := Lib.hid hcut
              clear hcut
              go_wp2
              go_loopw [8, 13] (fun v i wr => ∃ j : Nat, j ≤ rl ∧ i = .int .i64 j ∧ Bq n Q1 s hd u du g5 d L w (Pr d u j) v wr) (fun _ i _ => rl - (intOf i).toNat)
              case atStart => exact ⟨0, Nat.zero_le _, rfl, BQ7.out.weaker (fun y hy => pr_zero hy)⟩
              case round =>
                clear BQ7
                obtain ⟨j, hj, rfl, hbq⟩ := hrel
                obtain ⟨A2, c2, D2, q2, rfl, k1, k2, k3, k4, k5, k6, k7, k8⟩ := hbq
                obtain ⟨w5, hw5⟩ : ∃ x, x = wr := ⟨_, rfl⟩
                rw [← hw5] at k1 k2 k6 ⊢
                have BQJ := Lib.hid (show Bq n Q1 s hd u du g5 d L w (Pr d u j) (.slice A2 q2.length c2) w5 from ⟨A2, c2, D2, q2, rfl, k1, k2, k3, k4, k5, k6, k7, k8⟩)
                have m3 := k6.at_ L3.out
                have F5 := Lib.hid (HF.out.later (show Below w.heap.size w w5 by rw [← HQ.out]; exact k2))
                clear hw5
                by_cases hlj : j < rl
                · obtain ⟨b2, o2, ha2, hb2, e0, e1, e2⟩ := F5.out.rcd u HUN.out j (by rw [← HRL.out]; exact hlj)
                  rw [← HRA.out] at ha2
                  subst ha2
                  obtain ⟨t, ht⟩ : ∃ x, x = d.rt u j := ⟨_, rfl⟩
                  rw [← ht] at e0
                  have htn : t < (n : Int) := by rw [ht]; exact ((GD.out u HUN.out).2.2.1 j (by rw [← HRL.out]; exact hlj)).2
                  have HT := Lib.hid ht
                  clear ht e1 e2 hb2
                  by_cases q0 : t < 0
                  · have t0 : decide (t ≥ (0 : Int)) = false := by simp; omega
                    have t1 : decide ((0 : Int) ≤ t) = false := by simp; omega
                    have SN9 := Lib.hid (BQJ.out.weaker (p' := Pr d u (j + 1)) (fun y hy => by
                      rcases pr_next hy with h | h
                      · exact h
                      · rw [← HT.out] at h; omega))
                    clear k1 k2 k3 k4 k5 k6 k7 k8
                    as_aux_lemma =>
                      go_wp2
                      go_roundw
                      case rel => first | exact ⟨j + 1, by omega, by go_num, SN9.out⟩ | exact hrel
                      case measure => simp [intOf]; omega
                  · have t0 : decide (t ≥ (0 : Int)) = true := by simp; omega
                    have t1 : decide ((0 : Int) ≤ t) = true := by simp; omega
                    obtain ⟨ci, hci⟩ : ∃ ci : Nat, t = (ci : Int) := ⟨t.toNat, by omega⟩
                    subst hci
                    have cin : ci < n := by omega
                    have wk : IntKind.u32.wrap (ci : Int) = (ci : Int) := IntWalk.u32_in _ (by omega)
                    have CN := Lib.hid cin
                    have HLJ := Lib.hid hlj
                    have RX := Lib.hid (reach17 n Q1 d D2 q2 ci (du + 1) (some ⟨b0, o0, none⟩) fc h A2 c2 w5 F5.out cin k1 hn (Nat.le_trans k3.len hn))
                    have STEP := Lib.hid (fun (e : Ending) (w' : World) (ho : Of n Q1 d D2 A2 q2 ci (du + 1) w5 e w') => bq_step (p' := Pr d u (j + 1)) hn k1 k2 k3 k4 k5 k6 k7 k8 (.inr (.inl ⟨j, by rw [← HRL.out]; exact HLJ.out, HT.out.symm⟩)) CN.out ho HW0.out (fun y hy => by
                      rcases pr_next hy with h | h
                      · exact .inl h
                      · right; rw [← HT.out] at h; omega))
                    have ec : ((du + 1 : Nat) : Int) = (du : Int) + 1 := by omega
                    rw [ec] at RX
                    clear k1 k2 k3 k4 k5 k6 k7 k8 ec
                    go_wp2_with fail
                    refine RX.out.mono ?_
                    rintro e w6 ho
                    obtain ⟨v6, rfl, hbq⟩ := STEP.out e w6 ho
                    have SN9 := Lib.hid hbq
                    clear ho hbq
                    as_aux_lemma =>
                      go_wp2
                      go_roundw
                      case rel => first | exact ⟨j + 1, by omega, by go_num, SN9.out⟩ | exact hrel
                      case measure => simp [intOf]; omega
                · obtain rfl : rl = j := by omega
                  have S8 := Lib.hid (BQJ.out.weaker (p' := Pq d u 0) (fun y hy => by
                    rcases hy with h | ⟨i, hi, h⟩ | ⟨i, k, hi, _⟩
                    · exact .inl h
                    · exact .inr ⟨i, by rw [HRL.out]; exact hi, h⟩
                    · omega))
                  clear k1 k2 k3 k4 k5 k6 k7 k8 F5 BQJ
                  go_wp2
                  clear m3
                  go_loopw [8, 14] (fun v i wr => ∃ j : Nat, j ≤ pl ∧ i = .int .i64 j ∧ Bq n Q1 s hd u du g5 d L w (Pq d u j) v wr) (fun _ i _ => pl - (intOf i).toNat)
                  case atStart => exact ⟨0, Nat.zero_le _, rfl, S8.out⟩
                  case round =>
                    clear S8
                    obtain ⟨j, hj, rfl, hbq⟩ := hrel
                    obtain ⟨A2, c2, D2, q2, rfl, k1, k2, k3, k4, k5, k6, k7, k8⟩ := hbq
                    obtain ⟨w5, hw5⟩ : ∃ x, x = wr := ⟨_, rfl⟩
                    rw [← hw5] at k1 k2 k6 ⊢
                    have BQJ := Lib.hid (show Bq n Q1 s hd u du g5 d L w (Pq d u j) (.slice A2 q2.length c2) w5 from ⟨A2, c2, D2, q2, rfl, k1, k2, k3, k4, k5, k6, k7, k8⟩)
                    have m4 := k6.at_ L4.out
                    have F5 := Lib.hid (HF.out.later (show Below w.heap.size w w5 by rw [← HQ.out]; exact k2))
                    clear hw5
                    by_cases hlj : j < pl
                    · obtain ⟨b2, o2, ha2, hb2, e0, e1, e2, e4⟩ := F5.out.part u HUN.out j (by rw [← HPL.out]; exact hlj)
                      rw [← HPA.out] at ha2
                      subst ha2
                      obtain ⟨dl, hdl⟩ : ∃ x, x = d.dl u j := ⟨_, rfl⟩
                      obtain ⟨DA, hDA⟩ : ∃ x, x = h.DA u j := ⟨_, rfl⟩
                      obtain ⟨DC, hDC⟩ : ∃ x, x = h.DC u j := ⟨_, rfl⟩
                      rw [← hdl, ← hDA, ← hDC] at e1
                      have hdl1 : dl ≤ 1048576 := by rw [hdl]; exact ((HLN.out u HUN.out).2.2 j (by rw [← HPL.out]; exact hlj)).2
                      have HDL := Lib.hid hdl
                      have HDA := Lib.hid hDA
                      have HLJ := Lib.hid hlj
                      have S5 := Lib.hid (BQJ.out.weaker (p' := Ps d u j 0) (fun y hy => by
                        rcases hy with h | ⟨k, hk, _⟩
                        · exact h
                        · omega))
                      clear hdl hDA hDC e0 e2 e4 hb2 k1 k2 k3 k4 k5 k6 k7 k8 F5 BQJ
                      go_wp2
                      clear m4 e1
                      go_loopw [8, 16] (fun v i wr => ∃ k : Nat, k ≤ dl ∧ i = .int .i64 k ∧ Bq n Q1 s hd u du g5 d L w (Ps d u j k) v wr) (fun _ i _ => dl - (intOf i).toNat)
                      case atStart => exact ⟨0, Nat.zero_le _, rfl, S5.out⟩
                      case round =>
                        clear S5
                        obtain ⟨k, hk, rfl, hbq⟩ := hrel
                        obtain ⟨A2, c2, D2, q2, rfl, k1, k2, k3, k4, k5, k6, k7, k8⟩ := hbq
                        obtain ⟨w5, hw5⟩ : ∃ x, x = wr := ⟨_, rfl⟩
                        rw [← hw5] at k1 k2 k6 ⊢
                        have BQK := Lib.hid (show Bq n Q1 s hd u du g5 d L w (Ps d u j k) (.slice A2 q2.length c2) w5 from ⟨A2, c2, D2, q2, rfl, k1, k2, k3, k4, k5, k6, k7, k8⟩)
                        have F5 := Lib.hid (HF.out.later (show Below w.heap.size w w5 by rw [← HQ.out]; exact k2))
                        clear hw5
                        by_cases hlk : k < dl
                        · obtain ⟨b3, o3, ha3, hb3, e0, e1⟩ := F5.out.dep u HUN.out j (by rw [← HPL.out]; exact HLJ.out) k (by rw [← HDL.out]; exact hlk)
                          rw [← HDA.out] at ha3
                          subst ha3
                          obtain ⟨x, hx⟩ : ∃ x, x = d.df u j k := ⟨_, rfl⟩
                          rw [← hx] at e0
                          have hx0 : 0 ≤ x := by rw [hx]; exact (MrW.wf_u32 (WF.out.df u HUN.out j (by rw [← HPL.out]; exact HLJ.out) k (by rw [← HDL.out]; exact hlk))).1
                          have hxn : x < (n : Int) := by rw [hx]; exact (GD.out u HUN.out).2.2.2 j (by rw [← HPL.out]; exact HLJ.out) k (by rw [← HDL.out]; exact hlk)
                          have HX := Lib.hid hx
                          obtain ⟨ci, hci⟩ : ∃ ci : Nat, x = (ci : Int) := ⟨x.toNat, by omega⟩
                          subst hci
                          have cin : ci < n := by omega
                          clear hx e1 hb3
                          by_cases heq : ci = u
                          · have tt : ((ci : Int) != (u : Int)) = false := by simp; omega
                            have SN9 := Lib.hid (BQK.out.weaker (p' := Ps d u j (k + 1)) (fun z hz => by
                              rcases ps_next hz with h | ⟨h, h2⟩
                              · exact h
                              · rw [← HX.out] at h; omega))
                            clear k1 k2 k3 k4 k5 k6 k7 k8
                            as_aux_lemma =>
                              go_wp2
                              go_roundw
                              case rel => first | exact ⟨k + 1, by omega, by go_num, SN9.out⟩ | exact hrel
                              case measure => simp [intOf]; omega
                          · have tt : ((ci : Int) != (u : Int)) = true := by simp; omega
                            have CN := Lib.hid cin
                            have HLK := Lib.hid hlk
                            have RX := Lib.hid (reach17 n Q1 d D2 q2 ci (du + 1) (some ⟨b0, o0, none⟩) fc h A2 c2 w5 F5.out cin k1 hn (Nat.le_trans k3.len hn))
                            have STEP := Lib.hid (fun (e : Ending) (w' : World) (ho : Of n Q1 d D2 A2 q2 ci (du + 1) w5 e w') => bq_step (p' := Ps d u j (k + 1)) hn k1 k2 k3 k4 k5 k6 k7 k8 (.inr (.inr ⟨j, k, by rw [← HPL.out]; exact HLJ.out, by rw [← HDL.out]; exact HLK.out, HX.out.symm, heq⟩)) CN.out ho HW0.out (fun z hz => by
                              rcases ps_next hz with h | ⟨h, h2⟩
                              · exact .inl h
                              · right; rw [← HX.out] at h; omega))
                            have ec : ((du + 1 : Nat) : Int) = (du : Int) + 1 := by omega
                            rw [ec] at RX
                            clear k1 k2 k3 k4 k5 k6 k7 k8 ec
                            go_wp2_with fail
                            refine RX.out.mono ?_
                            rintro e w6 ho
                            obtain ⟨v6, rfl, hbq⟩ := STEP.out e w6 ho
                            have SN9 := Lib.hid hbq
                            clear ho hbq
                            as_aux_lemma =>
                              go_wp2
                              go_roundw
                              case rel => first | exact ⟨k + 1, by omega, by go_num, SN9.out⟩ | exact hrel
                              case measure => simp [intOf]; omega
                        · obtain rfl : dl = k := by omega
                          have SN9 := Lib.hid (BQK.out.weaker (p' := Pq d u (j + 1)) (fun z hz => by rw [HDL.out]; exact pq_next hz))
                          clear k1 k2 k3 k4 k5 k6 k7 k8
                          as_aux_lemma =>
                            go_wp2
                            go_roundw
                            case rel => first | exact ⟨j + 1, by omega, by go_num, SN9.out⟩ | exact hrel
                            case measure => simp [intOf]; omega
                    · obtain rfl : pl = j := by omega
                      have SN9 := Lib.hid (show Bm n Q1 s (hd + 1) d w (.slice A2 q2.length c2) w5 from by
                        refine ⟨A2, c2, D2, q2, rfl, k1, k2, k3.next k4 (fun y hy => ?_), (List.getElem?_eq_some_iff.1 k4).1⟩
                        rcases hy with h | h | ⟨i, k, hi, h⟩
                        · exact .inl h
                        · exact .inr (.inl h)
                        · exact .inr (.inr ⟨i, k, by rw [HPL.out]; exact hi, h⟩))
                      clear k1 k2 k3 k4 k5 k6 k7 k8
                      as_aux_lemma =>
                        go_wp2
                        go_roundw
                        case rel => first | exact ⟨hd + 1, by omega, by go_num, SN9.out⟩ | exact hrel
                        case measure => simp [intOf]; omega
          · obtain rfl : m = hd := by omega
            have FIN := Lib.hid (show Md n s d w (.returned (.slice (some ⟨Q1, 0, none⟩) n n)) wp from by
              have h1 := QW.out.dist
              have h2 := BP.out
              have h3 := BF.out
              rw [HQ.out] at h1 h2 ⊢
              rw [HM.out] at h3
              exact ⟨D, q, _, rfl, h1, h2, h3⟩)
            go_wp2
            go_ret
            exact FIN.out
end Go.Proofs.Ytpidbikdncgogaa.MrM
