/- FnAdvanceImportTrackerTypeScriptOnlyExcusesNoMatch: buildAdvance, the walk. -/
import Derived.Test.YtelcjpmaegacoaaDoorRows
import Derived.Test.YtelcjpmaegacoaaDoorMem
import Derived.Test.YtelcjpmaegacoaaDoorSl
import Derived.Test.YtelcjpmaegacoaaDoorAiS
import Derived.Great.BuildSlice
import Derived.Deep.RegionHeld3
import Derived.Deep.RegionLaw
import Derived.Carry
import Derived.Deep.DeepCutAuto
import Derived.WalkKit
import Derived.ProofKit
import Derived.OpenShut
import Derived.Below
import Derived.WalkLawsBesides
import Derived.Lib.Hide
import Derived.Outline
import Derived.RegionTactic
import Derived.Deep.QuietTactic
import Derived.BigQuiet
import Derived.WalkSpells
import Derived.Deep.OwnRows
import Derived.IntWalk
import Derived.Deep.DeepMust
namespace Go.Proofs.YtelcjpmaegacoaaDoor.AiB
open Go.RowKit Mem Sl
set_option linter.unusedVariables false
open Args Fvs AiP AiA AiC AiJ AiS MapK Go.Maps

set_option maxRecDepth 100000 in
set_option maxHeartbeats 8000000 in
theorem bld6 (p : Pa) (ts : Bool) (A9 : Option Addr) (c9 : Nat) (w : World) (h9 : Rs w A9 p.n (fun i => .string (p.g i))) (hn : p.n ≤ 4096) (hg : ∀ i, i < p.n → (p.g i).size ≤ maxLen) :
    Calls Tryd.prog 6 #[.string p.al, .bool p.star, .bool p.exp, .bool p.valid, .bool p.lazy, .int .i32 p.kw, .bool p.ue, .bool p.um, .int .u8 p.kd, .slice A9 p.n c9, .bool p.hs, .bool ts] w (Bl p ts w) := by
  have H9 := Lib.hid h9
  have HG := Lib.hid hg
  have HN := Lib.hid hn
  obtain ⟨p36, p35, p59, p43, p60, p61, p62, p48, p49, p2, p3⟩ := c82_at
  clear h9 hg hn
  go_enter Tryd.func6, Tryd.ntmps6
  go_upto_region 2 with (refine wpList_buildTo rfl 82 _ rfl (some 32) rfl c82 (by kernel_rfl) ?_)
  obtain ⟨w1, hw1⟩ : ∃ w1, w1 = w.alloc (.cells c82 82) := ⟨_, rfl⟩
  have v1 := made82 w
  rw [← hw1] at v1 ⊢
  have b1 : Below w.heap.size w w1 := by rw [hw1]; exact (Below.refl _ _).alloc (Nat.le_refl _) _
  have hz1 : w1.heap.size = w.heap.size + 1 := by rw [hw1]; simp
  obtain ⟨I, hI⟩ : ∃ I, I = w.heap.size := ⟨_, rfl⟩
  rw [← hI] at v1 b1 hz1 ⊢
  have HI := Lib.hid hI
  have i36 := v1.at_ (i := 36) (by decide) (v := .map none) (by rw [p36]; rfl)
  have i35 := v1.at_ (i := 35) (by decide) (v := .slice none 0 0) (by rw [p35]; rfl)
  have f36 := v1.frozen 36
  have f35 := v1.frozen 35
  have hlt1 : I < w1.heap.size := v1.lt
  have HV1 := Lib.hid v1
  have HB1 := Lib.hid b1
  have HZ1 := Lib.hid hz1
  have hmm := @run_makeMap Tryd.prog 71 w1
  rw [hz1] at hmm
  have hm0 : MapF Tryd.prog ((w1.setCell ⟨I, 36, none⟩ (.map (some (I + 1)))).alloc (.map #[] 0)) (I + 1) 31 0 (fun _ => none) := by
    have h9 := mapF_made (P := Tryd.prog) (w1.setCell ⟨I, 36, none⟩ (.map (some (I + 1)))) 31
    have e : (w1.setCell ⟨I, 36, none⟩ (.map (some (I + 1)))).heap.size = I + 1 := by simp [hz1]
    rw [e] at h9
    exact h9
  have HM0 := Lib.hid hm0
  clear hw1 v1 b1 hz1 hI p36 p35 hm0
  go_upto_region 4 with (refine wpList_mapUpdate_f _ rfl _ _ _ 71 rfl 84 31 Tryd.underlying71 keyed31 (I + 1) 0 (fun _ => none) rfl HM0.out (.agg #[.int .u32 0, .int .u32 0]) (.agg #[.string p.al, .slice none 0 0, .int .i32 0, .int .u32 0, .int .u32 0, .int .u32 0, .bool p.star, .bool p.exp]) rfl rfl key_zero ?_; intro w2 hm2 hg2 hs2; have HM2 := Lib.hid hm2; have HG2 := Lib.hid hg2; have HS2 := Lib.hid hs2; clear hm2 hg2 hs2)
  have hv2 := fv_grown (fv_alloc (Fv.set HV1.out (show 36 < 64 by decide) (.map (some (I + 1)))) (.map #[] 0)) HG2.out (by simp)
  have hz2 : w2.heap.size = I + 2 := by rw [HS2.out]; simp [HZ1.out]
  have hb2 : Below I w w2 := HB1.out.trans (below_map HG2.out (by have := HZ1.out; simp; omega))
  have i35 := hv2.at_ (i := 35) (by decide) (v := .slice none 0 0) (by rw [up_ne _ _ (by decide), c82_at.2.1]; rfl)
  have f35 := hv2.frozen 35
  have hlt2 : I < w2.heap.size := hv2.lt
  have HV2 := Lib.hid hv2
  have HB2 := Lib.hid hb2
  have HZ2 := Lib.hid hz2
  have hz2' := Lib.hid hz2
  have hmk : ∀ W, (Instr.makeSlice 70 (.int .i64 1) (.int .i64 1)).run Tryd.prog W = .ok (.slice (some ⟨W.heap.size, 0, none⟩) 1 1) (W.alloc (.cells REC0 98)) := fun W => by kernel_rfl
  have hmk2 := hmk w2
  rw [hz2] at hmk2
  clear hmm HV1 HB1 HZ1 HM0 HG2 HS2 hmk i36 f36 hlt1 hv2 hb2 hz2
  go_upto_if 50 with fail
  have hr0 := Row.newArr w2 98 REC0
  rw [hz2'.out] at hr0
  have r10 := hr0.at_ (i := 10) rfl
  have z10 := hr0.frozen 10
  have hv3 := fv_alloc HV2.out (.cells REC0 98)
  have hm3 := HM2.out.alloc (.cells REC0 98)
  have hb3 : Below I w (w2.alloc (.cells REC0 98)) := HB2.out.alloc (by have := HZ2.out; omega) _
  have hz3 : (w2.alloc (.cells REC0 98)).heap.size = I + 3 := by simp [HZ2.out]
  obtain ⟨w3, hw3⟩ : ∃ w3, w3 = w2.alloc (.cells REC0 98) := ⟨_, rfl⟩
  rw [← hw3] at r10 z10 hv3 hm3 hb3 hz3 ⊢
  have HV3 := Lib.hid hv3
  have HM3 := Lib.hid hm3
  have HB3 := Lib.hid hb3
  have HZ3 := Lib.hid hz3
  clear hmk2 HV2 HM2 HB2 HZ2 hz2' hr0 hv3 hm3 hb3 hz3 hw3 i35 f35 hlt2
  go_cut [3] (fun x3 wx => x3 = .bool p.valid ∧ Ri p w I wx)
  case first =>
    cases hv : p.valid
    · go_wp2
      go_meet
      case rel => exact ⟨by rw [hv], HV3.out, ⟨_, HM3.out⟩, by rw [hv]; exact r10, HB3.out, by have := HZ3.out; omega⟩
    · go_wp2_with fail
      refine (idx10 w3).mono ?_
      rintro e w4 ⟨rfl, b4⟩
      have HB4 := Lib.hid b4
      have r10' := cell_later b4 r10
      have z10' : w4.frozen? ⟨I + 2, 10, none⟩ = false := by rw [← z10]; simp [World.frozen?, b4.block (I + 2) (by have := HZ3.out; omega)]
      clear b4
      go_wp2
      go_meet
      case rel => exact ⟨by rw [hv], ri_of HV3.out HM3.out HB3.out HZ3.out HB4.out r10' hv⟩
  case rest =>
    obtain ⟨rfl, hri⟩ := hcut
    have i35 := hri.fv.at_ (i := 35) (by decide) (v := .slice none 0 0) (by rw [up_ne _ _ (by decide), c82_at.2.1]; rfl)
    have f35 := hri.fv.frozen 35
    have HRI := Lib.hid hri
    have hmm := fun W => @run_makeMap Tryd.prog 39 W
    clear hri r10 z10 HV3 HM3 HB3 HZ3
    go_upto_region 9 with (refine wpList_buildTo rfl 82 _ rfl (some 60) rfl c82 (by kernel_rfl) ?_)
    obtain ⟨O, hO⟩ : ∃ O, O = wc.heap.size := ⟨_, rfl⟩
    obtain ⟨w5, hw5⟩ : ∃ w5, w5 = (wc.setCell ⟨I, 35, none⟩ (.slice (some ⟨I + 2, 0, none⟩) 1 1)).alloc (.cells c82 82) := ⟨_, rfl⟩
    have him := im_of HRI.out O hO hw5
    rw [← hw5, ← hO]
    have v5 := him.2.1
    have hsz5 := him.2.2.2.1
    have o59 := v5.at_ (i := 59) (by decide) (v := .bool false) (by rw [p59]; rfl)
    have g59 := v5.frozen 59
    have o43 := v5.at_ (i := 43) (by decide) (v := .int .i32 0) (by rw [p43]; rfl)
    have g43 := v5.frozen 43
    have o60 := v5.at_ (i := 60) (by decide) (v := .bool false) (by rw [p60]; rfl)
    have g60 := v5.frozen 60
    have o61 := v5.at_ (i := 61) (by decide) (v := .bool false) (by rw [p61]; rfl)
    have g61 := v5.frozen 61
    have o62 := v5.at_ (i := 62) (by decide) (v := .int .u8 0) (by rw [p62]; rfl)
    have g62 := v5.frozen 62
    have o48 := v5.at_ (i := 48) (by decide) (v := .int .u32 0) (by rw [p48]; rfl)
    have g48 := v5.frozen 48
    have o49 := v5.at_ (i := 49) (by decide) (v := .int .u32 0) (by rw [p49]; rfl)
    have g49 := v5.frozen 49
    have o2 := v5.at_ (i := 2) (by decide) (v := .map none) (by rw [p2]; rfl)
    have g2 := v5.frozen 2
    have HIM := Lib.hid him
    clear him v5 hO hw5 i35 f35 p59 p43 p60 p61 p62 p48 p49 p2 p3
    go_upto_region 16 with fail
    obtain ⟨w6, hw6⟩ : ∃ w6, w6 = ((((((((w5.setCell ⟨O, 59, none⟩ (.bool p.lazy)).setCell ⟨O, 43, none⟩ (.int .i32 p.kw)).setCell ⟨O, 60, none⟩ (.bool p.ue)).setCell ⟨O, 61, none⟩ (.bool p.um)).setCell ⟨O, 62, none⟩ (.int .u8 p.kd)).setCell ⟨O, 48, none⟩ (.int .u32 1)).setCell ⟨O, 49, none⟩ (.int .u32 1073741824)).setCell ⟨O, 2, none⟩ (.map (some (O + 1)))).alloc (.map #[] 0) := ⟨_, rfl⟩
    have hot := ot_of p HIM.out.2.1 HIM.out.2.2.2.1 hw6
    rw [← hw6]
    have HIM6 := Lib.hid (HIM.out.1.below hot.2.2.1 HIM.out.2.2.2.2)
    have HOT := Lib.hid hot.1
    have HMP := Lib.hid hot.2.1
    have HB6 := Lib.hid (HIM.out.2.2.1.trans (hot.2.2.1.mono (by have := HIM.out.2.2.2.2; omega)))
    have HIO := Lib.hid HIM.out.2.2.2.2
    have HZ6 := Lib.hid hot.2.2.2
    clear hot hw6 HIM HRI hmm o59 o43 o60 o61 o62 o48 o49 o2 g59 g43 g60 g61 g62 g48 g49 g2
    have hlp0 := lp_start HIM6.out HOT.out HMP.out HB6.out HZ6.out HIO.out
    have HLP := Lib.hid hlp0
    clear hlp0 HIM6 HOT HMP HB6 HZ6 hsz5
    go_wp2
    go_loopw [28] (fun i wr => ∃ (k : Nat) (bj : Nat → Nat), k ≤ p.n ∧ i = .int .i64 k ∧ Lp p I O w k bj wr) (fun i _ => p.n - (intOf i).toNat)
    case atStart => exact ⟨0, fun _ => 0, Nat.zero_le _, rfl, HLP.out⟩
    case round =>
      clear HLP
      obtain ⟨k, bj, hk, rfl, hlp⟩ := hrel
      by_cases hlt : k < p.n
      · have k4 : k ≤ 4096 := by have := HN.out; omega
        obtain ⟨q, o, rfl, hq, hc⟩ := names_at H9.out hlt hlp HI.out
        obtain ⟨u, hu⟩ : ∃ u, u = p.g k := ⟨_, rfl⟩
        rw [← hu] at hc
        have hus : u.size ≤ maxLen := by rw [hu]; exact HG.out k hlt
        have c2 := hlp.ot.o2
        have hsz := hlp.sz
        have wk1 : IntKind.u32.wrap (k : Int) = (k : Int) := IntWalk.u32_in _ (by omega)
        have wk2 : IntKind.i32.wrap (k : Int) = (k : Int) := IntWalk.i32_in _ (by omega)
        have hal : Below wr.heap.size wr ((wr.alloc (.cells #[.slice (some ⟨wr.heap.size + 1, 0, none⟩) 1 1, .int .u32 1, .int .u32 (k : Int), .int .i32 ((k : Int) + 1), .int .u32 ((k : Int) + 5)] 100)).alloc (.cells #[.slice none 0 0, .int .i32 0, .int .u32 0, .int .u32 0, .int .u32 ((k : Int) + 7)] 103)) := ((Below.refl _ _).alloc (Nat.le_refl _) _).alloc (by simp) _
        have HAL := Lib.hid hal
        have HLP := Lib.hid hlp
        have HU := Lib.hid hu
        have hc' := cell_later hal hc
        have c2' := cell_later hal c2
        have re := ((Row.newArr wr 100 #[.slice (some ⟨wr.heap.size + 1, 0, none⟩) 1 1, .int .u32 1, .int .u32 (k : Int), .int .i32 ((k : Int) + 1), .int .u32 ((k : Int) + 5)]).alloc (.cells #[.slice none 0 0, .int .i32 0, .int .u32 0, .int .u32 0, .int .u32 ((k : Int) + 7)] 103))
        have e0 := re.at_ (i := 0) rfl
        have e1 := re.at_ (i := 1) rfl
        have e2 := re.at_ (i := 2) rfl
        have e3 := re.at_ (i := 3) rfl
        have e4 := re.at_ (i := 4) rfl
        clear hu hlp hal re
        obtain ⟨W8, hW8⟩ : ∃ W8, W8 = ((wr.alloc (.cells #[.slice (some ⟨wr.heap.size + 1, 0, none⟩) 1 1, .int .u32 1, .int .u32 (k : Int), .int .i32 ((k : Int) + 1), .int .u32 ((k : Int) + 5)] 100)).alloc (.cells #[.slice none 0 0, .int .i32 0, .int .u32 0, .int .u32 0, .int .u32 ((k : Int) + 7)] 103)) := ⟨_, rfl⟩
        rw [← hW8] at hc' c2' e0 e1 e2 e3 e4 HAL
        obtain ⟨cn, hmk⟩ := HLP.out.mp
        obtain ⟨w7, hrun, hm7, hg7, hs7⟩ := (hmk.below HAL.out hmk.lt).drew.update Tryd.underlying39 keyed9 (key_str u hus) (.agg #[.slice (some ⟨wr.heap.size + 1, 0, none⟩) 1 1, .int .u32 1, .int .u32 (k : Int), .int .i32 ((k : Int) + 1), .int .u32 ((k : Int) + 5)])
        have HS7 := Lib.hid (show w7.cell? ⟨O, 2, none⟩ = some (.map (some (O + 1))) ∧ w7.cell? ⟨q, o + k, none⟩ = some (.string u) ∧ w7.cell? ⟨wr.heap.size, 0, none⟩ = some (.slice (some ⟨wr.heap.size + 1, 0, none⟩) 1 1) ∧ w7.cell? ⟨wr.heap.size, 1, none⟩ = some (.int .u32 1) ∧ w7.cell? ⟨wr.heap.size, 2, none⟩ = some (.int .u32 (k : Int)) ∧ w7.cell? ⟨wr.heap.size, 3, none⟩ = some (.int .i32 ((k : Int) + 1)) ∧ w7.cell? ⟨wr.heap.size, 4, none⟩ = some (.int .u32 ((k : Int) + 5)) from by
          have z : ∀ b x, b ≠ O + 1 → b < W8.heap.size → w7.cell? ⟨b, x, none⟩ = W8.cell? ⟨b, x, none⟩ := fun b x hb hl => World.cell?_of_block (a := ⟨b, x, none⟩) (hg7.block b hl (fun e => hb (by injection e)))
          have l := HLP.out.sz
          have l2 := HAL.out.size
          have l3 : wr.heap.size < W8.heap.size := cell_lt e0
          have l4 := HLP.out.IO
          exact ⟨(z _ _ (by omega) (by omega)).trans c2', (z _ _ (by omega) (by omega)).trans hc', (z _ _ (by omega) (by omega)).trans e0, (z _ _ (by omega) (by omega)).trans e1, (z _ _ (by omega) (by omega)).trans e2, (z _ _ (by omega) (by omega)).trans e3, (z _ _ (by omega) (by omega)).trans e4⟩)
        have HNX := Lib.hid (lp_next HLP.out (by rw [← HU.out]; exact hm7) hW8 hg7)
        have HRUN := Lib.hid hrun
        clear hrun hm7 hg7 hs7 hmk c2 hc
        go_wp2
        rw [← hW8]
        clear hW8
        have hrun := HRUN.out
        go_region_held3 (fun W => W.cell? ⟨O, 2, none⟩ = some (.map (some (O + 1))) ∧ W.cell? ⟨q, o + k, none⟩ = some (.string u) ∧ W.cell? ⟨wr.heap.size, 0, none⟩ = some (.slice (some ⟨wr.heap.size + 1, 0, none⟩) 1 1) ∧ W.cell? ⟨wr.heap.size, 1, none⟩ = some (.int .u32 1) ∧ W.cell? ⟨wr.heap.size, 2, none⟩ = some (.int .u32 (k : Int)) ∧ W.cell? ⟨wr.heap.size, 3, none⟩ = some (.int .i32 ((k : Int) + 1)) ∧ W.cell? ⟨wr.heap.size, 4, none⟩ = some (.int .u32 ((k : Int) + 5))) (first | exact ⟨c2', hc', e0, e1, e2, e3, e4⟩ | exact HS7.out) (fail)
        go_wp2
        go_roundw
        case rel => exact ⟨k + 1, _, by omega, by go_num, HNX.out⟩
        case measure => simp [intOf]; omega
      · obtain rfl : p.n = k := by omega
        have o3 := hlp.ot.o3
        have f3 := hlp.ot.f3
        have hsz := hlp.sz
        have HLP := Lib.hid hlp
        clear hlp
        have hal9 : Below wr.heap.size wr ((wr.alloc (.cells #[.slice (some ⟨wr.heap.size + 1, 0, none⟩) 2 2, .int .u32 3, .int .u32 77, .int .i32 99, .int .u32 3] 100)).alloc (.cells #[.slice none 0 0, .int .i32 0, .int .u32 0, .int .u32 0, .int .u32 4, .slice none 0 0, .int .i32 0, .int .u32 0, .int .u32 0, .int .u32 6] 103)) := ((Below.refl _ _).alloc (Nat.le_refl _) _).alloc (by simp) _
        have o3' := cell_later hal9 o3
        have f3' : World.frozen? ((wr.alloc (.cells #[.slice (some ⟨wr.heap.size + 1, 0, none⟩) 2 2, .int .u32 3, .int .u32 77, .int .i32 99, .int .u32 3] 100)).alloc (.cells #[.slice none 0 0, .int .i32 0, .int .u32 0, .int .u32 0, .int .u32 4, .slice none 0 0, .int .i32 0, .int .u32 0, .int .u32 0, .int .u32 6] 103)) ⟨O, 3, none⟩ = false := by rw [← f3]; simp [World.frozen?, hal9.block O (by omega)]
        clear hal9
        go_upto_if 132 with fail
        go_cut [10] (fun x10 wx => x10 = .bool p.hs ∧ Bd p I O wx ∧ Below I w wx)
        case first =>
          cases hv : p.hs
          · go_wp2
            go_meet
            case rel => exact ⟨by rw [hv], bd_none HLP.out hv, HLP.out.bel⟩
          · go_wp2
            go_meet
            case rel => exact ⟨by rw [hv], bd_star HLP.out hv⟩
        case rest =>
          obtain ⟨rfl, hbd, hbe⟩ := hcut
          have HBD := Lib.hid hbd
          have HBE := Lib.hid hbe
          clear hbd hbe HLP o3 f3 hsz o3' f3'
          go_upto_if 145 with fail
          obtain ⟨wz, hwz⟩ : ∃ wz, wz = wc := ⟨_, rfl⟩
          subst hwz
          go_cut [11, 31] (fun x11 x31 wx => x11 = .bool ts ∧ x31 = .int .u8 (if ts = true then 16 else 10) ∧ wz = wx)
          case first =>
            cases ts
            · go_wp2
              go_meet
              case rel => exact ⟨rfl, rfl, rfl⟩
            · go_wp2
              go_meet
              case rel => exact ⟨rfl, rfl, rfl⟩
          case rest =>
            obtain ⟨rfl, rfl, rfl⟩ := hcut
            obtain ⟨l, hl⟩ : ∃ l : Int, l = if ts = true then 16 else 10 := ⟨_, rfl⟩
            rw [← hl]
            have HL := Lib.hid hl
            clear hl
            obtain ⟨D1, hD1⟩ : ∃ D, D = c125 I l := ⟨_, rfl⟩
            obtain ⟨D2, hD2⟩ : ∃ D, D = c125 O 10 := ⟨_, rfl⟩
            have J1 := Lib.hid (fun W => js11 I l W)
            have J2 := Lib.hid (fun W => js11 O 10 W)
            rw [← hD1] at J1
            rw [← hD2] at J2
            obtain ⟨ie, hie, hiz⟩ := Option.map_eq_some_iff.1 info125
            simp only [Prod.mk.injEq] at hiz
            have HIE := Lib.hid hie
            have HIZ := Lib.hid hiz.1
            have HIS := Lib.hid hiz.2
            have H1 := Lib.hid hD1
            have H2 := Lib.hid hD2
            clear hie hiz hD1 hD2
            go_wp2_with fail
            refine (J1.out wz).mono ?_
            rintro e wa ⟨rfl, hba⟩
            have HBA := Lib.hid hba
            clear hba
            go_wp2_with fail
            refine (J2.out wa).mono ?_
            rintro e wb ⟨rfl, hbb⟩
            have HBB := Lib.hid hbb
            clear hbb
            go_wp2_with (refine wpList_buildSlice rfl 25 125 2 _ rfl (c125 I l ++ c125 O 10) ie z125 Tryd.underlying25 HIE.out HIZ.out (by rw [HIS.out]; decide) (by rw [HIS.out]; decide) (by rewrite [HIS.out, H1.out, H2.out]; kernel_rfl) ?_)
            go_ret
            exact bl_of HL.out HBD.out HI.out HBE.out HBA.out HBB.out
end Go.Proofs.YtelcjpmaegacoaaDoor.AiB
