/- FnAdvanceImportTrackerTypeScriptOnlyExcusesNoMatch: the step, some outcomes. -/
import Derived.Test.YtelcjpmaegacoaaDoorRows
import Derived.Test.YtelcjpmaegacoaaDoorMem
import Derived.Test.YtelcjpmaegacoaaDoorSl
import Derived.Test.YtelcjpmaegacoaaDoorAiD
import Derived.Great.BuildSlice
import Derived.Deep.RegionHeld3
import Derived.Deep.RegionLaw
import Derived.Carry
import Derived.Deep.DeepCutAuto
import Derived.Laws.Rows
import Derived.WalkKit
import Derived.ProofKit
import Derived.OpenShut
import Derived.Below
import Derived.WalkLawsBesides
import Derived.Lib.Hide
import Derived.Outline
import Derived.RegionTactic
import Derived.Deep.QuietTactic
import Derived.BigQuiet
import Derived.WalkSpells
import Derived.Deep.OwnRows
import Derived.IntWalk
import Derived.Deep.DeepMust
namespace Go.Proofs.YtelcjpmaegacoaaDoor.AiD
open Go.RowKit Mem Sl
set_option linter.unusedVariables false
open Args Fvs AiP AiA AiC AiJ AiS MapK Go.Maps
set_option maxRecDepth 100000 in
set_option maxHeartbeats 8000000 in
theorem adv12_d (p : Pa) (ts : Bool) (c F I O : Nat) (w : World) (h : Cl p ts c F I O w) (hal0 : p.al.size ≤ maxLen) (ho : 5 ≤ p.out ts) : Calls Tryd.prog 12 #[.pointer (some ⟨c, 0, none⟩), .agg #[.int .u32 0, .int .i32 0, .int .u32 0, .int .u32 0]] w (Adv p ts w) := by
  have hal : Below w.heap.size w ((w.alloc (.cells #[.int .u32 0, .int .i32 0, .int .u32 0, .int .u32 0] 194)).alloc (.cells #[.int .u32 0, .int .i32 0, .int .u32 0, .int .u32 0] 194)) := ((Below.refl _ _).alloc (Nat.le_refl _) _).alloc (by simp) _
  have r3 := (Row.newArr w 194 #[.int .u32 0, .int .i32 0, .int .u32 0, .int .u32 0]).alloc (.cells #[.int .u32 0, .int .i32 0, .int .u32 0, .int .u32 0] 194)
  have r4 := Row.newArr (w.alloc (.cells #[.int .u32 0, .int .i32 0, .int .u32 0, .int .u32 0] 194)) 194 #[.int .u32 0, .int .i32 0, .int .u32 0, .int .u32 0]
  simp only [World.size_alloc] at r4
  have HAL := Lib.hid hal0
  have HO := Lib.hid ho
  clear ho
  clear hal0
  have h1 := h.later hal
  have HW := Lib.hid hal
  go_enter Tryd.func12, Tryd.ntmps12
  go_upto_region 1 with fail
  obtain ⟨w1, hw1⟩ : ∃ w1, w1 = (w.alloc (.cells #[.int .u32 0, .int .i32 0, .int .u32 0, .int .u32 0] 194)).alloc (.cells #[.int .u32 0, .int .i32 0, .int .u32 0, .int .u32 0] 194) := ⟨_, rfl⟩
  rw [← hw1] at r3 r4 h1 HW ⊢
  obtain ⟨Z, hZ⟩ : ∃ Z, Z = w.heap.size := ⟨_, rfl⟩
  rw [← hZ] at r3 r4 HW ⊢
  have HZ := Lib.hid hZ
  have HZZ := Lib.hid (show w.heap.size ≤ Z + 1 by omega)
  have HR4 := Lib.hid r4
  have HC := Lib.hid h1
  have c10 := h1.c10
  have t0 := r3.at_ (i := 0) rfl
  have t2 := r3.at_ (i := 2) rfl
  have t3 := r3.at_ (i := 3) rfl
  have f2 := h1.lf.f2
  have i36 := h1.lf.bd.im.c36
  have i35 := h1.lf.bd.im.c35
  have as1 := fun W => assert36 (some ⟨I, 0, none⟩) W
  have as2 := fun W => assert36 (some ⟨O, 0, none⟩) W
  clear hal r3 r4 h1 hw1 hZ h
  go_wp2_with fail
  go_quiet (fail)
  go_upto_region 3 with fail
  have hb2 : Below w1.heap.size w1 (w1.drewN nq) := below_drewN (Below.refl _ _) _
  have HC2 := Lib.hid (HC.out.later hb2)
  have HW2 := Lib.hid (HW.out.trans (hb2.mono (by have := HW.out.size; have := HZ.out; omega)))
  have R42 := Lib.hid (HR4.out.below hb2 HR4.out.lt)
  have t2' := cell_later hb2 t2
  have t3' := cell_later hb2 t3
  obtain ⟨w2, hw2⟩ : ∃ w2, w2 = w1.drewN nq := ⟨_, rfl⟩
  rw [← hw2] at HC2 HW2 R42 t2' t3' ⊢
  clear hb2 hw2 HC HW HR4 t2 t3 t0 c10 f2 i36 i35
  have i36 := HC2.out.lf.bd.im.c36
  have HS := Lib.hid (fun (W : World) (hb : Below w2.heap.size w2 W) => (show W.cell? ⟨I, 36, none⟩ = some (.map (some (I + 1))) ∧ W.cell? ⟨Z, 2, none⟩ = some (.int .u32 0) ∧ W.cell? ⟨Z, 3, none⟩ = some (.int .u32 0) ∧ (Instr.lookup 71 (.map (some (I + 1))) (.agg #[.int .u32 0, .int .u32 0]) false).run Tryd.prog W = .ok (.agg #[.string p.al, .slice none 0 0, .int .i32 0, .int .u32 0, .int .u32 0, .int .u32 0, .bool p.star, .bool p.exp]) W from ⟨cell_later hb i36, cell_later hb t2', cell_later hb t3', lookI (HC2.out.later hb)⟩))
  have HSG := Lib.hid (show Sg p ts c F I O Z w2.heap.size w (w2.alloc (.cells #[.string p.al, .slice none 0 0, .int .i32 0, .int .u32 0, .int .u32 0, .int .u32 0, .bool p.star, .bool p.exp] 84)).drew from sg_of HC2.out HW2.out R42.out HZ.out)
  go_cut [9] (fun x9 wx => ∃ T, x9 = .pointer (some ⟨T, 0, none⟩) ∧ Sg p ts c F I O Z T w wx)
  case first =>
    go_region_held3 (fun W => W.cell? ⟨I, 36, none⟩ = some (.map (some (I + 1))) ∧ W.cell? ⟨Z, 2, none⟩ = some (.int .u32 0) ∧ W.cell? ⟨Z, 3, none⟩ = some (.int .u32 0) ∧ (Instr.lookup 71 (.map (some (I + 1))) (.agg #[.int .u32 0, .int .u32 0]) false).run Tryd.prog W = .ok (.agg #[.string p.al, .slice none 0 0, .int .i32 0, .int .u32 0, .int .u32 0, .int .u32 0, .bool p.star, .bool p.exp]) W) ((refine HS.out _ ?_; (repeat (first | exact Below.refl _ _ | apply Below.drew | apply below_drewN | (refine Below.alloc ?_ (by simp <;> omega) _) | (refine Below.setCell ?_ (by simp <;> omega) _))))) (fail)
    all_goals
      go_wp2_with fail
      go_meet
      case rel => exact ⟨_, rfl, HSG.out⟩
  case rest =>
  obtain ⟨T, rfl, hsg⟩ := hcut
  have HX := Lib.hid hsg
  clear hsg HSG HC2 HW2 R42 i36 t2' t3' HS
  have v0 := HX.out.var.at_ (i := 0) rfl
  have v5 := HX.out.var.at_ (i := 5) rfl
  have i35 := HX.out.cl.lf.bd.im.c35
  go_wp2_with fail
  go_quiet (fail)
  have HX4 := Lib.hid (HX.out.later (below_drewN (Below.refl _ _) nq))
  obtain ⟨w4, hw4⟩ : ∃ w4, w4 = wc.drewN nq := ⟨_, rfl⟩
  rw [← hw4] at HX4 ⊢
  clear hw4 v0 v5 i35 HX
  obtain ⟨x, hx⟩ : ∃ x : Int, x = if p.valid = true then 4294967294 else 0 := ⟨_, rfl⟩
  have r10 := HX4.out.cl.lf.bd.im.r10
  rw [← hx] at r10
  have HXX := Lib.hid hx
  clear hx
  go_wp2_with fail
  refine (valid13 x w4).mono ?_
  rintro e w5 ⟨rfl, hb5⟩
  have HX5 := Lib.hid (HX4.out.later hb5)
  have r10' := cell_later hb5 r10
  have y0 := HX5.out.res.at_ (i := 0) rfl
  have y1 := HX5.out.res.at_ (i := 1) rfl
  have y2 := HX5.out.res.at_ (i := 2) rfl
  have y3 := HX5.out.res.at_ (i := 3) rfl
  have z0 := HX5.out.res.frozen 0
  have z1 := HX5.out.res.frozen 1
  have z2 := HX5.out.res.frozen 2
  have z3 := HX5.out.res.frozen 3
  clear hb5 HX4 r10
  by_cases hv : p.valid = false
  · exfalso; have h9 := HO.out; unfold Pa.out at h9; rw [if_pos hv] at h9; omega
  have hv' : p.valid = true := by simpa using hv
  have tx : (x != 0) = true := by rw [HXX.out, hv']; rfl
  have hx94 : x = 4294967294 := by rw [HXX.out, if_pos hv']
  have HV := Lib.hid hv
  subst hx94
  clear hv hv'
  go_wp2_with fail
  refine (index14 w5).mono ?_
  rintro e w6 ⟨rfl, hb6⟩
  have HX6 := Lib.hid (HX5.out.later hb6)
  clear hb6 HX5 r10' y0 y1 y2 y3 z0 z1 z2 z3 tx
  have y0 := HX6.out.res.at_ (i := 0) rfl
  have y1 := HX6.out.res.at_ (i := 1) rfl
  have y2 := HX6.out.res.at_ (i := 2) rfl
  have y3 := HX6.out.res.at_ (i := 3) rfl
  have z0 := HX6.out.res.frozen 0
  have z1 := HX6.out.res.frozen 1
  have z2 := HX6.out.res.frozen 2
  have z3 := HX6.out.res.frozen 3
  have c10 := HX6.out.cl.c10
  have f26 := HX6.out.cl.lf.f26
  have v0 := HX6.out.var.at_ (i := 0) rfl
  have v6 := HX6.out.var.at_ (i := 6) rfl
  have v7 := HX6.out.var.at_ (i := 7) rfl
  have o59 := HX6.out.cl.lf.bd.o59
  have o43 := HX6.out.cl.lf.bd.o43
  have o60 := HX6.out.cl.lf.bd.o60
  have o61 := HX6.out.cl.lf.bd.o61
  have o62 := HX6.out.cl.lf.bd.o62
  have i0 := HX6.out.cl.gi.c0
  have i1 := HX6.out.cl.gi.c1
  go_upto_region 9 with fail
  go_cut [109] (fun x109 wx => x109 = .bool (bareB p) ∧ w6 = wx)
  case first =>
    by_cases b1 : p.star = true
    · go_wp2
      go_meet
      case rel => exact ⟨by unfold bareB; rw [b1]; rfl, rfl⟩
    by_cases b2 : p.lazy = true
    · go_wp2
      go_meet
      case rel => exact ⟨by unfold bareB; rw [b2]; simp, rfl⟩
    by_cases b3 : p.kw = 0
    case neg =>
      have t3 : (p.kw == 0) = false := by simpa using b3
      go_wp2
      go_meet
      case rel => exact ⟨by unfold bareB; rw [t3]; simp, rfl⟩
    have t3 : (p.kw == 0) = true := by simpa using b3
    by_cases b4 : p.al = dflt
    · have t4 : (p.al.toList == [100, 101, 102, 97, 117, 108, 116]) = true := by rw [b4]; decide +kernel
      have t4' := Lib.hid (show decide (p.al = dflt) = true by simpa using b4)
      clear b4
      go_wp2
      go_meet
      case rel => exact ⟨by unfold bareB; rw [t4'.out]; simp, rfl⟩
    have t4' : decide (p.al = dflt) = false := by simpa using b4
    have t4 : (p.al.toList == [100, 101, 102, 97, 117, 108, 116]) = false := dflt_ne b4
    by_cases b5 : p.ue = true
    · go_wp2
      go_meet
      case rel => exact ⟨by unfold bareB; rw [b5]; simp, rfl⟩
    by_cases b6 : p.um = true
    · go_wp2
      go_meet
      case rel => exact ⟨by unfold bareB; rw [b6]; simp, rfl⟩
    have b1' : p.star = false := by simpa using b1
    have b2' : p.lazy = false := by simpa using b2
    have b5' : p.ue = false := by simpa using b5
    have b6' : p.um = false := by simpa using b6
    go_wp2
    go_meet
    case rel => exact ⟨by unfold bareB; rw [b1', b2', t3, t4', b5', b6']; rfl, rfl⟩
  case rest =>
  obtain ⟨rfl, rfl⟩ := hcut
  have N0 := Lib.hid (show ¬ p.valid = false from HV.out)
  clear f26 c10 o59 o43 o60 o61
  obtain ⟨bb, hbb⟩ : ∃ bb, bb = bareB p := ⟨_, rfl⟩
  rw [← hbb]
  have HBB := Lib.hid hbb
  clear hbb
  cases bb
  case true =>
    exfalso; have h9 := HO.out; unfold Pa.out at h9; rw [if_neg N0.out, if_pos ((bare_iff p).1 HBB.out.symm)] at h9; omega
  have N1 := Lib.hid (show ¬ p.bare from fun h => by have h9 := (bare_iff p).2 h; rw [← HBB.out] at h9; cases h9)
  by_cases hk : p.kd = 1
  · exfalso; have h9 := HO.out; unfold Pa.out at h9; rw [if_neg N0.out, if_neg N1.out, if_pos hk] at h9; omega
  have N2 := Lib.hid hk
  have t1 : (p.kd == 1) = false := by simpa using hk
  clear hk i0 i1
  obtain ⟨pv, hpv, hpn⟩ : ∃ pv, w6.cell? ⟨O, 3, none⟩ = some pv ∧ ((p.hs = false ∧ pv = .pointer none) ∨ (p.hs = true ∧ ∃ q b, pv = .pointer (some ⟨q, 0, none⟩) ∧ St w6 q b)) := by
    rcases HX6.out.cl.lf.bd.st with ⟨a, b⟩ | ⟨a, q, b, q0, q1, q2, q3, q4, q5, q6, q7, q8⟩
    · exact ⟨_, b, .inl ⟨a, rfl⟩⟩
    · exact ⟨_, q0, .inr ⟨a, q, b, rfl, q1, q2, q3, q4, q5, q6, q7, q8⟩⟩
  have HPN := Lib.hid hpn
  clear hpn
  go_upto_region 14 with fail
  go_cut [13, 132] (fun x13 x132 wx => x13 = pv ∧ x132 = .bool (p.star && p.hs) ∧ w6 = wx)
  case first =>
    by_cases b1 : p.star = true
    · rcases HPN.out with ⟨a, rfl⟩ | ⟨a, q, b, rfl, hst⟩
      · go_wp2
        go_meet
        case rel => exact ⟨rfl, by rw [b1, a]; rfl, rfl⟩
      · go_wp2
        go_meet
        case rel => exact ⟨rfl, by rw [b1, a]; rfl, rfl⟩
    · have b1' : p.star = false := by simpa using b1
      go_wp2
      go_meet
      case rel => exact ⟨rfl, by rw [b1']; rfl, rfl⟩
  case rest =>
  obtain ⟨rfl, rfl, rfl⟩ := hcut
  obtain ⟨bs, hbs⟩ : ∃ bs, bs = (p.star && p.hs) := ⟨_, rfl⟩
  rw [← hbs]
  have HBS := Lib.hid hbs
  clear hbs hpv
  cases bs
  case true =>
    have hsh : p.star = true ∧ p.hs = true := by have := HBS.out; simp at this; exact ⟨this.1, this.2⟩
    exfalso; have h9 := HO.out; unfold Pa.out at h9; rw [if_neg N0.out, if_neg N1.out, if_neg N2.out, if_pos hsh] at h9; omega
  case false =>
  have N3 := Lib.hid (show ¬ (p.star = true ∧ p.hs = true) from fun h => by have h9 := HBS.out; rw [h.1, h.2] at h9; cases h9)
  have o2 := HX6.out.cl.lf.bd.o2
  obtain ⟨cn, bj, hmp, hrows⟩ := HX6.out.cl.lf.bd.ex
  have HROWS := Lib.hid hrows
  have HMP := Lib.hid hmp
  clear hmp hrows HPN
  by_cases hf : 0 ≤ lastK p.g p.al p.n
  · exfalso; have h9 := HO.out; unfold Pa.out at h9; rw [if_neg N0.out, if_neg N1.out, if_neg N2.out, if_neg N3.out, if_pos hf] at h9; omega
  have N4 := Lib.hid (show lastK p.g p.al p.n < 0 by omega)
  have HS := Lib.hid (fun (W : World) (hb : Below w6.heap.size w6 W) => (show W.cell? ⟨O, 2, none⟩ = some (.map (some (O + 1))) ∧ W.cell? ⟨T, 0, none⟩ = some (.string p.al) ∧ (Instr.lookup 39 (.map (some (O + 1))) (.string p.al) true).run Tryd.prog W = .ok (.tuple #[.agg #[.slice none 0 0, .int .u32 0, .int .u32 0, .int .i32 0, .int .u32 0], .bool false]) W from ⟨cell_later hb o2, cell_later hb v0, lookE_no HMP.out hb HAL.out (by omega)⟩))
  clear hf
  go_wp2_with fail
  go_cut [14, 15] (fun x14 x15 wx => x14 = .pointer (some ⟨w6.heap.size, 0, none⟩) ∧ x15 = .bool false ∧ (w6.alloc (.cells #[.slice none 0 0, .int .u32 0, .int .u32 0, .int .i32 0, .int .u32 0] 100)).drew = wx)
  case first =>
    go_region_held3 (fun W => W.cell? ⟨O, 2, none⟩ = some (.map (some (O + 1))) ∧ W.cell? ⟨T, 0, none⟩ = some (.string p.al) ∧ (Instr.lookup 39 (.map (some (O + 1))) (.string p.al) true).run Tryd.prog W = .ok (.tuple #[.agg #[.slice none 0 0, .int .u32 0, .int .u32 0, .int .i32 0, .int .u32 0], .bool false]) W) ((refine HS.out _ ?_; (repeat (first | exact Below.refl _ _ | apply Below.drew | apply below_drewN | (refine Below.alloc ?_ (by simp <;> omega) _) | (refine Below.setCell ?_ (by simp <;> omega) _))))) (fail)
    all_goals
      go_wp2_with fail
      go_meet
      case rel => exact ⟨rfl, rfl, rfl⟩
  case rest =>
  obtain ⟨rfl, rfl, hw7⟩ := hcut
  have b7 : Below w6.heap.size w6 (w6.alloc (.cells #[.slice none 0 0, .int .u32 0, .int .u32 0, .int .i32 0, .int .u32 0] 100)).drew := ((Below.refl _ _).alloc (Nat.le_refl _) _).drew
  rw [hw7] at b7
  obtain ⟨E, hE⟩ : ∃ E, E = w6.heap.size := ⟨_, rfl⟩
  rw [← hE]
  have HX7 := Lib.hid (HX6.out.later b7)
  clear y0 y1 y2 y3 z0 z1 z2 z3 hw7 hE b7 HS o2 v0 v6 v7 o62
  have y0 := HX7.out.res.at_ (i := 0) rfl
  have y1 := HX7.out.res.at_ (i := 1) rfl
  have y2 := HX7.out.res.at_ (i := 2) rfl
  have y3 := HX7.out.res.at_ (i := 3) rfl
  have z0 := HX7.out.res.frozen 0
  have z1 := HX7.out.res.frozen 1
  have z2 := HX7.out.res.frozen 2
  have z3 := HX7.out.res.frozen 3
  have o62 := HX7.out.cl.lf.bd.o62
  by_cases h3 : p.kd = 3
  · have t3 : (p.kd == 3) = true := by simpa using h3
    have o48 := HX7.out.cl.lf.bd.o48
    have o49 := HX7.out.cl.lf.bd.o49
    have HFIN := Lib.hid (fun W hw => adv_of (W := W) HX7.out hw (show p.out ts = 5 by unfold Pa.out; rw [if_neg N0.out, if_neg N1.out, if_neg N2.out, if_neg N3.out, if_neg (Int.not_le.2 N4.out), if_pos h3]) (show Pa.ans p 5 = (1, 0, 1, 1073741824, 3) from rfl) (show Am p W (.slice none 0 0) 5 from rfl))
    clear h3
    go_wp2_with fail
    exact bodyPost_ret (v := .tuple #[.agg #[.int .u32 1, .int .i32 0, .int .u32 1, .int .u32 1073741824], .int .u8 3, .slice none 0 0]) (by simp [results, Tryd.results12, go_sem, y0, y1, y2, y3]) rfl (HFIN.out _ (((((Below.refl _ _).setCell (p := ⟨Z + 1, 0, none⟩) HZZ.out _).setCell (p := ⟨Z + 1, 1, none⟩) HZZ.out _).setCell (p := ⟨Z + 1, 2, none⟩) HZZ.out _).setCell (p := ⟨Z + 1, 3, none⟩) HZZ.out _))
  have t3 : (p.kd == 3) = false := by simpa using h3
  have N5 := Lib.hid h3
  have f18 := HX7.out.cl.lf.f18
  obtain ⟨l, hl⟩ : ∃ l : Int, l = if ts = true then 16 else 10 := ⟨_, rfl⟩
  rw [← hl] at f18
  have HL := Lib.hid hl
  clear h3 hl
  go_wp2_with fail
  refine (ists15 ts l HL.out wc).mono ?_
  rintro e w8 ⟨rfl, hb8⟩
  have HX8 := Lib.hid (HX7.out.later hb8)
  clear y0 y1 y2 y3 z0 z1 z2 z3 f18 o62 hb8
  have y0 := HX8.out.res.at_ (i := 0) rfl
  have y1 := HX8.out.res.at_ (i := 1) rfl
  have y2 := HX8.out.res.at_ (i := 2) rfl
  have y3 := HX8.out.res.at_ (i := 3) rfl
  have z0 := HX8.out.res.frozen 0
  have z1 := HX8.out.res.frozen 1
  have z2 := HX8.out.res.frozen 2
  have z3 := HX8.out.res.frozen 3
  have v7 := HX8.out.var.at_ (i := 7) rfl
  by_cases h6 : ts = true ∧ p.exp = true
  · have HFIN := Lib.hid (fun W hw => adv_of (W := W) HX8.out hw (show p.out ts = 6 by unfold Pa.out; rw [if_neg N0.out, if_neg N1.out, if_neg N2.out, if_neg N3.out, if_neg (Int.not_le.2 N4.out), if_neg N5.out, if_pos h6]) (show Pa.ans p 6 = (0, 0, 0, 0, 7) from rfl) (show Am p W (.slice none 0 0) 6 from rfl))
    have h6a := h6.1
    have h6b := h6.2
    clear h6 HX8
    rw [h6b] at v7
    subst h6a
    go_wp2_with fail
    exact bodyPost_ret (v := .tuple #[.agg #[.int .u32 0, .int .i32 0, .int .u32 0, .int .u32 0], .int .u8 7, .slice none 0 0]) (by simp [results, Tryd.results12, go_sem, y0, y1, y2, y3]) rfl (HFIN.out _ (((((Below.refl _ _).setCell (p := ⟨Z + 1, 0, none⟩) HZZ.out _).setCell (p := ⟨Z + 1, 1, none⟩) HZZ.out _).setCell (p := ⟨Z + 1, 2, none⟩) HZZ.out _).setCell (p := ⟨Z + 1, 3, none⟩) HZZ.out _))
  have HFIN := Lib.hid (fun W hw => adv_of (W := W) HX8.out hw (show p.out ts = 7 by unfold Pa.out; rw [if_neg N0.out, if_neg N1.out, if_neg N2.out, if_neg N3.out, if_neg (Int.not_le.2 N4.out), if_neg N5.out, if_neg h6]) (show Pa.ans p 7 = (1, 0, 0, 0, 0) from rfl) (show Am p W (.slice none 0 0) 7 from rfl))
  by_cases h7 : ts = true
  · have h7b : p.exp = false := by
      cases he : p.exp
      · rfl
      · exact absurd ⟨h7, he⟩ h6
    clear h6 HX8
    rw [h7b] at v7
    subst h7
    go_wp2_with fail
    exact bodyPost_ret (v := .tuple #[.agg #[.int .u32 1, .int .i32 0, .int .u32 0, .int .u32 0], .int .u8 0, .slice none 0 0]) (by simp [results, Tryd.results12, go_sem, y0, y1, y2, y3]) rfl (HFIN.out _ (((((Below.refl _ _).setCell (p := ⟨Z + 1, 0, none⟩) HZZ.out _).setCell (p := ⟨Z + 1, 1, none⟩) HZZ.out _).setCell (p := ⟨Z + 1, 2, none⟩) HZZ.out _).setCell (p := ⟨Z + 1, 3, none⟩) HZZ.out _))
  · have h7b : ts = false := by simpa using h7
    clear h6 h7 HX8
    subst h7b
    go_wp2_with fail
    exact bodyPost_ret (v := .tuple #[.agg #[.int .u32 1, .int .i32 0, .int .u32 0, .int .u32 0], .int .u8 0, .slice none 0 0]) (by simp [results, Tryd.results12, go_sem, y0, y1, y2, y3]) rfl (HFIN.out _ (((((Below.refl _ _).setCell (p := ⟨Z + 1, 0, none⟩) HZZ.out _).setCell (p := ⟨Z + 1, 1, none⟩) HZZ.out _).setCell (p := ⟨Z + 1, 2, none⟩) HZZ.out _).setCell (p := ⟨Z + 1, 3, none⟩) HZZ.out _))
end Go.Proofs.YtelcjpmaegacoaaDoor.AiD
