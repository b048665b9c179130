/- FnMarkReachableMatchesBFS: lkB1Clone. -/
import Derived.Test.YtpidbikdncgogaaRows
import Derived.Test.YtpidbikdncgogaaMem
import Derived.Test.YtpidbikdncgogaaSl
import Derived.Test.YtpidbikdncgogaaMrC
import Derived.Carry
import Derived.Deep.DeepCutAuto
import Derived.Laws.Cover3
import Derived.WalkKit
import Derived.ProofKit
import Derived.OpenShut
import Derived.Below
import Derived.WalkLawsBesides
import Derived.Lib.Hide
import Derived.Outline
import Derived.RegionTactic
import Derived.Deep.QuietTactic
import Derived.BigQuiet
import Derived.WalkSpells
import Derived.Deep.OwnRows
import Derived.IntWalk
import Derived.Deep.DeepMust
namespace Go.Proofs.Ytpidbikdncgogaa.MrK
open Go.RowKit Mem Sl
set_option linter.unusedVariables false
open Args Fvs Fxs Argn Tab MrI MrA MrC

set_option maxRecDepth 100000 in
set_option maxHeartbeats 8000000 in
theorem clone7 (b0 o0 n c : Nat) (d : Dat) (h : Hdr) (w : World) (hf : Fs w (some ⟨b0, o0, none⟩) n d h) (hn : n ≤ 256) (hl : Lens n d) :
    Calls Try.prog 7 #[.slice (some ⟨b0, o0, none⟩) n c] w (Cl n d w) := by
  have H := Lib.hid hf
  have HL := Lib.hid hl
  clear hf hl
  have heq := fun (W : World) (X : Option Addr) (l cc : Nat) => Lib.run_eql_slice_nil (P := Try.prog) W 22 68 X l cc 0 0 Try.underlying22
  have nq65 := fun (W : World) (X : Option Addr) (l cc : Nat) => run_neq_slice_nil (P := Try.prog) W 65 73 X l cc Try.underlying65
  have nq66 := fun (W : World) (X : Option Addr) (l cc : Nat) => run_neq_slice_nil (P := Try.prog) W 66 71 X l cc Try.underlying66
  have nq34 := fun (W : World) (X : Option Addr) (l cc : Nat) => run_neq_slice_nil (P := Try.prog) W 34 23 X l cc Try.underlying34
  have nq69 := fun (W : World) (X : Option Addr) (l cc : Nat) => run_neq_slice_nil (P := Try.prog) W 69 75 X l cc Try.underlying69
  obtain ⟨z73, i73, y73⟩ := info73
  obtain ⟨C73, hC73⟩ : ∃ x, x = z73.cells := ⟨_, rfl⟩
  have M73 := Lib.hid (fun (W : World) (m : Nat) (hm : m ≤ 1048576) => run_make_wide (P := Try.prog) 65 73 z73 3 C73 Try.underlying65 i73 hC73.symm .i64 .i64 m hm W)
  have S73 := Lib.hid (show C73.size = 3 by rw [hC73, y73]; rfl)
  clear i73 y73 hC73
  obtain ⟨z71, i71, y71⟩ := info71
  obtain ⟨C71, hC71⟩ : ∃ x, x = z71.cells := ⟨_, rfl⟩
  have M71 := Lib.hid (fun (W : World) (m : Nat) (hm : m ≤ 1048576) => run_make_wide (P := Try.prog) 66 71 z71 4 C71 Try.underlying66 i71 hC71.symm .i64 .i64 m hm W)
  have S71 := Lib.hid (show C71.size = 4 by rw [hC71, y71]; rfl)
  clear i71 y71 hC71
  obtain ⟨z75, i75, y75⟩ := info75
  obtain ⟨C75, hC75⟩ : ∃ x, x = z75.cells := ⟨_, rfl⟩
  have M75 := Lib.hid (fun (W : World) (m : Nat) (hm : m ≤ 1048576) => run_make_wide (P := Try.prog) 69 75 z75 2 C75 Try.underlying69 i75 hC75.symm .i64 .i64 m hm W)
  have S75 := Lib.hid (show C75.size = 2 by rw [hC75, y75]; rfl)
  clear i75 y75 hC75
  obtain ⟨z23, i23, y23⟩ := info23
  obtain ⟨C23, hC23⟩ : ∃ x, x = z23.cells := ⟨_, rfl⟩
  have M23 := Lib.hid (fun (W : World) (m : Nat) (hm : m ≤ 1048576) => run_make_wide (P := Try.prog) 34 23 z23 1 C23 Try.underlying34 i23 hC23.symm .i64 .i64 m hm W)
  have S23 := Lib.hid (show C23.size = 1 by rw [hC23, y23]; rfl)
  clear i23 y23 hC23
  obtain ⟨z68, i68, y68⟩ := info68
  obtain ⟨C68, hC68⟩ : ∃ x, x = z68.cells := ⟨_, rfl⟩
  have hm := run_make_wide (P := Try.prog) 22 68 z68 5 C68 Try.underlying22 i68 hC68.symm .i64 .i64 n (by omega) w
  have S68 := Lib.hid (show C68.size = 5 by rw [hC68, y68]; rfl)
  obtain ⟨O, hO⟩ : ∃ O, O = w.heap.size := ⟨_, rfl⟩
  rw [← hO] at hm
  have HO := Lib.hid hO
  clear i68 y68 hC68 hO
  go_enter Try.func7, Try.ntmps7
  go_upto_region 4 with (first | rw [heq] | fail)
  have t0 := tb_made w 68 C68 n 5 S68.out
  have b0' : Below w.heap.size w (w.alloc (.cells (madeCells C68 (n * 5)) 68)) := (Below.refl _ _).alloc (Nat.le_refl _) _
  have L0 := Lib.hid (show Lc n 0 d h (fun _ j => C68.getD j undef) w (w.alloc (.cells (madeCells C68 (n * 5)) 68)) from ⟨t0, fun i hi => absurd hi (Nat.not_lt_zero i), fun i hi => absurd hi (Nat.not_lt_zero i), b0'⟩)
  obtain ⟨wz, hwz⟩ : ∃ wz, wz = w.alloc (.cells (madeCells C68 (n * 5)) 68) := ⟨_, rfl⟩
  rw [← hwz] at L0 ⊢
  clear hm t0 b0' hwz heq
  go_wp2
  go_loopw [4] (fun i wr => ∃ (k : Nat) (h' : Hdr) (T : Nat → Nat → Value), k ≤ n ∧ i = .int .i64 k ∧ Lc n k d h' T w wr) (fun i _ => n - (intOf i).toNat)
  case atStart => exact ⟨0, _, _, Nat.zero_le _, rfl, L0.out⟩
  case round =>
    clear L0
    obtain ⟨k, h', T, hk, rfl, hlc⟩ := hrel
    obtain ⟨wo, hwo⟩ : ∃ wo, wo = wr := ⟨_, rfl⟩
    rw [← hwo] at hlc ⊢
    have LC := Lib.hid hlc
    clear hwo
    by_cases hlt : k < n
    · have FO := Lib.hid (H.out.later (by have := hlc.bel; exact this))
      obtain ⟨b, o, ha, hb, c0, c1, c2, c3, c4⟩ := FO.out.file k hlt
      injection ha with ha
      injection ha with ha1 ha2
      subst ha1 ha2
      obtain ⟨hm1, hm2, hm3⟩ := HL.out k hlt
      obtain ⟨u, hu⟩ : ∃ x, x = d.rl k := ⟨_, rfl⟩
      obtain ⟨v, hv⟩ : ∃ x, x = d.pl k := ⟨_, rfl⟩
      obtain ⟨RA, hRA⟩ : ∃ x, x = h.RA k := ⟨_, rfl⟩
      obtain ⟨PA, hPA⟩ : ∃ x, x = h.PA k := ⟨_, rfl⟩
      rw [← hu, ← hRA] at c3
      rw [← hv, ← hPA] at c4
      rw [← hu] at hm1
      rw [← hv] at hm2 hm3
      have HU := Lib.hid hu
      have HV := Lib.hid hv
      have HRA := Lib.hid hRA
      have HPA := Lib.hid hPA
      have HPL := Lib.hid hm3
      have HLT := Lib.hid hlt
      have rg := Row.newArr wo 68 #[.int .i32 (d.css k), .bool (d.se k), .bool (d.lv k), .slice RA u (h.RC k), .slice PA v (h.PC k)]
      have ba : Below wo.heap.size wo (wo.alloc (.cells #[.int .i32 (d.css k), .bool (d.se k), .bool (d.lv k), .slice RA u (h.RC k), .slice PA v (h.PC k)] 68)) := (Below.refl _ _).alloc (Nat.le_refl _) _
      clear hu hv hRA hPA hm3 hb hlc
      go_upto_region 8 with fail
      obtain ⟨g, hg⟩ : ∃ g, g = wo.heap.size := ⟨_, rfl⟩
      obtain ⟨w1, hw1⟩ : ∃ w1, w1 = wo.alloc (.cells #[.int .i32 (d.css k), .bool (d.se k), .bool (d.lv k), .slice RA u (h.RC k), .slice PA v (h.PC k)] 68) := ⟨_, rfl⟩
      rw [← hw1] at rg ba ⊢
      have T1 := Lib.hid (LC.out.tb.later ba)
      have BA := Lib.hid ba
      rw [← hg] at rg ⊢
      have g0 := rg.at_ (i := 0) rfl
      have g1 := rg.at_ (i := 1) rfl
      have g2 := rg.at_ (i := 2) rfl
      have g3 := rg.at_ (i := 3) rfl
      have g4 := rg.at_ (i := 4) rfl
      have HG := Lib.hid hg
      have hgl := rg.lt
      rw [← HO.out] at T1
      have x0 := T1.out.cell k 0 HLT.out (by decide)
      have x1 := T1.out.cell k 1 HLT.out (by decide)
      have x2 := T1.out.cell k 2 HLT.out (by decide)
      have x3 := T1.out.cell k 3 HLT.out (by decide)
      have x4 := T1.out.cell k 4 HLT.out (by decide)
      rw [Nat.add_zero] at x0
      have zf := fun o => T1.out.frozen o
      have zf0 := zf (k * 5)
      have zf1 := zf (k * 5 + 1)
      have zf2 := zf (k * 5 + 2)
      have zf3 := zf (k * 5 + 3)
      have zf4 := zf (k * 5 + 4)
      clear hw1 rg ba c0 c1 c2 c3 c4 hg zf
      go_upto_region 9 with fail
      obtain ⟨w2, hw2⟩ : ∃ w2, w2 = ((((w1.setCell ⟨O, k * 5, none⟩ (.int .i32 (d.css k))).setCell ⟨O, k * 5 + 1, none⟩ (.bool (d.se k))).setCell ⟨O, k * 5 + 2, none⟩ (.bool (d.lv k))).setCell ⟨O, k * 5 + 3, none⟩ (.slice RA u (h.RC k))).setCell ⟨O, k * 5 + 4, none⟩ (.slice PA v (h.PC k)) := ⟨_, rfl⟩
      have T2 := Lib.hid (show Tb w2 O n 5 (upRow T k (rowT d k (.slice RA u (h.RC k)) (.slice PA v (h.PC k)))) from by rw [hw2]; exact T1.out.row HLT.out [.int .i32 (d.css k), .bool (d.se k), .bool (d.lv k), .slice RA u (h.RC k), .slice PA v (h.PC k)] rfl _ (row_list d k _ _))
      have X2 := Lib.hid (show Fx (fun j => j = O) wo w2 from by rw [hw2]; exact fx_setCells (vs := [.int .i32 (d.css k), .bool (d.se k), .bool (d.lv k), .slice RA u (h.RC k), .slice PA v (h.PC k)]) (Fx.of_below BA.out) rfl)
      have hgO : g ≠ O := by have := LC.out.bel.size; have := LC.out.tb.lt; have := HG.out; have := HO.out; omega
      have G3 : w2.cell? ⟨g, 3, none⟩ = some (.slice RA u (h.RC k)) := by
        rw [hw2]; exact (World.cell?_of_block (a := ⟨g, 3, none⟩) (setCells_block O [.int .i32 (d.css k), .bool (d.se k), .bool (d.lv k), .slice RA u (h.RC k), .slice PA v (h.PC k)] (k * 5) w1 g hgO)).trans g3
      have G4 : w2.cell? ⟨g, 4, none⟩ = some (.slice PA v (h.PC k)) := by
        rw [hw2]; exact (World.cell?_of_block (a := ⟨g, 4, none⟩) (setCells_block O [.int .i32 (d.css k), .bool (d.se k), .bool (d.lv k), .slice RA u (h.RC k), .slice PA v (h.PC k)] (k * 5) w1 g hgO)).trans g4
      rw [← hw2]
      clear hw2 g0 g1 g2 g3 g4 x0 x1 x2 x3 x4 zf0 zf1 zf2 zf3 zf4
      have hgl2 : g < w2.heap.size := cell_lt G3
      go_upto_if 36 with fail
      go_cut [] (fun wx => Ca n k d h' (.slice PA v (h.PC k)) O w2 wx)
      case first =>
        have HOW := Lib.hid (show O < w2.heap.size from T2.out.lt)
        rcases RA with _ | ⟨b2, o2, s2⟩
        · have hz : d.rl k = 0 := by
            rcases Nat.eq_zero_or_pos (d.rl k) with e | e
            · exact e
            · obtain ⟨b2, o2, ha2, _⟩ := FO.out.rcd k HLT.out 0 e
              rw [← HRA.out] at ha2; cases ha2
          have HZ := Lib.hid hz
          clear hz
          go_wp2
          go_meet
          case rel => exact ⟨none, h.RC k, _, T2.out, fun i hi c hc => (upRow_low _ _ _ hi).trans (LC.out.tk i hi c hc), fun c hc => (upRow_self _ _ _ _).trans (by rw [← HU.out]), tbAt_none HZ.out, Fx.refl _ _⟩
        · obtain ⟨r1, hr1⟩ : ∃ r, r = w2.heap.size := ⟨_, rfl⟩
          have mk := M73.out w2 u hm1
          have tb := tb_made w2 73 C73 u 3 S73.out
          have bb : Below w2.heap.size w2 (w2.alloc (.cells (madeCells C73 (u * 3)) 73)) := (Below.refl _ _).alloc (Nat.le_refl _) _
          obtain ⟨w3, hw3⟩ : ∃ w3, w3 = w2.alloc (.cells (madeCells C73 (u * 3)) 73) := ⟨_, rfl⟩
          rw [← hr1] at mk tb bb
          rw [← hw3] at mk tb bb
          have R1 := Lib.hid hr1
          have TB := Lib.hid tb
          have BB := Lib.hid bb
          have k3 := cell_later (by have := bb; rw [hr1] at this; exact this) G3
          clear hr1 hw3 tb bb
          go_upto_region 11 with fail
          clear mk
          go_wp2
          go_loopw [7] (fun i wr => ∃ j : Nat, j ≤ u ∧ i = .int .i64 j ∧ Tb wr r1 u 3 (upto2 (recT d k) (fun c => C73.getD c undef) j) ∧ Below r1 w2 wr) (fun i _ => u - (intOf i).toNat)
          case atStart => exact ⟨0, Nat.zero_le _, rfl, TB.out.congr (fun i j _ _ => upto2_zero (recT d k) (fun c => C73.getD c undef) i j), BB.out⟩
          case round =>
            clear TB BB k3
            obtain ⟨j, hj, rfl, htb, hbb⟩ := hrel
            have TJ := Lib.hid htb
            have BJ := Lib.hid hbb
            have bj2 : Below w2.heap.size w2 wr := by rw [← R1.out]; exact hbb
            have k3 := cell_later bj2 G3
            have BW := Lib.hid bj2
            clear bj2 hbb htb
            by_cases hlj : j < u
            · obtain ⟨b3, o3, ha3, hb3, e0, e1, e2⟩ := FO.out.rcd k HLT.out j (by rw [← HU.out]; exact hlj)
              rw [← HRA.out] at ha3
              injection ha3 with ha3
              injection ha3 with ha3 ha4 ha5
              subst ha3 ha4 ha5
              have hne : b2 ≠ O := by have := H.out.rcd k HLT.out j (by rw [← HU.out]; exact hlj); obtain ⟨b4, o4, ha4, hb4, _⟩ := this; rw [← HRA.out] at ha4; injection ha4 with ha4; injection ha4 with ha4; have := HO.out; omega
              have kk : ∀ o v, wo.cell? ⟨b2, o, none⟩ = some v → wr.cell? ⟨b2, o, none⟩ = some v := fun o v hv => cell_later BW.out ((X2.out.cell (cell_lt hv) (fun e => hne e)).trans hv)
              have f0 := kk _ _ e0
              have f1 := kk _ _ e1
              have f2 := kk _ _ e2
              have x0 := TJ.out.cell j 0 hlj (by decide)
              have x1 := TJ.out.cell j 1 hlj (by decide)
              have x2 := TJ.out.cell j 2 hlj (by decide)
              rw [Nat.add_zero] at x0
              have zf := fun o => TJ.out.frozen o
              have zf0 := zf (j * 3)
              have zf1 := zf (j * 3 + 1)
              have zf2 := zf (j * 3 + 2)
              have NX := Lib.hid (show Tb (((wr.setCell ⟨r1, j * 3, none⟩ (.int .i32 (d.rt k j))).setCell ⟨r1, j * 3 + 1, none⟩ (.int .u8 (d.rk k j))).setCell ⟨r1, j * 3 + 2, none⟩ (.bool (d.rx k j))) r1 u 3 (upto2 (recT d k) (fun c => C73.getD c undef) (j + 1)) from TJ.out.next hlj [.int .i32 (d.rt k j), .int .u8 (d.rk k j), .bool (d.rx k j)] rfl (rec_list d k j))
              have NB := Lib.hid (show Below r1 w2 (((wr.setCell ⟨r1, j * 3, none⟩ (.int .i32 (d.rt k j))).setCell ⟨r1, j * 3 + 1, none⟩ (.int .u8 (d.rk k j))).setCell ⟨r1, j * 3 + 2, none⟩ (.bool (d.rx k j))) from below_setCells (vs := [.int .i32 (d.rt k j), .int .u8 (d.rk k j), .bool (d.rx k j)]) BJ.out (Nat.le_refl _))
              clear kk zf e0 e1 e2 hb3 hne
              go_wp2
              go_roundw
              case rel => first | exact ⟨j + 1, by omega, by go_num, NX.out, NB.out⟩ | exact hrel
              case measure => simp [intOf]; omega
            · obtain rfl : u = j := by omega
              obtain ⟨w4, hw4⟩ : ∃ w4, w4 = wr := ⟨_, rfl⟩
              rw [← hw4] at TJ BJ BW k3 ⊢
              have TO := Lib.hid (T2.out.later BW.out)
              have x3 := TO.out.cell k 3 HLT.out (by decide)
              have zf3 := TO.out.frozen (k * 5 + 3)
              have rne : r1 ≠ O := by have := R1.out; have := HOW.out; omega
              have CA := Lib.hid (show Ca n k d h' (.slice PA v (h.PC k)) O w2 (w4.setCell ⟨O, k * 5 + 3, none⟩ (.slice (some ⟨r1, 0, none⟩) u u)) from
                ⟨some ⟨r1, 0, none⟩, u, _, TO.out.set HLT.out (by decide) _, fun i hi c hc => (up2_low _ _ _ _ hi).trans ((upRow_low _ _ _ hi).trans (LC.out.tk i hi c hc)),
                  by rw [← HU.out]; exact row_up3 (fun c hc => upRow_self _ _ _ _), by rw [← HU.out]; exact tbAt_of ((TJ.out.far (p := ⟨O, k * 5 + 3, none⟩) rne _).congr (fun i j hi _ => upto2_lt _ _ hi j)) (by have := R1.out; have := HOW.out; omega),
                  Fx.setCell (P := fun j => j = O) (Fx.of_below BW.out) (p := ⟨O, k * 5 + 3, none⟩) rfl _⟩)
              clear hw4
              go_wp2
              go_meet
              case rel => exact CA.out
      case rest =>
        obtain ⟨RA', RC', T', ht, hlow, hrow, hrec, hfx⟩ := hcut
        obtain ⟨wk, hwk⟩ : ∃ wk, wk = wc := ⟨_, rfl⟩
        rw [← hwk] at ht hrec hfx ⊢
        have TK := Lib.hid ht
        have LOW := Lib.hid hlow
        have ROW := Lib.hid hrow
        have REC := Lib.hid hrec
        have XK := Lib.hid (X2.out.trans hfx)
        have k4 : wk.cell? ⟨g, 4, none⟩ = some (.slice PA v (h.PC k)) := (hfx.cell hgl2 (fun e => hgO e)).trans G4
        have hgk : g < wk.heap.size := cell_lt k4
        clear hwk ht hlow hrow hrec hfx G3 G4
        go_upto_if 63 with fail
        have HOK := Lib.hid (show O < wk.heap.size from TK.out.lt)
        rcases PA with _ | ⟨b2, o2, s2⟩
        · have hz : d.pl k = 0 := by
            rcases Nat.eq_zero_or_pos (d.pl k) with e | e
            · exact e
            · obtain ⟨b2, o2, ha2, _⟩ := FO.out.part k HLT.out 0 e
              rw [← HPA.out] at ha2; cases ha2
          have NX := Lib.hid (lc_next (RA := RA') (RC := RC') (PA := none) (PC := h.PC k) (QA := fun _ => none) (DA := fun _ => none) (QC := fun _ => 0) (DC := fun _ => 0) LC.out (by rw [← HO.out]; exact TK.out) LOW.out (by rw [← HV.out]; exact ROW.out)
            ⟨by rw [← HO.out]; exact REC.out, tbAt_none hz, fun j hj => absurd hj (by omega), fun j hj => absurd hj (by omega)⟩ (by rw [← HO.out]; exact XK.out))
          clear hz
          go_wp2
          go_roundw
          case rel => first | exact ⟨k + 1, _, _, by omega, by go_num, NX.out⟩ | exact hrel
          case measure => simp [intOf]; omega
        · obtain ⟨p1, hp1⟩ : ∃ r, r = wk.heap.size := ⟨_, rfl⟩
          have mk := M71.out wk v hm2
          have tb := tb_made wk 71 C71 v 4 S71.out
          have bb : Below wk.heap.size wk (wk.alloc (.cells (madeCells C71 (v * 4)) 71)) := (Below.refl _ _).alloc (Nat.le_refl _) _
          obtain ⟨wl, hwl⟩ : ∃ w3, w3 = wk.alloc (.cells (madeCells C71 (v * 4)) 71) := ⟨_, rfl⟩
          rw [← hp1] at mk tb bb
          rw [← hwl] at mk tb bb
          have P1 := Lib.hid hp1
          have LP0 := Lib.hid (lp_start (d := d) (k := k) (QA := fun _ => none) (DA := fun _ => none) (QC := fun _ => 0) (DC := fun _ => 0) (by rw [← HV.out]; exact tb) bb)
          have k4' := cell_later (by have := bb; rw [hp1] at this; exact this) k4
          clear hp1 hwl tb bb
          go_upto_region 18 with fail
          clear mk
          go_wp2
          clear k4'
          go_loopw [9] (fun i wr => ∃ (j : Nat) (QA DA : Nat → Option Addr) (QC DC : Nat → Nat) (T4 : Nat → Nat → Value), j ≤ v ∧ i = .int .i64 j ∧ Lp d k j p1 QA DA QC DC T4 wk wr) (fun i _ => v - (intOf i).toNat)
          case atStart => exact ⟨0, _, _, _, _, _, Nat.zero_le _, rfl, LP0.out⟩
          case round =>
            clear LP0
            obtain ⟨j, QA, DA, QC, DC, T4, hj, rfl, hlp⟩ := hrel
            obtain ⟨wq, hwq⟩ : ∃ wq, wq = wr := ⟨_, rfl⟩
            rw [← hwq] at hlp ⊢
            have LPQ := Lib.hid hlp
            have BQ := Lib.hid (show Below wk.heap.size wk wq by rw [← P1.out]; exact hlp.bel)
            have k4q := cell_later BQ.out k4
            clear hlp hwq
            by_cases hlj : j < v
            · obtain ⟨b3, o3, ha3, hb3, e0, e1, e2, e3⟩ := FO.out.part k HLT.out j (by rw [← HV.out]; exact hlj)
              rw [← HPA.out] at ha3
              injection ha3 with ha3
              injection ha3 with ha3 ha4 ha5
              subst ha3 ha4 ha5
              have hne : b2 ≠ O := by have := H.out.part k HLT.out j (by rw [← HV.out]; exact hlj); obtain ⟨b4, o4, ha4, hb4, _⟩ := this; rw [← HPA.out] at ha4; injection ha4 with ha4; injection ha4 with ha4; have := HO.out; omega
              obtain ⟨hm4, hm5⟩ := HPL.out j hlj
              obtain ⟨x, hx⟩ : ∃ z, z = d.ql k j := ⟨_, rfl⟩
              obtain ⟨y, hy⟩ : ∃ z, z = d.dl k j := ⟨_, rfl⟩
              obtain ⟨QAj, hQA⟩ : ∃ z, z = h.QA k j := ⟨_, rfl⟩
              obtain ⟨DAj, hDA⟩ : ∃ z, z = h.DA k j := ⟨_, rfl⟩
              rw [← hx, ← hQA] at e0
              rw [← hy, ← hDA] at e1
              rw [← hx] at hm4
              rw [← hy] at hm5
              have HX := Lib.hid hx
              have HY := Lib.hid hy
              have HQA := Lib.hid hQA
              have HDA := Lib.hid hDA
              have HLJ := Lib.hid hlj
              have kk : ∀ o v, wo.cell? ⟨b2, o, none⟩ = some v → wq.cell? ⟨b2, o, none⟩ = some v := fun o v hv => cell_later BQ.out ((XK.out.cell (cell_lt hv) (fun e => hne e)).trans hv)
              have f0 := kk _ _ e0
              have f1 := kk _ _ e1
              have f2 := kk _ _ e2
              have f3 := kk _ _ e3
              have r2 := Row.newArr wq 71 #[.slice QAj x (h.QC k j), .slice DAj y (h.DC k j), .bool (d.cb k j), .bool (d.ft k j)]
              have b5 : Below wq.heap.size wq (wq.alloc (.cells #[.slice QAj x (h.QC k j), .slice DAj y (h.DC k j), .bool (d.cb k j), .bool (d.ft k j)] 71)) := (Below.refl _ _).alloc (Nat.le_refl _) _
              clear hx hy hQA hDA hb3 kk hne e0 e1 e2 e3 hlj
              go_upto_region 22 with fail
              obtain ⟨g5, hg5⟩ : ∃ z, z = wq.heap.size := ⟨_, rfl⟩
              obtain ⟨w5, hw5⟩ : ∃ z, z = wq.alloc (.cells #[.slice QAj x (h.QC k j), .slice DAj y (h.DC k j), .bool (d.cb k j), .bool (d.ft k j)] 71) := ⟨_, rfl⟩
              rw [← hw5] at r2 b5 ⊢
              have B5 := Lib.hid b5
              have T5 := Lib.hid (LPQ.out.tb.later b5)
              rw [← HV.out] at T5
              rw [← hg5] at r2 ⊢
              have m0 := r2.at_ (i := 0) rfl
              have m1 := r2.at_ (i := 1) rfl
              have m2 := r2.at_ (i := 2) rfl
              have m3 := r2.at_ (i := 3) rfl
              have x0 := T5.out.cell j 0 HLJ.out (by decide)
              have x1 := T5.out.cell j 1 HLJ.out (by decide)
              have x2 := T5.out.cell j 2 HLJ.out (by decide)
              have x3 := T5.out.cell j 3 HLJ.out (by decide)
              rw [Nat.add_zero] at x0
              have zf := fun o => T5.out.frozen o
              have zf0 := zf (j * 4)
              have zf1 := zf (j * 4 + 1)
              have zf2 := zf (j * 4 + 2)
              have zf3 := zf (j * 4 + 3)
              have G5 := Lib.hid hg5
              clear hw5 r2 b5 hg5 f0 f1 f2 f3 zf
              go_upto_region 23 with fail
              obtain ⟨w6, hw6⟩ : ∃ z, z = (((w5.setCell ⟨p1, j * 4, none⟩ (.slice QAj x (h.QC k j))).setCell ⟨p1, j * 4 + 1, none⟩ (.slice DAj y (h.DC k j))).setCell ⟨p1, j * 4 + 2, none⟩ (.bool (d.cb k j))).setCell ⟨p1, j * 4 + 3, none⟩ (.bool (d.ft k j)) := ⟨_, rfl⟩
              have T6 := Lib.hid (show Tb w6 p1 v 4 (upRow T4 j (prowT d k j (.slice QAj x (h.QC k j)) (.slice DAj y (h.DC k j)))) from by rw [hw6]; exact T5.out.row HLJ.out [.slice QAj x (h.QC k j), .slice DAj y (h.DC k j), .bool (d.cb k j), .bool (d.ft k j)] rfl _ (prow_list d k j _ _))
              have X6 := Lib.hid (show Fx (fun b => b = p1) wq w6 from by rw [hw6]; exact fx_setCells (vs := [.slice QAj x (h.QC k j), .slice DAj y (h.DC k j), .bool (d.cb k j), .bool (d.ft k j)]) (Fx.of_below B5.out) rfl)
              have hgp : g5 ≠ p1 := by have := LPQ.out.tb.lt; have := G5.out; omega
              have G60 : w6.cell? ⟨g5, 0, none⟩ = some (.slice QAj x (h.QC k j)) := by
                rw [hw6]; exact (World.cell?_of_block (a := ⟨g5, 0, none⟩) (setCells_block p1 [.slice QAj x (h.QC k j), .slice DAj y (h.DC k j), .bool (d.cb k j), .bool (d.ft k j)] (j * 4) w5 g5 hgp)).trans m0
              have G61 : w6.cell? ⟨g5, 1, none⟩ = some (.slice DAj y (h.DC k j)) := by
                rw [hw6]; exact (World.cell?_of_block (a := ⟨g5, 1, none⟩) (setCells_block p1 [.slice QAj x (h.QC k j), .slice DAj y (h.DC k j), .bool (d.cb k j), .bool (d.ft k j)] (j * 4) w5 g5 hgp)).trans m1
              rw [← hw6]
              clear hw6 m0 m1 m2 m3 x0 x1 x2 x3 zf0 zf1 zf2 zf3
              have hg6 : g5 < w6.heap.size := cell_lt G60
              go_upto_if 86 with fail
              go_cut [] (fun wx => Cb d k j p1 QA DA QC DC (.slice DAj y (h.DC k j)) w6 wx)
              case first =>
                have HP6 := Lib.hid (show p1 < w6.heap.size from T6.out.lt)
                rcases QAj with _ | ⟨b7, o7, s7⟩
                · have hz : d.ql k j = 0 := by
                    rcases Nat.eq_zero_or_pos (d.ql k j) with e | e
                    · exact e
                    · obtain ⟨b8, o8, ha8, _⟩ := FO.out.qr k HLT.out j (by rw [← HV.out]; exact HLJ.out) 0 e
                      rw [← HQA.out] at ha8; cases ha8
                  have CB := Lib.hid (show Cb d k j p1 QA DA QC DC (.slice DAj y (h.DC k j)) w6 w6 from ⟨none, h.QC k j, _, by rw [← HV.out]; exact T6.out, fun i hi c hc => (upRow_low _ _ _ hi).trans (LPQ.out.tk i hi c hc), fun c hc => (upRow_self _ _ _ _).trans (by rw [← HX.out]), tbAt_none hz, Fx.refl _ _⟩)
                  clear hz
                  go_wp2
                  go_meet
                  case rel => exact CB.out
                · obtain ⟨r7, hr7⟩ : ∃ r, r = w6.heap.size := ⟨_, rfl⟩
                  have mk := M23.out w6 x hm4
                  have tb := tb_made w6 23 C23 x 1 S23.out
                  have bb : Below w6.heap.size w6 (w6.alloc (.cells (madeCells C23 (x * 1)) 23)) := (Below.refl _ _).alloc (Nat.le_refl _) _
                  obtain ⟨w7, hw7⟩ : ∃ w3, w3 = w6.alloc (.cells (madeCells C23 (x * 1)) 23) := ⟨_, rfl⟩
                  rw [← hr7] at mk tb bb
                  rw [← hw7] at mk tb bb
                  have R7 := Lib.hid hr7
                  have TB := Lib.hid tb
                  have BB := Lib.hid bb
                  have k7 := cell_later (by have := bb; rw [hr7] at this; exact this) G60
                  clear hr7 hw7 tb bb
                  go_upto_region 25 with fail
                  clear mk
                  go_wp2
                  clear k7
                  go_loopw [12] (fun i wr => ∃ q : Nat, q ≤ x ∧ i = .int .i64 q ∧ Tb wr r7 x 1 (upto2 (qT (d.qv k j)) (fun c => C23.getD c undef) q) ∧ Below r7 w6 wr) (fun i _ => x - (intOf i).toNat)
                  case atStart => exact ⟨0, Nat.zero_le _, rfl, TB.out.congr (fun i j' _ _ => upto2_zero (qT (d.qv k j)) (fun c => C23.getD c undef) i j'), BB.out⟩
                  case round =>
                    clear TB BB
                    obtain ⟨q, hq, rfl, htb, hbb⟩ := hrel
                    have TJ := Lib.hid htb
                    have BJ := Lib.hid hbb
                    have bj2 : Below w6.heap.size w6 wr := by rw [← R7.out]; exact hbb
                    have k7 := cell_later bj2 G60
                    have BW := Lib.hid bj2
                    clear bj2 hbb htb
                    by_cases hlq : q < x
                    · obtain ⟨b8, o8, ha8, hb8, e8⟩ := FO.out.qr k HLT.out j (by rw [← HV.out]; exact HLJ.out) q (by rw [← HX.out]; exact hlq)
                      rw [← HQA.out] at ha8
                      injection ha8 with ha8
                      injection ha8 with ha8 ha9 ha10
                      subst ha8 ha9 ha10
                      have hne : b7 ≠ O := by have := H.out.qr k HLT.out j (by rw [← HV.out]; exact HLJ.out) q (by rw [← HX.out]; exact hlq); obtain ⟨b4, o4, ha4, hb4, _⟩ := this; rw [← HQA.out] at ha4; injection ha4 with ha4; injection ha4 with ha4; have := HO.out; omega
                      have f0 := cell_later BW.out ((X6.out.cell (Nat.lt_of_lt_of_le hb8 (Nat.le_trans XK.out.size BQ.out.size)) (fun e => by have := XK.out.size; have := P1.out; have e' : b7 = p1 := e; omega)).trans (cell_later BQ.out ((XK.out.cell (cell_lt e8) (fun e => hne e)).trans e8)))
                      have x0 := TJ.out.cell q 0 hlq (by decide)
                      have zf0 := TJ.out.frozen q
                      rw [Nat.add_zero, Nat.mul_one] at x0
                      have NX := Lib.hid (show Tb (wr.setCell ⟨r7, q, none⟩ (.int .u32 (d.qv k j q))) r7 x 1 (upto2 (qT (d.qv k j)) (fun c => C23.getD c undef) (q + 1)) from by
                        have := TJ.out.next hlq [.int .u32 (d.qv k j q)] rfl (q_list (d.qv k j) q)
                        rw [Nat.mul_one] at this; exact this)
                      have NB := Lib.hid (show Below r7 w6 (wr.setCell ⟨r7, q, none⟩ (.int .u32 (d.qv k j q))) from BJ.out.setCell (p := ⟨r7, q, none⟩) (Nat.le_refl _) _)
                      clear e8 hb8 hne
                      go_wp2
                      go_roundw
                      case rel => first | exact ⟨q + 1, by omega, by go_num, NX.out, NB.out⟩ | exact hrel
                      case measure => simp [intOf]; omega
                    · obtain rfl : x = q := by omega
                      obtain ⟨w8, hw8⟩ : ∃ w4, w4 = wr := ⟨_, rfl⟩
                      rw [← hw8] at TJ BJ BW k7 ⊢
                      have TO := Lib.hid (T6.out.later BW.out)
                      have x0 := TO.out.cell j 0 HLJ.out (by decide)
                      have zf0 := TO.out.frozen (j * 4)
                      rw [Nat.add_zero] at x0
                      have rne : r7 ≠ p1 := by have := R7.out; have := HP6.out; omega
                      have CB := Lib.hid (show Cb d k j p1 QA DA QC DC (.slice DAj y (h.DC k j)) w6 (w8.setCell ⟨p1, j * 4, none⟩ (.slice (some ⟨r7, 0, none⟩) x x)) from
                        ⟨some ⟨r7, 0, none⟩, x, _, by rw [← HV.out]; exact TO.out.set HLJ.out (show 0 < 4 by decide) _, fun i hi c hc => (up2_low _ _ _ _ hi).trans ((upRow_low _ _ _ hi).trans (LPQ.out.tk i hi c hc)),
                          by rw [← HX.out]; exact prow_up0 (fun c hc => upRow_self _ _ _ _), by rw [← HX.out]; exact tbAt_of ((TJ.out.far (p := ⟨p1, j * 4, none⟩) rne _).congr (fun i j' hi _ => upto2_lt _ _ hi j')) (by have := R7.out; have := HP6.out; omega),
                          Fx.setCell (P := fun b => b = p1) (Fx.of_below BW.out) (p := ⟨p1, j * 4, none⟩) rfl _⟩)
                      clear hw8
                      go_wp2
                      go_meet
                      case rel => exact CB.out
              case rest =>
                obtain ⟨QAn, QCn, T', ht, hlow, hrow, hq7, hfx⟩ := hcut
                obtain ⟨wk2, hwk2⟩ : ∃ wk, wk = wc := ⟨_, rfl⟩
                rw [← hwk2] at ht hq7 hfx ⊢
                have TK2 := Lib.hid ht
                have LOW2 := Lib.hid hlow
                have ROW2 := Lib.hid hrow
                have QR2 := Lib.hid hq7
                have XK2 := Lib.hid (X6.out.trans hfx)
                rw [← HV.out] at TK2
                have k8 : wk2.cell? ⟨g5, 1, none⟩ = some (.slice DAj y (h.DC k j)) := (hfx.cell hg6 (fun e => hgp e)).trans G61
                have hgk2 : g5 < wk2.heap.size := cell_lt k8
                have HPK := Lib.hid (show p1 < wk2.heap.size from TK2.out.lt)
                clear hwk2 ht hlow hrow hq7 hfx G60 G61
                go_upto_if 113 with fail
                rcases DAj with _ | ⟨b7, o7, s7⟩
                · have hz : d.dl k j = 0 := by
                    rcases Nat.eq_zero_or_pos (d.dl k j) with e | e
                    · exact e
                    · obtain ⟨b8, o8, ha8, _⟩ := FO.out.dep k HLT.out j (by rw [← HV.out]; exact HLJ.out) 0 e
                      rw [← HDA.out] at ha8; cases ha8
                  have NX := Lib.hid (lp_next (QAj := QAn) (QCj := QCn) (DAj := none) (DCj := h.DC k j) LPQ.out (by rw [← HV.out]; exact TK2.out) LOW2.out (by rw [← HY.out]; exact ROW2.out) QR2.out (tbAt_none hz) XK2.out (Nat.le_of_eq P1.out))
                  clear hz
                  go_wp2
                  go_roundw
                  case rel => first | exact ⟨j + 1, _, _, _, _, _, by omega, by go_num, NX.out⟩ | exact hrel
                  case measure => simp [intOf]; omega
                · obtain ⟨r9, hr9⟩ : ∃ r, r = wk2.heap.size := ⟨_, rfl⟩
                  have mk := M75.out wk2 y hm5
                  have tb := tb_made wk2 75 C75 y 2 S75.out
                  have bb : Below wk2.heap.size wk2 (wk2.alloc (.cells (madeCells C75 (y * 2)) 75)) := (Below.refl _ _).alloc (Nat.le_refl _) _
                  obtain ⟨w9, hw9⟩ : ∃ w3, w3 = wk2.alloc (.cells (madeCells C75 (y * 2)) 75) := ⟨_, rfl⟩
                  rw [← hr9] at mk tb bb
                  rw [← hw9] at mk tb bb
                  have R9 := Lib.hid hr9
                  have TB := Lib.hid tb
                  have BB := Lib.hid bb
                  have k9 := cell_later (by have := bb; rw [hr9] at this; exact this) k8
                  clear hr9 hw9 tb bb
                  go_upto_region 32 with fail
                  clear mk
                  go_wp2
                  clear k9
                  go_loopw [14] (fun i wr => ∃ q : Nat, q ≤ y ∧ i = .int .i64 q ∧ Tb wr r9 y 2 (upto2 (depT (d.df k j) (d.dp k j)) (fun c => C75.getD c undef) q) ∧ Below r9 wk2 wr) (fun i _ => y - (intOf i).toNat)
                  case atStart => exact ⟨0, Nat.zero_le _, rfl, TB.out.congr (fun i j' _ _ => upto2_zero (depT (d.df k j) (d.dp k j)) (fun c => C75.getD c undef) i j'), BB.out⟩
                  case round =>
                    clear TB BB
                    obtain ⟨q, hq, rfl, htb, hbb⟩ := hrel
                    have TJ := Lib.hid htb
                    have BJ := Lib.hid hbb
                    have bj2 : Below wk2.heap.size wk2 wr := by rw [← R9.out]; exact hbb
                    have k9 := cell_later bj2 k8
                    have BW := Lib.hid bj2
                    clear bj2 hbb htb
                    by_cases hlq : q < y
                    · obtain ⟨b8, o8, ha8, hb8, e8, e9⟩ := FO.out.dep k HLT.out j (by rw [← HV.out]; exact HLJ.out) q (by rw [← HY.out]; exact hlq)
                      rw [← HDA.out] at ha8
                      injection ha8 with ha8
                      injection ha8 with ha8 ha9 ha10
                      subst ha8 ha9 ha10
                      have hne : b7 ≠ O := by have := H.out.dep k HLT.out j (by rw [← HV.out]; exact HLJ.out) q (by rw [← HY.out]; exact hlq); obtain ⟨b4, o4, ha4, hb4, _⟩ := this; rw [← HDA.out] at ha4; injection ha4 with ha4; injection ha4 with ha4; have := HO.out; omega
                      have kk : ∀ o v, wo.cell? ⟨b7, o, none⟩ = some v → wr.cell? ⟨b7, o, none⟩ = some v := fun o v hv => cell_later BW.out ((XK2.out.cell (Nat.lt_of_lt_of_le hb8 (Nat.le_trans XK.out.size BQ.out.size)) (fun e => by have := XK.out.size; have := P1.out; have e' : b7 = p1 := e; omega)).trans (cell_later BQ.out ((XK.out.cell (cell_lt hv) (fun e => hne e)).trans hv)))
                      have f0 := kk _ _ e8
                      have f1 := kk _ _ e9
                      have x0 := TJ.out.cell q 0 hlq (by decide)
                      have x1 := TJ.out.cell q 1 hlq (by decide)
                      rw [Nat.add_zero] at x0
                      have zf0 := TJ.out.frozen (q * 2)
                      have zf1 := TJ.out.frozen (q * 2 + 1)
                      have NX := Lib.hid (show Tb ((wr.setCell ⟨r9, q * 2, none⟩ (.int .u32 (d.df k j q))).setCell ⟨r9, q * 2 + 1, none⟩ (.int .u32 (d.dp k j q))) r9 y 2 (upto2 (depT (d.df k j) (d.dp k j)) (fun c => C75.getD c undef) (q + 1)) from
                        TJ.out.next hlq [.int .u32 (d.df k j q), .int .u32 (d.dp k j q)] rfl (dep_list _ _ q))
                      have NB := Lib.hid (show Below r9 wk2 ((wr.setCell ⟨r9, q * 2, none⟩ (.int .u32 (d.df k j q))).setCell ⟨r9, q * 2 + 1, none⟩ (.int .u32 (d.dp k j q))) from below_setCells (vs := [.int .u32 (d.df k j q), .int .u32 (d.dp k j q)]) BJ.out (Nat.le_refl _))
                      clear e8 e9 hb8 hne kk
                      go_wp2
                      go_roundw
                      case rel => first | exact ⟨q + 1, by omega, by go_num, NX.out, NB.out⟩ | exact hrel
                      case measure => simp [intOf]; omega
                    · obtain rfl : y = q := by omega
                      obtain ⟨w10, hw10⟩ : ∃ w4, w4 = wr := ⟨_, rfl⟩
                      rw [← hw10] at TJ BJ BW k9 ⊢
                      have TO := Lib.hid (TK2.out.later BW.out)
                      have x1 := TO.out.cell j 1 HLJ.out (by decide)
                      have zf1 := TO.out.frozen (j * 4 + 1)
                      have rne : r9 ≠ p1 := by have := R9.out; have := HPK.out; omega
                      have XN : Fx (fun b => b = p1) wk2 (w10.setCell ⟨p1, j * 4 + 1, none⟩ (.slice (some ⟨r9, 0, none⟩) y y)) := Fx.setCell (P := fun b => b = p1) (Fx.of_below BW.out) (p := ⟨p1, j * 4 + 1, none⟩) rfl _
                      have NX := Lib.hid (lp_next (QAj := QAn) (QCj := QCn) (DAj := some ⟨r9, 0, none⟩) (DCj := y) LPQ.out (by rw [← HV.out]; exact TO.out.set HLJ.out (show 1 < 4 by decide) (.slice (some ⟨r9, 0, none⟩) y y)) (fun i hi c hc => (up2_low _ _ _ _ hi).trans (LOW2.out i hi c hc))
                        (by rw [← HY.out]; exact prow_up1 ROW2.out) (QR2.out.keep (Kp.of_fx XN (fun b hb e => by have e' : b = p1 := e; omega))) (by rw [← HY.out]; exact tbAt_of ((TJ.out.far (p := ⟨p1, j * 4 + 1, none⟩) rne _).congr (fun i j' hi _ => upto2_lt _ _ hi j')) (by have := R9.out; have := HPK.out; omega)) (XK2.out.trans XN) (Nat.le_of_eq P1.out))
                      clear hw10 XN
                      go_wp2
                      go_roundw
                      case rel => first | exact ⟨j + 1, _, _, _, _, _, by omega, by go_num, NX.out⟩ | exact hrel
                      case measure => simp [intOf]; omega
            · obtain rfl : v = j := by omega
              have TO := Lib.hid (TK.out.later BQ.out)
              have x4 := TO.out.cell k 4 HLT.out (by decide)
              have zf4 := TO.out.frozen (k * 5 + 4)
              have XN : Fx (fun b => b = O) wk (wq.setCell ⟨O, k * 5 + 4, none⟩ (.slice (some ⟨p1, 0, none⟩) v v)) := Fx.setCell (P := fun b => b = O) (Fx.of_below BQ.out) (p := ⟨O, k * 5 + 4, none⟩) rfl _
              have pO : p1 ≠ O := by have := P1.out; have := HOK.out; omega
              have XQ : Kp (O + 1) wq (wq.setCell ⟨O, k * 5 + 4, none⟩ (.slice (some ⟨p1, 0, none⟩) v v)) := Kp.of_fx (Fx.setCell (P := fun b => b = O) (Fx.refl _ _) (p := ⟨O, k * 5 + 4, none⟩) rfl _) (fun b hb e => by have e' : b = O := e; omega)
              have hlo : O + 1 ≤ p1 + 1 := by have := P1.out; have := HOK.out; omega
              have NX := Lib.hid (lc_next (RA := RA') (RC := RC') (PA := some ⟨p1, 0, none⟩) (PC := v) (QA := QA) (DA := DA) (QC := QC) (DC := DC) LC.out (by rw [← HO.out]; exact TO.out.set HLT.out (show 4 < 5 by decide) (.slice (some ⟨p1, 0, none⟩) v v)) (fun i hi c hc => (up2_low _ _ _ _ hi).trans (LOW.out i hi c hc))
                (by rw [← HV.out]; exact row_up4 ROW.out)
                ⟨by rw [← HO.out]; exact REC.out.keep (Kp.of_fx XN (fun b hb e => by have e' : b = O := e; omega)), by rw [← HO.out, ← HV.out]; exact tbAt_of ((by have := LPQ.out.tb; rw [← HV.out] at this; exact this : Tb wq p1 v 4 T4).far (p := ⟨O, k * 5 + 4, none⟩) pO _ |>.congr (fun i c hi hc => LPQ.out.tk i hi c hc)) (by omega),
                  fun i hi => by rw [← HO.out]; exact ((LPQ.out.qr i (by rw [HV.out]; exact hi)).lower hlo).keep XQ, fun i hi => by rw [← HO.out]; exact ((LPQ.out.dep i (by rw [HV.out]; exact hi)).lower hlo).keep XQ⟩ (by rw [← HO.out]; exact XK.out.trans XN))
              clear XN XQ
              go_wp2
              go_roundw
              case rel => first | exact ⟨k + 1, _, _, by omega, by go_num, NX.out⟩ | exact hrel
              case measure => simp [intOf]; omega
    · obtain rfl : n = k := by omega
      have FF := Lib.hid (lc_fs hlc H.out.rle H.out.ple)
      have BF := Lib.hid hlc.bel
      rw [← HO.out] at FF
      have hn2 : n ≤ maxLen := by unfold maxLen; omega
      clear hlc
      go_wp2
      go_ret
      exact ⟨_, n, _, rfl, Nat.le_refl _, hn2, FF.out, BF.out⟩
end Go.Proofs.Ytpidbikdncgogaa.MrK
