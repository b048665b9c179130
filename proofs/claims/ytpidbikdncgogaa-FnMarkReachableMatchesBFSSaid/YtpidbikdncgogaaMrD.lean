/- FnMarkReachableMatchesBFS: lkB1Build. -/
import Derived.Test.YtpidbikdncgogaaRows
import Derived.Test.YtpidbikdncgogaaMem
import Derived.Test.YtpidbikdncgogaaSl
import Derived.Test.YtpidbikdncgogaaMrB
import Derived.Test.YtpidbikdncgogaaMrW
import Derived.Carry
import Derived.Deep.DeepCutAuto
import Derived.Great.BuildSlice
import Derived.Deep.MidRow
import Derived.WalkKit
import Derived.ProofKit
import Derived.OpenShut
import Derived.Below
import Derived.WalkLawsBesides
import Derived.Lib.Hide
import Derived.Outline
import Derived.RegionTactic
import Derived.Deep.QuietTactic
import Derived.BigQuiet
import Derived.WalkSpells
import Derived.Deep.OwnRows
import Derived.IntWalk
import Derived.Deep.DeepMust
namespace Go.Proofs.Ytpidbikdncgogaa.MrD
open Go.RowKit Mem Sl
set_option linter.unusedVariables false
open Args Fvs Fxs Argn Tab MrI MrA MrC MrS MrB MrW

set_option maxRecDepth 100000 in
set_option maxHeartbeats 16000000 in
theorem build8 (b0 o0 n c : Nat) (d : Dat) (h : Hdr) (w : World) (hf : Fs w (some ⟨b0, o0, none⟩) n d h) (hn : n ≤ 256) (hl : Lens n d) (hgd : MrW.Good n n d) :
    Calls Try.prog 8 #[.slice (some ⟨b0, o0, none⟩) n c, .bool true] w (Bl n d w) := by
  have HF := Lib.hid hf
  have HL := Lib.hid hl
  have HGD := Lib.hid hgd
  clear hf hl hgd
  obtain ⟨z90, i90, y90⟩ := info90
  obtain ⟨C90, hC90⟩ : ∃ x, x = z90.cells := ⟨_, rfl⟩
  have M90 := Lib.hid (fun (W : World) (m : Nat) (hm : m ≤ 1048576) => run_make_wide (P := Try.prog) 76 90 z90 15 C90 Try.underlying76 i90 hC90.symm .i64 .i64 m hm W)
  have S90 := Lib.hid (show C90.size = 15 by rw [hC90, y90]; rfl)
  have Y90 := Lib.hid (show C90 = Z90 by rw [hC90, y90])
  clear i90 y90 hC90
  obtain ⟨z103, i103, y103⟩ := info103
  obtain ⟨C103, hC103⟩ : ∃ x, x = z103.cells := ⟨_, rfl⟩
  have M103 := Lib.hid (fun (W : World) (m : Nat) (hm : m ≤ 1048576) => run_make_wide (P := Try.prog) 92 103 z103 11 C103 Try.underlying92 i103 hC103.symm .i64 .i64 m hm W)
  have S103 := Lib.hid (show C103.size = 11 by rw [hC103, y103]; rfl)
  have Y103 := Lib.hid (show C103 = Z103 by rw [hC103, y103])
  clear i103 y103 hC103
  obtain ⟨z95, i95, y95⟩ := info95
  obtain ⟨C95, hC95⟩ : ∃ x, x = z95.cells := ⟨_, rfl⟩
  have M95 := Lib.hid (fun (W : World) (m : Nat) (hm : m ≤ 1048576) => run_make_wide (P := Try.prog) 93 95 z95 2 C95 Try.underlying93 i95 hC95.symm .i64 .i64 m hm W)
  have S95 := Lib.hid (show C95.size = 2 by rw [hC95, y95]; rfl)
  clear i95 y95 hC95
  obtain ⟨z23, i23, y23⟩ := info23
  obtain ⟨C23, hC23⟩ : ∃ x, x = z23.cells := ⟨_, rfl⟩
  have M23 := Lib.hid (fun (W : World) (m : Nat) (hm : m ≤ 1048576) => run_make_wide (P := Try.prog) 34 23 z23 1 C23 Try.underlying34 i23 hC23.symm .i64 .i64 m hm W)
  have S23 := Lib.hid (show C23.size = 1 by rw [hC23, y23]; rfl)
  clear i23 y23 hC23
  obtain ⟨z62, i62, y62⟩ := info62
  obtain ⟨C62, hC62⟩ : ∃ x, x = z62.cells := ⟨_, rfl⟩
  have S62 := Lib.hid (show C62.size = 24 by rw [hC62, y62])
  have hm := run_make_wide (P := Try.prog) 29 62 z62 24 C62 Try.underlying29 i62 hC62.symm .i64 .i64 n (by omega) w
  have hm2 := fun W => run_make_row' (P := Try.prog) 30 104 (.pointer none) 8 Try.underlying30 info104 rfl .i64 .i64 n (by omega) (by omega) W
  clear i62 y62 hC62
  go_enter Try.func8, Try.ntmps8
  go_upto_region 4 with fail
  have L0 : Lb n 0 d (fun _ => ⟨0, 0, 0, 0, fun _ => 0, fun _ => 0⟩) (fun _ j => C62.getD j undef) w ((w.alloc (.cells (madeCells C62 (n * 24)) 62)).alloc (.cells (madeCells #[.pointer none] n) 104)) := by
    have t0 := tb_made w 62 C62 n 24 S62.out
    have b1 : Below w.heap.size w (w.alloc (.cells (madeCells C62 (n * 24)) 62)) := (Below.refl _ _).alloc (Nat.le_refl _) _
    have b2 : Below (w.heap.size + 1) (w.alloc (.cells (madeCells C62 (n * 24)) 62)) ((w.alloc (.cells (madeCells C62 (n * 24)) 62)).alloc (.cells (madeCells #[.pointer none] n) 104)) := (Below.refl _ _).alloc (by simp) _
    have f1 := fv_made (w.alloc (.cells (madeCells C62 (n * 24)) 62)) 104 (.pointer none) n
    simp only [World.size_alloc] at f1
    exact ⟨t0.below b2 (Nat.lt_succ_self _), ⟨_, f1⟩, fun i hi => absurd hi (Nat.not_lt_zero i), fun i hi => absurd hi (Nat.not_lt_zero i), fun i hi => absurd hi (Nat.not_lt_zero i), fun i hi => absurd hi (Nat.not_lt_zero i), fun i hi => absurd hi (Nat.not_lt_zero i), fun i j _ hj => absurd hj (Nat.not_lt_zero j), b1.trans (b2.mono (by omega)), by simp⟩
  have LL := Lib.hid L0
  obtain ⟨wz, hwz⟩ : ∃ wz, wz = (w.alloc (.cells (madeCells C62 (n * 24)) 62)).alloc (.cells (madeCells #[.pointer none] n) 104) := ⟨_, rfl⟩
  rw [← hwz] at LL ⊢
  clear hm hm2 L0 hwz
  obtain ⟨O, hO⟩ : ∃ O, O = w.heap.size := ⟨_, rfl⟩
  rw [← hO]
  have HO := Lib.hid hO
  clear hO
  go_wp2
  go_loopw [8] (fun i wr => ∃ (k : Nat) (H : Nat → Fh) (T : Nat → Nat → Value), k ≤ n ∧ i = .int .i64 k ∧ Lb n k d H T w wr) (fun i _ => n - (intOf i).toNat)
  case atStart => exact ⟨0, _, _, Nat.zero_le _, rfl, LL.out⟩
  case round =>
    clear LL
    obtain ⟨k, H, T, hk, rfl, hlb⟩ := hrel
    obtain ⟨wo, hwo⟩ : ∃ wo, wo = wr := ⟨_, rfl⟩
    rw [← hwo] at hlb ⊢
    have LB := Lib.hid hlb
    clear hwo
    by_cases hlt : k < n
    · have FO := Lib.hid (HF.out.later hlb.bel)
      obtain ⟨b, o, ha, hb, c0, c1, c2, c3, c4⟩ := FO.out.file k hlt
      injection ha with ha
      injection ha with ha1 ha2
      subst ha1 ha2
      obtain ⟨hm1, hm2, hm3⟩ := HL.out k hlt
      obtain ⟨u, hu⟩ : ∃ x, x = d.rl k := ⟨_, rfl⟩
      obtain ⟨v, hv⟩ : ∃ x, x = d.pl k := ⟨_, rfl⟩
      obtain ⟨RA, hRA⟩ : ∃ x, x = h.RA k := ⟨_, rfl⟩
      obtain ⟨PA, hPA⟩ : ∃ x, x = h.PA k := ⟨_, rfl⟩
      obtain ⟨css, hcss⟩ : ∃ x, x = d.css k := ⟨_, rfl⟩
      obtain ⟨sef, hse⟩ : ∃ x, x = d.se k := ⟨_, rfl⟩
      obtain ⟨lvf, hlv⟩ : ∃ x, x = d.lv k := ⟨_, rfl⟩
      rw [← hu, ← hRA] at c3
      rw [← hv, ← hPA] at c4
      rw [← hcss] at c0
      rw [← hse] at c1
      rw [← hlv] at c2
      rw [← hu] at hm1
      rw [← hv] at hm2 hm3
      have HU := Lib.hid hu
      have HV := Lib.hid hv
      have HRA := Lib.hid hRA
      have HPA := Lib.hid hPA
      have HCS := Lib.hid hcss
      have HLV := Lib.hid hlv
      have HPL := Lib.hid hm3
      have HLT := Lib.hid hlt
      have rg := Row.newArr wo 68 #[.int .i32 css, .bool sef, .bool lvf, .slice RA u (h.RC k), .slice PA v (h.PC k)]
      have ba : Below wo.heap.size wo (wo.alloc (.cells #[.int .i32 css, .bool sef, .bool lvf, .slice RA u (h.RC k), .slice PA v (h.PC k)] 68)) := (Below.refl _ _).alloc (Nat.le_refl _) _
      clear hu hv hRA hPA hcss hse hlv hm3 hb hlb
      go_upto_region 7 with fail
      obtain ⟨g, hg⟩ : ∃ g, g = wo.heap.size := ⟨_, rfl⟩
      obtain ⟨w1, hw1⟩ : ∃ w1, w1 = wo.alloc (.cells #[.int .i32 css, .bool sef, .bool lvf, .slice RA u (h.RC k), .slice PA v (h.PC k)] 68) := ⟨_, rfl⟩
      rw [← hw1] at rg ba ⊢
      have BA := Lib.hid ba
      rw [← hg] at rg ⊢
      have g3 := rg.at_ (i := 3) rfl
      have RG := Lib.hid rg
      have HG := Lib.hid hg
      have F1 := Lib.hid (FO.out.later ba)
      clear hw1 rg ba c0 c1 c2 c3 c4 hg
      obtain ⟨rc, hrc⟩ : ∃ r, r = w1.heap.size := ⟨_, rfl⟩
      have mk := M90.out w1 u hm1
      have tb := tb_made w1 90 C90 u 15 S90.out
      have bb : Below w1.heap.size w1 (w1.alloc (.cells (madeCells C90 (u * 15)) 90)) := (Below.refl _ _).alloc (Nat.le_refl _) _
      obtain ⟨w2, hw2⟩ : ∃ w3, w3 = w1.alloc (.cells (madeCells C90 (u * 15)) 90) := ⟨_, rfl⟩
      rw [← hrc] at mk tb bb
      rw [← hw2] at mk tb bb
      have R1 := Lib.hid hrc
      have TB := Lib.hid tb
      have BB := Lib.hid bb
      have k3 := cell_later (by have := bb; rw [hrc] at this; exact this) g3
      clear hrc hw2 tb bb
      go_upto_region 8 with fail
      clear mk
      go_wp2
      go_loopw [11] (fun i wr => ∃ j : Nat, j ≤ u ∧ i = .int .i64 j ∧ Tb wr rc u 15 (recZ d k j) ∧ Below rc w1 wr) (fun i _ => u - (intOf i).toNat)
      case atStart => exact ⟨0, Nat.zero_le _, rfl, TB.out.congr (fun i j _ _ => by rw [Y90.out]; exact upto2_zero (recB d k) (fun c => Z90.getD c undef) i j), BB.out⟩
      case round =>
        clear TB BB k3
        obtain ⟨j, hj, rfl, htb, hbb⟩ := hrel
        obtain ⟨wq, hwq⟩ : ∃ wq, wq = wr := ⟨_, rfl⟩
        rw [← hwq] at htb hbb ⊢
        have TJ := Lib.hid htb
        have BJ := Lib.hid hbb
        have bj2 : Below w1.heap.size w1 wq := by rw [← R1.out]; exact hbb
        have k3 := cell_later bj2 g3
        have BW := Lib.hid bj2
        clear bj2 hbb htb hwq
        by_cases hlj : j < u
        · obtain ⟨b2, o2, ha2, hb2, e0, e1, e2⟩ := (F1.out.later BW.out).rcd k HLT.out j (by rw [← HU.out]; exact hlj)
          rw [← HRA.out] at ha2
          subst ha2
          obtain ⟨t, ht⟩ : ∃ z, z = d.rt k j := ⟨_, rfl⟩
          obtain ⟨kd, hkd⟩ : ∃ z, z = d.rk k j := ⟨_, rfl⟩
          obtain ⟨x, hx⟩ : ∃ z, z = d.rx k j := ⟨_, rfl⟩
          rw [← ht] at e0
          rw [← hkd] at e1
          rw [← hx] at e2
          have htn : t < (n : Int) := by rw [ht]; exact ((HGD.out k HLT.out).2.2.1 j (by rw [← HU.out]; exact hlj)).2
          have HT := Lib.hid ht
          have HKD := Lib.hid hkd
          have HX := Lib.hid hx
          have r2 := Row.newArr wq 73 #[.int .i32 t, .int .u8 kd, .bool x]
          have b5 : Below wq.heap.size wq (wq.alloc (.cells #[.int .i32 t, .int .u8 kd, .bool x] 73)) := (Below.refl _ _).alloc (Nat.le_refl _) _
          clear ht hkd hx hb2
          go_upto_region 12 with fail
          obtain ⟨g5, hg5⟩ : ∃ z, z = wq.heap.size := ⟨_, rfl⟩
          obtain ⟨w5, hw5⟩ : ∃ z, z = wq.alloc (.cells #[.int .i32 t, .int .u8 kd, .bool x] 73) := ⟨_, rfl⟩
          rw [← hw5] at r2 b5 ⊢
          have T5 := Lib.hid (TJ.out.later b5)
          have B5 := Lib.hid (BJ.out.trans (b5.mono (by have := BJ.out.size; have := R1.out; omega)))
          rw [← hg5] at r2 ⊢
          have m0 := r2.at_ (i := 0) rfl
          have m1 := r2.at_ (i := 1) rfl
          have m2 := r2.at_ (i := 2) rfl
          have x14 := T5.out.cell j 14 hlj (by decide)
          have z14 := T5.out.frozen (j * 15 + 14)
          have gne : g5 ≠ rc := by have := TJ.out.lt; omega
          clear hw5 r2 b5 hg5 e0 e1 e2 k3
          go_upto_region 13 with fail
          obtain ⟨w6, hw6⟩ : ∃ z, z = w5.setCell ⟨rc, j * 15 + 14, none⟩ (.int .u8 kd) := ⟨_, rfl⟩
          have T6 := Lib.hid (show Tb w6 rc u 15 (up2 (recZ d k j) j 14 (.int .u8 kd)) from by rw [hw6]; exact T5.out.set hlj (by decide) _)
          have B6 := Lib.hid (show Below rc w1 w6 from by rw [hw6]; exact B5.out.setCell (p := ⟨rc, j * 15 + 14, none⟩) (Nat.le_refl _) _)
          have n0 : w6.cell? ⟨g5, 0, none⟩ = some (.int .i32 t) := by rw [hw6, World.cell?_of_block (a := ⟨g5, 0, none⟩) (Below.heap_setCell _ _ _ _ gne)]; exact m0
          have n2 : w6.cell? ⟨g5, 2, none⟩ = some (.bool x) := by rw [hw6, World.cell?_of_block (a := ⟨g5, 2, none⟩) (Below.heap_setCell _ _ _ _ gne)]; exact m2
          rw [← hw6]
          clear hw6 m0 m1 m2 x14 z14
          by_cases p0 : t < 0
          · have t0 : decide ((0 : Int) ≤ t) = false := by simp; omega
            have hfl : flp t = 0 := if_pos p0
            cases x
            · have NT := Lib.hid (T6.out.congr (fun i c _ _ => rec_fin (d := d) (k := k) (j := j) (fun i c hi => up2_row _ _ _ _ hi) (fun c _ _ h14 => (up2_col _ _ _ _ h14).trans (recZ_at d k j c)) ((up2_col _ _ _ _ (by decide)).trans ((recZ_at d k j 10).trans (by rw [← HT.out, hfl]; rfl))) ((up2_col _ _ _ _ (by decide)).trans ((recZ_at d k j 12).trans (by rw [← HX.out]; rfl))) ((up2_at _ _ _ _).trans (by rw [HKD.out])) i c))
              as_aux_lemma =>
                go_wp2
                go_roundw
                case rel => first | exact ⟨j + 1, by omega, by go_num, NT.out, B6.out⟩ | exact hrel
                case measure => simp [intOf]; omega
            · have x12 := T6.out.cell j 12 hlj (by decide)
              have z12 := T6.out.frozen (j * 15 + 12)
              have NT := Lib.hid ((T6.out.set hlj (show 12 < 15 by decide) (.int .u16 1024)).congr (fun i c _ _ => rec_fin (d := d) (k := k) (j := j) (fun i c hi => (up2_row _ _ _ _ hi).trans (up2_row _ _ _ _ hi)) (fun c _ h12 h14 => (up2_col _ _ _ _ h12).trans ((up2_col _ _ _ _ h14).trans (recZ_at d k j c))) ((up2_col _ _ _ _ (by decide)).trans ((up2_col _ _ _ _ (by decide)).trans ((recZ_at d k j 10).trans (by rw [← HT.out, hfl]; rfl)))) ((up2_at _ _ _ _).trans (by rw [← HX.out]; rfl)) ((up2_col _ _ _ _ (by decide)).trans ((up2_at _ _ _ _).trans (by rw [HKD.out]))) i c))
              have NB := Lib.hid (B6.out.setCell (p := ⟨rc, j * 15 + 12, none⟩) (Nat.le_refl _) (.int .u16 1024))
              as_aux_lemma =>
                go_wp2
                go_roundw
                case rel => first | exact ⟨j + 1, by omega, by go_num, NT.out, NB.out⟩ | exact hrel
                case measure => simp [intOf]; omega
          · have t0 : decide ((0 : Int) ≤ t) = true := by simp; omega
            have hfl : flp t = 4294967295 - t := if_neg p0
            have HFL := Lib.hid hfl
            clear hfl
            obtain ⟨ti, hti⟩ : ∃ ti : Nat, t = (ti : Int) := ⟨t.toNat, by omega⟩
            subst hti
            have ti4 : ti < 4294967296 := by omega
            have wk2 : IntKind.u32.wrap (ti : Int) = (ti : Int) := IntWalk.u32_in _ (by omega)
            go_wp2_with fail
            refine (mk12 ti ti4 w6).mono ?_
            rintro e w7 ⟨rfl, hb7⟩
            have T7 := Lib.hid (T6.out.later hb7)
            have B7 := Lib.hid (B6.out.trans (hb7.mono (by have := B6.out.size; have := R1.out; omega)))
            have n2' := cell_later hb7 n2
            have x10 := T7.out.cell j 10 hlj (by decide)
            have z10 := T7.out.frozen (j * 15 + 10)
            clear hb7 n0 n2
            go_upto_region 15 with fail
            obtain ⟨w8, hw8⟩ : ∃ z, z = w7.setCell ⟨rc, j * 15 + 10, none⟩ (.int .u32 (4294967295 - (ti : Int))) := ⟨_, rfl⟩
            have T8 := Lib.hid (show Tb w8 rc u 15 (up2 (up2 (recZ d k j) j 14 (.int .u8 kd)) j 10 (.int .u32 (4294967295 - (ti : Int)))) from by rw [hw8]; exact T7.out.set hlj (by decide) _)
            have B8 := Lib.hid (show Below rc w1 w8 from by rw [hw8]; exact B7.out.setCell (p := ⟨rc, j * 15 + 10, none⟩) (Nat.le_refl _) _)
            have l2 : w8.cell? ⟨g5, 2, none⟩ = some (.bool x) := by rw [hw8, World.cell?_of_block (a := ⟨g5, 2, none⟩) (Below.heap_setCell _ _ _ _ gne)]; exact n2'
            rw [← hw8]
            clear hw8 n2' x10 z10
            cases x
            · have NT := Lib.hid (T8.out.congr (fun i c _ _ => rec_fin (d := d) (k := k) (j := j) (fun i c hi => (up2_row _ _ _ _ hi).trans (up2_row _ _ _ _ hi)) (fun c h10 _ h14 => (up2_col _ _ _ _ h10).trans ((up2_col _ _ _ _ h14).trans (recZ_at d k j c))) ((up2_at _ _ _ _).trans (by rw [← HT.out, HFL.out])) ((up2_col _ _ _ _ (by decide)).trans ((up2_col _ _ _ _ (by decide)).trans ((recZ_at d k j 12).trans (by rw [← HX.out]; rfl)))) ((up2_col _ _ _ _ (by decide)).trans ((up2_at _ _ _ _).trans (by rw [HKD.out]))) i c))
              as_aux_lemma =>
                go_wp2
                go_roundw
                case rel => first | exact ⟨j + 1, by omega, by go_num, NT.out, B8.out⟩ | exact hrel
                case measure => simp [intOf]; omega
            · have x12 := T8.out.cell j 12 hlj (by decide)
              have z12 := T8.out.frozen (j * 15 + 12)
              have NT := Lib.hid ((T8.out.set hlj (show 12 < 15 by decide) (.int .u16 1024)).congr (fun i c _ _ => rec_fin (d := d) (k := k) (j := j) (fun i c hi => (up2_row _ _ _ _ hi).trans ((up2_row _ _ _ _ hi).trans (up2_row _ _ _ _ hi))) (fun c h10 h12 h14 => (up2_col _ _ _ _ h12).trans ((up2_col _ _ _ _ h10).trans ((up2_col _ _ _ _ h14).trans (recZ_at d k j c)))) ((up2_col _ _ _ _ (by decide)).trans ((up2_at _ _ _ _).trans (by rw [← HT.out, HFL.out]))) ((up2_at _ _ _ _).trans (by rw [← HX.out]; rfl)) ((up2_col _ _ _ _ (by decide)).trans ((up2_col _ _ _ _ (by decide)).trans ((up2_at _ _ _ _).trans (by rw [HKD.out])))) i c))
              have NB := Lib.hid (B8.out.setCell (p := ⟨rc, j * 15 + 12, none⟩) (Nat.le_refl _) (.int .u16 1024))
              as_aux_lemma =>
                go_wp2
                go_roundw
                case rel => first | exact ⟨j + 1, by omega, by go_num, NT.out, NB.out⟩ | exact hrel
                case measure => simp [intOf]; omega
        · obtain rfl : u = j := by omega
          obtain ⟨w3, hw3⟩ : ∃ w3, w3 = wq := ⟨_, rfl⟩
          rw [← hw3] at TJ BJ BW k3 ⊢
          clear hw3
          have g4 := cell_later BW.out (RG.out.at_ (i := 4) rfl)
          have F3 := Lib.hid (F1.out.later BW.out)
          obtain ⟨P, hP⟩ : ∃ r, r = w3.heap.size := ⟨_, rfl⟩
          have mk := M103.out w3 v hm2
          have tb := tb_made w3 103 C103 v 11 S103.out
          have bb : Below w3.heap.size w3 (w3.alloc (.cells (madeCells C103 (v * 11)) 103)) := (Below.refl _ _).alloc (Nat.le_refl _) _
          obtain ⟨w4, hw4⟩ : ∃ w4, w4 = w3.alloc (.cells (madeCells C103 (v * 11)) 103) := ⟨_, rfl⟩
          rw [← hP] at mk tb bb
          rw [← hw4] at mk tb bb
          have HP := Lib.hid hP
          have LQ0 := Lib.hid (lq_start (d := d) (k := k) (I := fun _ => 0) (D := fun _ => 0) (by rw [← HV.out]; rw [Y103.out] at tb; exact tb) bb)
          have g4' := cell_later (by have := bb; rw [hP] at this; exact this) g4
          clear hP hw4 tb bb
          go_upto_region 18 with fail
          clear mk k3
          go_wp2
          clear g4'
          go_loopw [14] (fun i wr => ∃ (j : Nat) (I D : Nat → Nat) (T4 : Nat → Nat → Value), j ≤ v ∧ i = .int .i64 j ∧ Lq d k j P I D T4 w3 wr) (fun i _ => v - (intOf i).toNat)
          case atStart => exact ⟨0, _, _, _, Nat.zero_le _, rfl, LQ0.out⟩
          case round =>
            clear LQ0
            obtain ⟨j, I, D, T4, hj, rfl, hlq⟩ := hrel
            obtain ⟨wp, hwp⟩ : ∃ wp, wp = wr := ⟨_, rfl⟩
            rw [← hwp] at hlq ⊢
            have LQ := Lib.hid hlq
            have BP := Lib.hid (show Below w3.heap.size w3 wp by rw [← HP.out]; exact hlq.bel)
            have g4p := cell_later BP.out g4
            clear hlq hwp
            by_cases hlj : j < v
            · have FP := Lib.hid (F3.out.later BP.out)
              obtain ⟨b2, o2, ha2, hb2, e0, e1, e2, e3⟩ := FP.out.part k HLT.out j (by rw [← HV.out]; exact hlj)
              rw [← HPA.out] at ha2
              subst ha2
              obtain ⟨hm4, hm5⟩ := HPL.out j hlj
              obtain ⟨x, hx⟩ : ∃ z, z = d.ql k j := ⟨_, rfl⟩
              obtain ⟨y, hy⟩ : ∃ z, z = d.dl k j := ⟨_, rfl⟩
              obtain ⟨QAj, hQA⟩ : ∃ z, z = h.QA k j := ⟨_, rfl⟩
              obtain ⟨DAj, hDA⟩ : ∃ z, z = h.DA k j := ⟨_, rfl⟩
              rw [← hx, ← hQA] at e0
              rw [← hy, ← hDA] at e1
              rw [← hx] at hm4
              rw [← hy] at hm5
              have HX := Lib.hid hx
              have HY := Lib.hid hy
              have HQA := Lib.hid hQA
              have HDA := Lib.hid hDA
              have HLJ := Lib.hid hlj
              have r2 := Row.newArr wp 71 #[.slice QAj x (h.QC k j), .slice DAj y (h.DC k j), .bool (d.cb k j), .bool (d.ft k j)]
              have b5 : Below wp.heap.size wp (wp.alloc (.cells #[.slice QAj x (h.QC k j), .slice DAj y (h.DC k j), .bool (d.cb k j), .bool (d.ft k j)] 71)) := (Below.refl _ _).alloc (Nat.le_refl _) _
              clear hx hy hQA hDA hb2 hlj
              go_upto_region 22 with fail
              obtain ⟨g6, hg6⟩ : ∃ z, z = wp.heap.size := ⟨_, rfl⟩
              obtain ⟨w5, hw5⟩ : ∃ z, z = wp.alloc (.cells #[.slice QAj x (h.QC k j), .slice DAj y (h.DC k j), .bool (d.cb k j), .bool (d.ft k j)] 71) := ⟨_, rfl⟩
              rw [← hw5] at r2 b5 ⊢
              have B5 := Lib.hid b5
              have F5 := Lib.hid (FP.out.later b5)
              rw [← hg6] at r2 ⊢
              have m0 := r2.at_ (i := 0) rfl
              have R6 := Lib.hid r2
              have G6 := Lib.hid hg6
              clear hw5 r2 b5 hg6 e0 e1 e2 e3 g4p
              obtain ⟨Ij, hIj⟩ : ∃ r, r = w5.heap.size := ⟨_, rfl⟩
              have mk := M23.out w5 x hm4
              have tb := tb_made w5 23 C23 x 1 S23.out
              have bb : Below w5.heap.size w5 (w5.alloc (.cells (madeCells C23 (x * 1)) 23)) := (Below.refl _ _).alloc (Nat.le_refl _) _
              obtain ⟨w6, hw6⟩ : ∃ z, z = w5.alloc (.cells (madeCells C23 (x * 1)) 23) := ⟨_, rfl⟩
              rw [← hIj] at mk tb bb
              rw [← hw6] at mk tb bb
              have HI := Lib.hid hIj
              have TB := Lib.hid tb
              have BB := Lib.hid bb
              have m0' := cell_later (by have := bb; rw [hIj] at this; exact this) m0
              clear hIj hw6 tb bb
              go_upto_region 23 with fail
              clear mk
              go_wp2
              clear m0'
              go_loopw [17] (fun i wr => ∃ q : Nat, q ≤ x ∧ i = .int .i64 q ∧ (∃ TT, Tb wr Ij x 1 TT) ∧ Below Ij w5 wr) (fun i _ => x - (intOf i).toNat)
              case atStart => exact ⟨0, Nat.zero_le _, rfl, ⟨_, TB.out⟩, BB.out⟩
              case round =>
                clear TB BB
                obtain ⟨q, hq, rfl, ⟨TT, htb⟩, hbb⟩ := hrel
                have TQ := Lib.hid htb
                have BQ := Lib.hid hbb
                have bj2 : Below w5.heap.size w5 wr := by rw [← HI.out]; exact hbb
                have m0' := cell_later bj2 m0
                have BW5 := Lib.hid bj2
                clear bj2 hbb htb
                by_cases hlq : q < x
                · obtain ⟨b8, o8, ha8, hb8, e8⟩ := (F5.out.later BW5.out).qr k HLT.out j (by rw [← HV.out]; exact HLJ.out) q (by rw [← HX.out]; exact hlq)
                  rw [← HQA.out] at ha8
                  subst ha8
                  have x0 := TQ.out.cell q 0 hlq (by decide)
                  have zf0 := TQ.out.frozen q
                  rw [Nat.add_zero, Nat.mul_one] at x0
                  have NX := Lib.hid (show ∃ TT, Tb (wr.setCell ⟨Ij, q, none⟩ (.int .u32 (d.qv k j q))) Ij x 1 TT from ⟨_, by
                    have := TQ.out.set hlq (show 0 < 1 by decide) (.int .u32 (d.qv k j q))
                    rw [Nat.add_zero, Nat.mul_one] at this; exact this⟩)
                  have NB := Lib.hid (show Below Ij w5 (wr.setCell ⟨Ij, q, none⟩ (.int .u32 (d.qv k j q))) from BQ.out.setCell (p := ⟨Ij, q, none⟩) (Nat.le_refl _) _)
                  clear hb8
                  as_aux_lemma =>
                    go_wp2
                    go_roundw
                    case rel => first | exact ⟨q + 1, by omega, by go_num, NX.out, NB.out⟩ | exact hrel
                    case measure => simp [intOf]; omega
                · obtain rfl : x = q := by omega
                  obtain ⟨w7, hw7⟩ : ∃ z, z = wr := ⟨_, rfl⟩
                  rw [← hw7] at TQ BQ BW5 m0' ⊢
                  clear hw7
                  have m1 := cell_later BW5.out (R6.out.at_ (i := 1) rfl)
                  have F7 := Lib.hid (F5.out.later BW5.out)
                  obtain ⟨Dj, hDj⟩ : ∃ r, r = w7.heap.size := ⟨_, rfl⟩
                  have mk := M95.out w7 y hm5
                  have tb := tb_made w7 95 C95 y 2 S95.out
                  have bb : Below w7.heap.size w7 (w7.alloc (.cells (madeCells C95 (y * 2)) 95)) := (Below.refl _ _).alloc (Nat.le_refl _) _
                  obtain ⟨w8, hw8⟩ : ∃ z, z = w7.alloc (.cells (madeCells C95 (y * 2)) 95) := ⟨_, rfl⟩
                  rw [← hDj] at mk tb bb
                  rw [← hw8] at mk tb bb
                  have HD := Lib.hid hDj
                  have TB := Lib.hid tb
                  have BB := Lib.hid bb
                  have m1' := cell_later (by have := bb; rw [hDj] at this; exact this) m1
                  clear hDj hw8 tb bb
                  go_upto_region 28 with fail
                  clear mk m0'
                  go_wp2
                  clear m1'
                  go_loopw [19] (fun i wr => ∃ q : Nat, q ≤ y ∧ i = .int .i64 q ∧ Tb wr Dj y 2 (upto2 (depT (d.df k j) (d.dp k j)) (fun c => C95.getD c undef) q) ∧ Below Dj w7 wr) (fun i _ => y - (intOf i).toNat)
                  case atStart => exact ⟨0, Nat.zero_le _, rfl, TB.out.congr (fun i j' _ _ => upto2_zero (depT (d.df k j) (d.dp k j)) (fun c => C95.getD c undef) i j'), BB.out⟩
                  case round =>
                    clear TB BB
                    obtain ⟨q, hq, rfl, htb, hbb⟩ := hrel
                    have TD := Lib.hid htb
                    have BD := Lib.hid hbb
                    have bj2 : Below w7.heap.size w7 wr := by rw [← HD.out]; exact hbb
                    have m1' := cell_later bj2 m1
                    have BW7 := Lib.hid bj2
                    clear bj2 hbb htb
                    by_cases hlq : q < y
                    · obtain ⟨b8, o8, ha8, hb8, e8, e9⟩ := (F7.out.later BW7.out).dep k HLT.out j (by rw [← HV.out]; exact HLJ.out) q (by rw [← HY.out]; exact hlq)
                      rw [← HDA.out] at ha8
                      subst ha8
                      have hbD : b8 ≠ Dj := by
                        obtain ⟨b9, o9, ha9, hb9, _⟩ := F7.out.dep k HLT.out j (by rw [← HV.out]; exact HLJ.out) q (by rw [← HY.out]; exact hlq)
                        rw [← HDA.out] at ha9
                        injection ha9 with ha9; injection ha9 with ha9
                        have := HD.out; omega
                      have x0 := TD.out.cell q 0 hlq (by decide)
                      have x1 := TD.out.cell q 1 hlq (by decide)
                      rw [Nat.add_zero] at x0
                      have zf0 := TD.out.frozen (q * 2)
                      have zf1 := TD.out.frozen (q * 2 + 1)
                      have gD : g6 ≠ Dj := by have := HD.out; have h9 : g6 < w7.heap.size := cell_lt m1; omega
                      go_upto_region 32 with fail
                      obtain ⟨wa, hwa⟩ : ∃ z, z = wr.setCell ⟨Dj, q * 2, none⟩ (.int .u32 (d.df k j q)) := ⟨_, rfl⟩
                      have y1 : wa.cell? ⟨Dj, q * 2 + 1, none⟩ = some (upto2 (depT (d.df k j) (d.dp k j)) (fun c => C95.getD c undef) q q 1) := by rw [hwa, World.cell?_setCell_other _ _ _ _ (by intro hh; injection hh with _ hh _; omega)]; exact x1
                      have yf1 : wa.frozen? ⟨Dj, q * 2 + 1, none⟩ = false := by rw [hwa]; exact frozen_set _ _ _ _ _ zf1
                      have n1 : wa.cell? ⟨g6, 1, none⟩ = some (.slice (some ⟨b8, o8, none⟩) y (h.DC k j)) := by rw [hwa, World.cell?_of_block (a := ⟨g6, 1, none⟩) (Below.heap_setCell _ _ _ _ gD)]; exact m1'
                      have f9 : wa.cell? ⟨b8, o8 + q * 2 + 1, none⟩ = some (.int .u32 (d.dp k j q)) := by rw [hwa, World.cell?_of_block (a := ⟨b8, o8 + q * 2 + 1, none⟩) (Below.heap_setCell _ _ _ _ hbD)]; exact e9
                      have NX := Lib.hid (show Tb (wa.setCell ⟨Dj, q * 2 + 1, none⟩ (.int .u32 (d.dp k j q))) Dj y 2 (upto2 (depT (d.df k j) (d.dp k j)) (fun c => C95.getD c undef) (q + 1)) from by
                        rw [hwa]; exact TD.out.next hlq [.int .u32 (d.df k j q), .int .u32 (d.dp k j q)] rfl (dep_list _ _ q))
                      have NB := Lib.hid (show Below Dj w7 (wa.setCell ⟨Dj, q * 2 + 1, none⟩ (.int .u32 (d.dp k j q))) from by
                        rw [hwa]; exact below_setCells (vs := [.int .u32 (d.df k j q), .int .u32 (d.dp k j q)]) BD.out (Nat.le_refl _))
                      rw [← hwa]
                      clear hwa x0 x1 zf0 zf1 e8 e9 hb8 m1'
                      as_aux_lemma =>
                        go_wp2
                        go_roundw
                        case rel => first | exact ⟨q + 1, by omega, by go_num, NX.out, NB.out⟩ | exact hrel
                        case measure => simp [intOf]; omega
                    · obtain rfl : y = q := by omega
                      obtain ⟨w9, hw9⟩ : ∃ z, z = wr := ⟨_, rfl⟩
                      rw [← hw9] at TD BD BW7 m1' ⊢
                      clear hw9
                      have B59 := Lib.hid (show Below w5.heap.size w5 w9 from BW5.out.trans (BW7.out.mono BW5.out.size))
                      have BP9 := Lib.hid (show Below wp.heap.size wp w9 from B5.out.trans (B59.out.mono B5.out.size))
                      have T9 := Lib.hid (LQ.out.tb.later BP9.out)
                      rw [← HV.out] at T9
                      have x2 := T9.out.cell j 2 HLJ.out (by decide)
                      have x7 := T9.out.cell j 7 HLJ.out (by decide)
                      have x8 := T9.out.cell j 8 HLJ.out (by decide)
                      have x9 := T9.out.cell j 9 HLJ.out (by decide)
                      have zf := fun o => T9.out.frozen o
                      have z2 := zf (j * 11 + 2)
                      have z7 := zf (j * 11 + 7)
                      have z8 := zf (j * 11 + 8)
                      have z9 := zf (j * 11 + 9)
                      have g6P : g6 ≠ P := by have := G6.out; have := LQ.out.tb.lt; omega
                      have DP : Dj ≠ P := by have := HD.out; have := LQ.out.tb.lt; have := B5.out.size; have := BW5.out.size; omega
                      have PDl : P < Dj := by have := HD.out; have := LQ.out.tb.lt; have := B5.out.size; have := BW5.out.size; omega
                      have r2 := cell_later B59.out (R6.out.at_ (i := 2) rfl)
                      have r3 := cell_later B59.out (R6.out.at_ (i := 3) rfl)
                      clear zf
                      go_upto_region 35 with fail
                      clear m1'
                      obtain ⟨wa, hwa⟩ : ∃ z, z = (w9.setCell ⟨P, j * 11 + 2, none⟩ (.slice (some ⟨Ij, 0, none⟩) x x)).setCell ⟨P, j * 11 + 7, none⟩ (.slice (some ⟨Dj, 0, none⟩) y y) := ⟨_, rfl⟩
                      have TA := Lib.hid (show Tb wa P v 11 (up2 (up2 T4 j 2 (.slice (some ⟨Ij, 0, none⟩) x x)) j 7 (.slice (some ⟨Dj, 0, none⟩) y y)) from by rw [hwa]; exact (T9.out.set HLJ.out (by decide) _).set HLJ.out (by decide) _)
                      have XA := Lib.hid (show Fx (fun b => b = P) w9 wa from by rw [hwa]; exact Fx.setCell (P := fun b => b = P) (Fx.setCell (P := fun b => b = P) (Fx.refl _ _) (p := ⟨P, j * 11 + 2, none⟩) rfl _) (p := ⟨P, j * 11 + 7, none⟩) rfl _)
                      rw [← hwa]
                      clear hwa x2 x7 x8 x9 z2 z7 z8 z9
                      have q2 := (XA.out.cell (cell_lt r2) g6P).trans r2
                      have q3 := (XA.out.cell (cell_lt r3) g6P).trans r3
                      have y8 := TA.out.cell j 8 HLJ.out (by decide)
                      have w8z := TA.out.frozen (j * 11 + 8)
                      clear r2 r3
                      go_upto_region 36 with fail
                      obtain ⟨wb, hwb⟩ : ∃ z, z = wa.setCell ⟨P, j * 11 + 8, none⟩ (.bool (d.cb k j)) := ⟨_, rfl⟩
                      have TC := Lib.hid (show Tb wb P v 11 (up2 (up2 (up2 T4 j 2 (.slice (some ⟨Ij, 0, none⟩) x x)) j 7 (.slice (some ⟨Dj, 0, none⟩) y y)) j 8 (.bool (d.cb k j))) from by rw [hwb]; exact TA.out.set HLJ.out (by decide) _)
                      have XB := Lib.hid (show Fx (fun b => b = P) w9 wb from by rw [hwb]; exact Fx.setCell (P := fun b => b = P) XA.out (p := ⟨P, j * 11 + 8, none⟩) rfl _)
                      have s3 : wb.cell? ⟨g6, 3, none⟩ = some (.bool (d.ft k j)) := by rw [hwb, World.cell?_of_block (a := ⟨g6, 3, none⟩) (Below.heap_setCell _ _ _ _ g6P)]; exact q3
                      rw [← hwb]
                      clear hwb q2 q3 y8 w8z
                      have y9 := TC.out.cell j 9 HLJ.out (by decide)
                      have w9z := TC.out.frozen (j * 11 + 9)
                      have TE : Tb (wb.setCell ⟨P, j * 11 + 9, none⟩ (.bool (d.ft k j))) P v 11 (prow T4 j (.slice (some ⟨Ij, 0, none⟩) x x) (.slice (some ⟨Dj, 0, none⟩) y y) (.bool (d.cb k j)) (.bool (d.ft k j))) := TC.out.set HLJ.out (by decide) _
                      have XE : Fx (fun b => b = P) w9 (wb.setCell ⟨P, j * 11 + 9, none⟩ (.bool (d.ft k j))) := Fx.setCell (P := fun b => b = P) XB.out (p := ⟨P, j * 11 + 9, none⟩) rfl _
                      have hy2 : d.dl k j = y := HY.out.symm
                      have NX := Lib.hid (lq_next (Ij := Ij) (Dj := Dj) LQ.out (by rw [← HV.out]; exact TE) (fun i hi c _ => prow_other _ _ _ _ _ hi c) (by rw [HX.out, HY.out]; exact prow_row (fun c hc => LQ.out.tz j (Nat.le_refl _) c hc) Ij Dj)
                        (((by rw [hy2]; exact TD.out.congr (fun i c hi _ => upto2_lt _ _ hi c)) : Tb w9 Dj (d.dl k j) 2 (depT (d.df k j) (d.dp k j))).fx XE DP) PDl ((Fx.of_below BP9.out).trans XE) (Nat.le_of_eq HP.out))
                      clear TE XE hy2
                      as_aux_lemma =>
                        go_wp2
                        go_roundw
                        case rel => first | exact ⟨j + 1, _, _, _, by omega, by go_num, NX.out⟩ | exact hrel
                        case measure => simp [intOf]; omega
            · obtain rfl : v = j := by omega
              obtain ⟨we, hwe⟩ : ∃ we, we = wp := ⟨_, rfl⟩
              rw [← hwe] at LQ BP g4p ⊢
              clear hwe
              have BE := Lib.hid (show Below w1.heap.size w1 we from BW.out.trans (BP.out.mono BW.out.size))
              have TRC := Lib.hid ((TJ.out.later BP.out).congr (T' := recB d k) (fun i c hi _ => upto2_lt _ _ hi c))
              have TPP := Lib.hid (LQ.out.tb.congr (T' := partB d k I D) (fun i c hi hc => LQ.out.tk i (by rw [HV.out]; exact hi) c hc))
              obtain ⟨R, hR⟩ : ∃ R, R = we.heap.size := ⟨_, rfl⟩
              go_upto_region 38 with (refine wpList_buildTo rfl 144 _ rfl (some 164) rfl c144 (by kernel_rfl) ?_)
              clear g4p
              obtain ⟨wf, hwf⟩ : ∃ wf, wf = we.alloc (.cells c144 144) := ⟨_, rfl⟩
              have v1 := made144 we
              have bf : Below we.heap.size we wf := by rw [hwf]; exact (Below.refl _ _).alloc (Nat.le_refl _) _
              rw [← hwf] at v1 ⊢
              rw [← hR] at v1 ⊢
              have i20 := v1.at_ (i := 20) (by decide) (v := .slice none 0 0) (by rw [c144_at.1]; rfl)
              have f20 := v1.frozen 20
              have i35 := v1.at_ (i := 35) (by decide) (v := .slice none 0 0) (by rw [c144_at.2.1]; rfl)
              have f35 := v1.frozen 35
              have gR : g ≠ R := by have h8 := RG.out.lt; have h9 := BE.out.size; omega
              have g0 := cell_later bf (cell_later BE.out (RG.out.at_ (i := 0) rfl))
              have V1 := Lib.hid v1
              have BF := Lib.hid bf
              have HR := Lib.hid hR
              clear hwf v1 bf hR
              go_upto_region 40 with fail
              obtain ⟨wg, hwg⟩ : ∃ wg, wg = (wf.setCell ⟨R, 20, none⟩ (.slice (some ⟨P, 0, none⟩) v v)).setCell ⟨R, 35, none⟩ (.slice (some ⟨rc, 0, none⟩) u u) := ⟨_, rfl⟩
              have VG := Lib.hid (show Fv wg R 64 (up (up (fun i => (c144[i]?).getD undef) 20 (.slice (some ⟨P, 0, none⟩) v v)) 35 (.slice (some ⟨rc, 0, none⟩) u u)) from by rw [hwg]; exact (V1.out.set (show 20 < 64 by decide) _).set (show 35 < 64 by decide) _)
              have BG := Lib.hid (show Below we.heap.size we wg from by rw [hwg]; exact (BF.out.setCell (p := ⟨R, 20, none⟩) (by show we.heap.size ≤ R; rw [HR.out]; exact Nat.le_refl _) _).setCell (p := ⟨R, 35, none⟩) (by show we.heap.size ≤ R; rw [HR.out]; exact Nat.le_refl _) _)
              have gg0 : wg.cell? ⟨g, 0, none⟩ = some (.int .i32 css) := by rw [hwg, World.cell?_of_block (a := ⟨g, 0, none⟩) (Below.heap_setCell _ _ _ _ gR), World.cell?_of_block (a := ⟨g, 0, none⟩) (Below.heap_setCell _ _ _ _ gR)]; exact g0
              rw [← hwg]
              clear hwg i20 f20 i35 f35 g0
              have hcn : css < (n : Int) := by rw [HCS.out]; exact (HGD.out k HLT.out).2.1
              have BDY := Lib.hid (show ∀ W : World, Below wg.heap.size wg W → W.cell? ⟨R, 63, none⟩ = some (.int .u32 (flp css)) → Body W d k ⟨R, rc, P, 0, I, D⟩ from fun W hW h63 => by
                have hb : Below we.heap.size we W := BG.out.trans (hW.mono BG.out.size)
                exact ⟨by rw [← HV.out]; exact cell_later hW (VG.out.at_ (i := 20) (by decide) (by rw [up_ne _ _ (by decide), up_self])), by rw [← HU.out]; exact cell_later hW (VG.out.at_ (i := 35) (by decide) (by rw [up_self])), by rw [← HCS.out]; exact h63, by rw [← HU.out]; exact TRC.out.later hb, TPP.out.later hb, fun i hi => (LQ.out.dep i (by rw [HV.out]; exact hi)).later hb⟩)
              go_upto_if 178 with fail
              go_cut [] (fun wx => Body wx d k ⟨R, rc, P, 0, I, D⟩ ∧ Below we.heap.size we wx)
              case first =>
                by_cases p0 : css < 0
                · have t0 : decide ((0 : Int) ≤ css) = false := by simp; omega
                  have hfl : flp css = 0 := if_pos p0
                  have CB := Lib.hid (BDY.out wg (Below.refl _ _) (by rw [hfl]; exact VG.out.at_ (i := 63) (by decide) (by rw [up_ne _ _ (by decide), up_ne _ _ (by decide), c144_at.2.2]; rfl)))
                  clear hfl
                  as_aux_lemma =>
                    go_wp2
                    go_meet
                    case rel => exact ⟨CB.out, BG.out⟩
                · have t0 : decide ((0 : Int) ≤ css) = true := by simp; omega
                  have HFL := Lib.hid (show flp css = 4294967295 - css from if_neg p0)
                  obtain ⟨ci, hci⟩ : ∃ ci : Nat, css = (ci : Int) := ⟨css.toNat, by omega⟩
                  subst hci
                  have ci4 : ci < 4294967296 := by omega
                  have wk2 : IntKind.u32.wrap (ci : Int) = (ci : Int) := IntWalk.u32_in _ (by omega)
                  have x63 := VG.out.at_ (i := 63) (by decide) (v := .int .u32 0) (by rw [up_ne _ _ (by decide), up_ne _ _ (by decide), c144_at.2.2]; rfl)
                  go_wp2_with fail
                  refine (mk12 ci ci4 wg).mono ?_
                  rintro e wh ⟨rfl, hbh⟩
                  have y63 := cell_later hbh x63
                  have z63 : wh.frozen? ⟨R, 63, none⟩ = false := by rw [← VG.out.frozen 63]; exact hbh.frozen (p := ⟨R, 63, none⟩) VG.out.lt
                  have BH := Lib.hid hbh
                  clear hbh x63
                  have CB : Body (wh.setCell ⟨R, 63, none⟩ (.int .u32 (4294967295 - (ci : Int)))) d k ⟨R, rc, P, 0, I, D⟩ := by
                    have hb : Below we.heap.size we wh := BG.out.trans (BH.out.mono BG.out.size)
                    have hl : ∀ b, b < we.heap.size → b ≠ R := fun b hb => by rw [HR.out]; omega
                    have far : ∀ o vv, o ≠ 63 → wh.cell? ⟨R, o, none⟩ = some vv → (wh.setCell ⟨R, 63, none⟩ (.int .u32 (4294967295 - (ci : Int)))).cell? ⟨R, o, none⟩ = some vv := fun o vv ho hv => (World.cell?_setCell_other _ _ _ _ (by intro hh; injection hh with _ hh _; omega)).trans hv
                    exact ⟨by rw [← HV.out]; exact far 20 _ (by decide) (cell_later BH.out (VG.out.at_ (i := 20) (by decide) (by rw [up_ne _ _ (by decide), up_self]))), by rw [← HU.out]; exact far 35 _ (by decide) (cell_later BH.out (VG.out.at_ (i := 35) (by decide) (by rw [up_self]))), by rw [← HCS.out, HFL.out]; exact cell_self _ (by rw [y63]; rfl),
                      by rw [← HU.out]; exact (TRC.out.later hb).far (p := ⟨R, 63, none⟩) (hl _ TRC.out.lt) _, (TPP.out.later hb).far (p := ⟨R, 63, none⟩) (hl _ TPP.out.lt) _, fun i hi => ((LQ.out.dep i (by rw [HV.out]; exact hi)).later hb).far (p := ⟨R, 63, none⟩) (hl _ (LQ.out.dep i (by rw [HV.out]; exact hi)).lt) _⟩
                  have CBH := Lib.hid CB
                  have BN := Lib.hid (show Below we.heap.size we (wh.setCell ⟨R, 63, none⟩ (.int .u32 (4294967295 - (ci : Int)))) from (BG.out.trans (BH.out.mono BG.out.size)).setCell (p := ⟨R, 63, none⟩) (by show we.heap.size ≤ R; rw [HR.out]; exact Nat.le_refl _) _)
                  clear CB
                  as_aux_lemma =>
                    go_wp2
                    go_meet
                    case rel => exact ⟨CBH.out, BN.out⟩
              case rest =>
                obtain ⟨hbody, hbi⟩ := hcut
                obtain ⟨wi, hwi⟩ : ∃ wi, wi = wc := ⟨_, rfl⟩
                rw [← hwi] at hbody hbi ⊢
                have BODY := Lib.hid hbody
                have BI := Lib.hid hbi
                have B1I := Lib.hid (show Below w1.heap.size w1 wi from BE.out.trans (hbi.mono BE.out.size))
                have BOI := Lib.hid (show Below wo.heap.size wo wi from BA.out.trans (B1I.out.mono BA.out.size))
                have TI := Lib.hid (LB.out.tb.later BOI.out)
                rw [← HO.out] at TI
                obtain ⟨V, hV⟩ := LB.out.q
                have VQ := Lib.hid (hV.below BOI.out hV.lt)
                rw [← HO.out] at VQ
                have xk := VQ.out.cell k HLT.out
                have zk := VQ.out.frozen k
                clear hwi hbody hbi hV gg0 hcn
                go_upto_region 43 with fail
                obtain ⟨wj, hwj⟩ : ∃ wj, wj = wi.setCell ⟨O + 1, k, none⟩ (.pointer (some ⟨R, 0, none⟩)) := ⟨_, rfl⟩
                have XJ := Lib.hid (show Fx (fun b => b = O + 1) wi wj from by rw [hwj]; exact Fx.setCell (P := fun b => b = O + 1) (Fx.refl _ _) (p := ⟨O + 1, k, none⟩) rfl _)
                have VJ := Lib.hid (show Fv wj (O + 1) n (up V k (.pointer (some ⟨R, 0, none⟩))) from by rw [hwj]; exact VQ.out.set HLT.out _)
                rw [← hwj]
                obtain ⟨DD, hDD⟩ : ∃ D, D = c62 R := ⟨_, rfl⟩
                have JJ := Lib.hid (fun W => js13 R W)
                rw [← hDD] at JJ
                have HDD := Lib.hid hDD
                clear hwj hDD xk zk
                go_wp2_with fail
                refine (JJ.out _).mono ?_
                rintro e wk ⟨rfl, hbk⟩
                have TK := Lib.hid ((TI.out.fx XJ.out (by omega)).later hbk)
                have VK := Lib.hid (VJ.out.below hbk VJ.out.lt)
                have BK := Lib.hid hbk
                have THK := Lib.hid (show wk.there O (k * 24) DD.size from fun i hi => by
                  rw [HDD.out, (c62_at R).2.2.1] at hi
                  exact ⟨by rw [TK.out.cell k i HLT.out hi]; rfl, TK.out.frozen _⟩)
                have HII := Lib.hid (show (Try.prog.info? 62).map (·.size) = some DD.size from by rw [HDD.out]; exact (c62_at R).2.2.2)
                have HONE := Lib.hid (show DD.all (·.oneCell') = true from by rw [HDD.out]; exact c62_one R)
                clear hbk
                go_upto_region 44 with (refine wpList_store_mid rfl 62 _ _ rfl O (k * 24) DD rfl rfl THK.out HII.out HONE.out ?_)
                obtain ⟨wl, hwl⟩ : ∃ wl, wl = wk.setCells O (k * 24) DD.toList := ⟨_, rfl⟩
                have TL := Lib.hid (show Tb wl O n 24 (upRow T k (fun c => DD.toList.getD c undef)) from by
                  have hlen : DD.toList.length = 24 := by rw [Array.length_toList, HDD.out]; exact (c62_at R).2.2.1
                  rw [hwl]; exact TK.out.row HLT.out DD.toList hlen _ (fun c hc => by rw [List.getD, List.getElem?_eq_getElem (by omega)]; rfl))
                have XL := Lib.hid (show Fx (fun b => b = O) wk wl from by rw [hwl]; exact fx_setCells (Fx.refl _ _) rfl)
                have XIL := Lib.hid (show Fx (fun b => b = O ∨ b = O + 1) wi wl from (XJ.out.wider (fun b hb => .inr hb)).trans ((Fx.of_below BK.out).trans (XL.out.wider (fun b hb => .inl hb))))
                have gO : ¬ (g = O ∨ g = O + 1) := by have h8 := HG.out; have h9 := LB.out.sz; have := HO.out; omega
                have ge1 := (XIL.out.cell (g := g) (o := 1) (Nat.lt_of_lt_of_le RG.out.lt B1I.out.size) gO).trans (cell_later B1I.out (RG.out.at_ (i := 1) rfl))
                have l2 : upRow T k (fun c => DD.toList.getD c undef) k 2 = .iface 104 (.pointer (some ⟨R, 0, none⟩)) := by
                  rw [upRow_self, HDD.out, List.getD, (c62_at R).1]; rfl
                have l22 : upRow T k (fun c => DD.toList.getD c undef) k 22 = .int .u8 0 := by
                  rw [upRow_self, HDD.out, List.getD, (c62_at R).2.1]; rfl
                have L2 := Lib.hid l2
                have L22 := Lib.hid l22
                rw [← hwl]
                clear hwl l2 l22
                go_upto_if 197 with fail
                go_cut [] (fun wx => Cf n k O R T wl wx)
                case first =>
                  cases sef
                  · have x7 := TL.out.cell k 7 HLT.out (by decide)
                    have z7 := TL.out.frozen (k * 24 + 7)
                    have CF := Lib.hid (show Cf n k O R T wl (wl.setCell ⟨O, k * 24 + 7, none⟩ (.int .u8 1)) from ⟨_, TL.out.set HLT.out (show 7 < 24 by decide) _, fun i hi c _ => (up2_low _ _ _ _ hi).trans (upRow_low _ _ _ hi), (up2_col _ _ _ _ (by decide)).trans L2.out, (up2_col _ _ _ _ (by decide)).trans L22.out, Fx.setCell (P := fun b => b = O) (Fx.refl _ _) (p := ⟨O, k * 24 + 7, none⟩) rfl _⟩)
                    as_aux_lemma =>
                      go_wp2
                      go_meet
                      case rel => exact CF.out
                  · have CF := Lib.hid (show Cf n k O R T wl wl from ⟨_, TL.out, fun i hi c _ => upRow_low _ _ _ hi, L2.out, L22.out, Fx.refl _ _⟩)
                    as_aux_lemma =>
                      go_wp2
                      go_meet
                      case rel => exact CF.out
                case rest =>
                  obtain ⟨T', ht, hlow, h2, h22, hfx⟩ := hcut
                  obtain ⟨wm, hwm⟩ : ∃ wm, wm = wc := ⟨_, rfl⟩
                  rw [← hwm] at ht hfx ⊢
                  have TM := Lib.hid ht
                  have LOW := Lib.hid hlow
                  have H2 := Lib.hid h2
                  have H22 := Lib.hid h22
                  have XM := Lib.hid hfx
                  clear hwm ht hlow h2 h22 hfx ge1
                  go_wp2_with fail
                  refine (bits14 wm).mono ?_
                  rintro e wn ⟨⟨E, rfl, hE, hfE⟩, hbn⟩
                  have TN := Lib.hid (TM.out.later hbn)
                  have x0 := TN.out.cell k 0 HLT.out (by decide)
                  have z0 := TN.out.frozen (k * 24)
                  rw [Nat.add_zero] at x0
                  have HE := Lib.hid hE
                  have VE := Lib.hid hfE
                  have BN := Lib.hid hbn
                  have XIM := Lib.hid (show Fx (fun b => b = O ∨ b = O + 1) wi wn from XIL.out.trans ((XM.out.wider (fun b hb => .inl hb)).trans (Fx.of_below hbn)))
                  have ge2 := (XIM.out.cell (g := g) (o := 2) (Nat.lt_of_lt_of_le RG.out.lt B1I.out.size) gO).trans (cell_later B1I.out (RG.out.at_ (i := 2) rfl))
                  clear hE hfE hbn
                  go_upto_region 47 with fail
                  obtain ⟨wq2, hwq2⟩ : ∃ z, z = wn.setCell ⟨O, k * 24, none⟩ (.slice (some ⟨E, 0, none⟩) 32 32) := ⟨_, rfl⟩
                  have TQ := Lib.hid (show Tb wq2 O n 24 (up2 T' k 0 (.slice (some ⟨E, 0, none⟩) 32 32)) from by rw [hwq2]; exact TN.out.set HLT.out (show 0 < 24 by decide) _)
                  have XQ := Lib.hid (show Fx (fun b => b = O) wn wq2 from by rw [hwq2]; exact Fx.setCell (P := fun b => b = O) (Fx.refl _ _) (p := ⟨O, k * 24, none⟩) rfl _)
                  rw [← hwq2]
                  have x20 := TQ.out.cell k 20 HLT.out (by decide)
                  have z20 := TQ.out.frozen (k * 24 + 20)
                  clear hwq2 x0 z0
                  go_upto_region 48 with fail
                  obtain ⟨wr2, hwr2⟩ : ∃ z, z = wq2.setCell ⟨O, k * 24 + 20, none⟩ (.int .u32 4294967295) := ⟨_, rfl⟩
                  have TR := Lib.hid (show Tb wr2 O n 24 (up2 (up2 T' k 0 (.slice (some ⟨E, 0, none⟩) 32 32)) k 20 (.int .u32 4294967295)) from by rw [hwr2]; exact TQ.out.set HLT.out (show 20 < 24 by decide) _)
                  have XR := Lib.hid (show Fx (fun b => b = O) wn wr2 from by rw [hwr2]; exact Fx.setCell (P := fun b => b = O) XQ.out (p := ⟨O, k * 24 + 20, none⟩) rfl _)
                  rw [← hwr2]
                  have x23 := TR.out.cell k 23 HLT.out (by decide)
                  have z23 := TR.out.frozen (k * 24 + 23)
                  have gl2 := (XR.out.cell (g := g) (o := 2) (cell_lt ge2) (fun e => gO (.inl e))).trans ge2
                  clear hwr2 x20 z20 ge2
                  have TW : Tb (wr2.setCell ⟨O, k * 24 + 23, none⟩ (.bool lvf)) O n 24 (up2 (up2 (up2 T' k 0 (.slice (some ⟨E, 0, none⟩) 32 32)) k 20 (.int .u32 4294967295)) k 23 (.bool lvf)) := TR.out.set HLT.out (show 23 < 24 by decide) _
                  have XW : Fx (fun b => b = O) wn (wr2.setCell ⟨O, k * 24 + 23, none⟩ (.bool lvf)) := Fx.setCell (P := fun b => b = O) XR.out (p := ⟨O, k * 24 + 23, none⟩) rfl _
                  have XIW : Fx (fun b => b = O ∨ b = O + 1) wi (wr2.setCell ⟨O, k * 24 + 23, none⟩ (.bool lvf)) := XIM.out.trans (XW.wider (fun b hb => .inl hb))
                  have nbg : ∀ x, Nb ⟨R, rc, P, 0, I, D⟩ (d.pl k) x → wo.heap.size ≤ x := fun x hx => by
                    have a1 := BA.out.size
                    have a2 := BW.out.size
                    have a3 := BP.out.size
                    have a4 := R1.out
                    have a5 := HP.out
                    have a6 := HR.out
                    have hx' : x = R ∨ x = rc ∨ x = P ∨ ∃ j, j < d.pl k ∧ x = D j := hx
                    rcases hx' with e | e | e | ⟨i, hi, e⟩
                    · omega
                    · omega
                    · omega
                    · have := LQ.out.lo i (by rw [HV.out]; exact hi); omega
                  have sz1 := LB.out.sz
                  have hO := HO.out
                  have Eb : wi.heap.size ≤ E := Nat.le_trans XIL.out.size (Nat.le_trans XM.out.size HE.out)
                  have ob : wo.heap.size ≤ wi.heap.size := BOI.out.size
                  have bdy : Body (wr2.setCell ⟨O, k * 24 + 23, none⟩ (.bool lvf)) d k ⟨R, rc, P, E, I, D⟩ := by
                    have b0 := BODY.out.fx XIW (fun x hx hh => by have := nbg x hx; omega)
                    exact ⟨b0.r20, b0.r35, b0.r63, b0.rcd, b0.part, b0.dep⟩
                  have vfin : Fv (wr2.setCell ⟨O, k * 24 + 23, none⟩ (.bool lvf)) (O + 1) n (up V k (.pointer (some ⟨R, 0, none⟩))) := fv_fx (fv_fx (fv_fx VK.out (XL.out.trans XM.out) (by omega)) (Fx.of_below BN.out (P := fun b => b = O)) (by omega)) XW (by omega)
                  have NX := Lib.hid (lb_next (h := ⟨R, rc, P, E, I, D⟩) LB.out (by rw [← HO.out]; exact TW) (by rw [← HO.out]; exact ⟨_, vfin⟩) (fun i hi c hc => (up2_low _ _ _ _ hi).trans ((up2_low _ _ _ _ hi).trans ((up2_low _ _ _ _ hi).trans (LOW.out i hi c hc))))
                    ⟨(up2_col _ _ _ _ (by decide)).trans ((up2_col _ _ _ _ (by decide)).trans (up2_at _ _ _ _)), (up2_col _ _ _ _ (by decide)).trans ((up2_col _ _ _ _ (by decide)).trans ((up2_col _ _ _ _ (by decide)).trans H2.out)), (up2_col _ _ _ _ (by decide)).trans (up2_at _ _ _ _), (up2_col _ _ _ _ (by decide)).trans ((up2_col _ _ _ _ (by decide)).trans ((up2_col _ _ _ _ (by decide)).trans H22.out)), (up2_at _ _ _ _).trans (by rw [HLV.out])⟩
                    bdy (fv_fx VE.out XW (by show ¬ E = O; omega)) (fun b hb => by
                      rcases hb with hb | e
                      · exact nbg b hb
                      · have e' : b = E := e; omega) (fun b hb => by have := BODY.out.lt hb; show b < E; omega) (by rw [← HO.out]; exact (Fx.of_below BOI.out).trans XIW))
                  clear TW XW XIW nbg sz1 hO Eb ob bdy vfin
                  as_aux_lemma =>
                    go_wp2
                    go_roundw
                    case rel => first | exact ⟨k + 1, _, _, by omega, by go_num, NX.out⟩ | exact hrel
                    case measure => simp [intOf]; omega
    · obtain rfl : n = k := by omega
      have BF := Lib.hid hlb
      rw [HO.out]
      clear hlb
      go_wp2
      go_ret2
      exact ⟨H, T, rfl, BF.out⟩
end Go.Proofs.Ytpidbikdncgogaa.MrD
