/- FnHasDynamicExportsDueToExportStarIsStable: buildStarReprs. -/
import Derived.Test.YtidkddnbckbegaaRows
import Derived.Test.YtidkddnbckbegaaMem
import Derived.Test.YtidkddnbckbegaaSl
import Derived.Test.YtidkddnbckbegaaHdT
import Derived.Great.BuildSlice
import Derived.Carry
import Derived.Deep.MidRow
import Derived.Deep.DeepCutAuto
import Derived.Deep.RegionHeld3
import Derived.Deep.RegionLaw
import Derived.WalkKit
import Derived.ProofKit
import Derived.OpenShut
import Derived.Below
import Derived.WalkLawsBesides
import Derived.Lib.Hide
import Derived.Outline
import Derived.RegionTactic
import Derived.Deep.QuietTactic
import Derived.BigQuiet
import Derived.WalkSpells
import Derived.Deep.OwnRows
import Derived.IntWalk
import Derived.Deep.DeepMust
namespace Go.Proofs.Ytidkddnbckbegaa.HdB
open Go.RowKit Mem Sl
set_option linter.unusedVariables false
open Args Fvs Argp Fxs HdP HdA HdC HdS HdT MapK Go.Maps

theorem there_k {n k r : Nat} {K : Nat → Int} {Z : Nat → List Int} {R rc ix : Nat → Nat} {w wr wq w' : World} {κ : Int} {zs : List Int} {j kk : Nat} (h : Lb n k K Z R rc ix w wr) (hk : k < n) (hq : Nf κ zs r j wr wq) (hb : Below (wset r kk w.heap.size k wq).heap.size (wset r kk w.heap.size k wq) w') (hr : r = wr.heap.size) :
    w'.there (w.heap.size + 1) (k * 24) (c123 r).size := by
  have hsz := h.sz
  have zs : (wset r kk w.heap.size k wq).heap.size = wq.heap.size := by unfold wset; simp
  have hl := hq.bel.size
  have th1 : (wset r kk w.heap.size k wq).there (w.heap.size + 1) 0 (n * 24) := there_set (there_set (there_set (there_below h.th hq.bel (by omega)) _ (by show w.heap.size + 1 ≠ r; omega) _) _ (by show w.heap.size + 1 ≠ r; omega) _) _ (by show w.heap.size + 1 ≠ w.heap.size; omega) _
  have th2 := there_below th1 hb (by rw [zs]; omega)
  intro i hi
  rw [(c123_at r).2.2.1] at hi
  have := th2 (k * 24 + i) (by omega)
  rwa [Nat.zero_add] at this
set_option maxRecDepth 100000 in
set_option maxHeartbeats 8000000 in
theorem bld6 (A : Option Addr) (n c : Nat) (K : Nat → Int) (Ar : Nat → Option Addr) (L C : Nat → Nat) (Z : Nat → List Int) (w : World) (h : IsPairs .u8 .i32 w A n c K Ar L C Z) (hn : n ≤ 4096) (hL : ∀ i, i < n → L i ≤ 1048576) (hT : ∀ i, i < n → ∀ j, j < L i → (Z i).getD j 0 < (n : Int)) :
    Calls Try.prog 6 #[.slice A n c] w (Bl n K Z w) := by
  have H := Lib.hid h
  have HL := Lib.hid hL
  have HT := Lib.hid hT
  clear h hL hT
  have hm1 := fun W => run_make_row' (P := Try.prog) 26 84 (.pointer none) 8 Try.underlying26 info84 rfl .i64 .i64 n (by omega) (by omega) W
  obtain ⟨CF, hCF⟩ : ∃ x, x = z123.cells := ⟨_, rfl⟩
  obtain ⟨CR, hCR⟩ : ∃ x, x = z101.cells := ⟨_, rfl⟩
  have HCF := Lib.hid hCF
  have HCR := Lib.hid hCR
  have hm2 := fun W => run_make_wide (P := Try.prog) 27 123 z123 24 CF Try.underlying27 info123 hCF.symm .i64 .i64 n (by omega) W
  clear hCR
  go_enter Try.func6, Try.ntmps6
  have L0 := Lib.hid (lb_start (n := n) (K := K) (Z := Z) (R := fun _ => 0) (rc := fun _ => 0) (ix := fun _ => 0) (w := w) (by omega))
  rw [← hCF] at L0
  clear hCF
  go_wp2
  clear hm1 hm2
  go_loopw [6] (fun i wr => ∃ (k : Nat) (R rc ix : Nat → Nat), k ≤ n ∧ i = .int .i64 k ∧ Lb n k K Z R rc ix w wr) (fun i _ => n - (intOf i).toNat)
  case atStart => exact ⟨0, _, _, _, Nat.zero_le _, rfl, L0.out⟩
  case round =>
    clear L0
    obtain ⟨k, R, rc, ix, hk, rfl, hlb⟩ := hrel
    obtain ⟨wo, hwo⟩ : ∃ wo, wo = wr := ⟨_, rfl⟩
    rw [← hwo] at hlb ⊢
    clear hwo
    have LB := Lib.hid hlb
    by_cases hlt : k < n
    · obtain ⟨b, off, ha, hb, hc1, hc2⟩ := H.out.cell k hlt
      subst ha
      have hrow := H.out.row k hlt
      have hLk := HL.out k hlt
      have hTk := HT.out k hlt
      have hzl := hrow.2.2.1
      obtain ⟨zs, hzs⟩ : ∃ zs, zs = Z k := ⟨_, rfl⟩
      obtain ⟨κ, hκ⟩ : ∃ x, x = K k := ⟨_, rfl⟩
      obtain ⟨AA, hAA⟩ : ∃ x, x = Ar k := ⟨_, rfl⟩
      rw [← hAA] at hc2 hrow
      obtain ⟨kk, hkk⟩ : ∃ x, x = L k := ⟨_, rfl⟩
      rw [← hzs] at hrow hTk hzl
      rw [← hκ] at hc1
      rw [← hkk] at hc2 hrow hLk hTk hzl
      obtain ⟨r, hr⟩ : ∃ r, r = wo.heap.size := ⟨_, rfl⟩
      have d1 : wo.cell? ⟨b, off + k * 2, none⟩ = some (.int .u8 κ) := cell_later hlb.bel hc1
      have d2 : wo.cell? ⟨b, off + k * 2 + 1, none⟩ = some (.slice AA kk (C k)) := cell_later hlb.bel hc2
      have br : b < r := by have := hlb.sz; omega
      have BW := Lib.hid hb
      have GW := Lib.hid (show w.cell? ⟨b, off + k * 2 + 1, none⟩ = some (.slice AA kk (C k)) from hc2)
      have HROW := Lib.hid hrow
      have HTK := Lib.hid hTk
      have HZL := Lib.hid hzl
      have HZS := Lib.hid hzs
      have HK := Lib.hid hκ
      have HKK := Lib.hid hkk
      have HR := Lib.hid hr
      clear hAA hc1 hc2 hrow hTk hzl hzs hκ hkk hb hlb
      go_upto_region 7 with (refine wpList_buildTo rfl 83 _ rfl (some 25) rfl c83 (by kernel_rfl) ?_)
      obtain ⟨w1, hw1⟩ : ∃ w1, w1 = wo.alloc (.cells c83 83) := ⟨_, rfl⟩
      have v1 := made83 wo
      have b1 : Below wo.heap.size wo w1 := by rw [hw1]; exact (Below.refl _ _).alloc (Nat.le_refl _) _
      rw [← hw1] at v1 ⊢
      rw [← hr] at v1 ⊢
      have y62 := v1.at_ (i := 62) (by decide) (v := .int .u8 0) (by rw [c83_at.2.2]; rfl)
      have f62 := v1.frozen 62
      have e1 := cell_later b1 d1
      have e2 := cell_later b1 d2
      have W1 := Lib.hid hw1
      clear hr hw1 v1 b1 d1 d2
      go_upto_region 8 with fail
      obtain ⟨w2, hw2⟩ : ∃ w2, w2 = w1.setCell ⟨r, 62, none⟩ (.int .u8 κ) := ⟨_, rfl⟩
      rw [← hw2]
      have g2 : w2.cell? ⟨b, off + k * 2 + 1, none⟩ = some (.slice AA kk (C k)) := by
        rw [hw2, World.cell?_of_block (a := ⟨b, off + k * 2 + 1, none⟩) (Below.heap_setCell _ _ _ _ (by show b ≠ r; omega))]; exact e2
      have hs2 : w2.heap.size = r + 1 := by rw [hw2, W1.out]; simp [HR.out]
      have W2 := Lib.hid hw2
      have hm3 := run_make_wide (P := Try.prog) 58 101 z101 15 CR Try.underlying58 info101 HCR.out.symm .i64 .i64 kk (by omega) w2
      rw [hs2] at hm3
      have S2 := Lib.hid hs2
      clear hw2 y62 f62 e1 e2 hs2
      go_upto_region 10 with fail
      obtain ⟨w3, hw3⟩ : ∃ w3, w3 = w2.alloc (.cells (madeCells CR (kk * 15)) 101) := ⟨_, rfl⟩
      rw [← hw3]
      have hs3 : w3.heap.size = r + 2 := by rw [hw3]; simp [S2.out]
      have W3 := Lib.hid hw3
      have hm4 := run_make_row' (P := Try.prog) 61 23 (.int .u32 0) 4 Try.underlying61 info23 rfl .i64 .i64 kk (by omega) (by omega) w3
      rw [hs3] at hm4
      clear hm3 hw3 hs3 g2
      go_upto_region 11 with fail
      have N0 := Lib.hid (show Nf κ zs r 0 wo (w3.alloc (.cells (madeCells #[.int .u32 0] kk) 23)) from by
        have h9 := nf_start (κ := κ) (zs := zs) (w0 := wo) (w1 := w2) (by rw [W2.out, W1.out, HR.out])
        rw [HZL.out, ← HCR.out, ← W3.out, ← HR.out] at h9
        exact h9)
      obtain ⟨w4, hw4⟩ : ∃ w4, w4 = w3.alloc (.cells (madeCells #[.int .u32 0] kk) 23) := ⟨_, rfl⟩
      rw [← hw4] at N0 ⊢
      clear hw4 hm4
      go_wp2
      go_loopw [11] (fun i wr => ∃ j : Nat, j ≤ kk ∧ i = .int .i64 j ∧ Nf κ zs r j wo wr) (fun i _ => kk - (intOf i).toNat)
      case atStart => exact ⟨0, Nat.zero_le _, rfl, N0.out⟩
      case round =>
        clear N0
        obtain ⟨j, hj, rfl, hnf⟩ := hrel
        have NF := Lib.hid hnf
        by_cases hlj : j < kk
        · have x0 := hnf.ixd.at_ (i := j) (by rw [HZL.out]; exact hlj) (v := .int .u32 0) (by unfold upto; rw [if_neg (Nat.lt_irrefl j)])
          have fx := hnf.ixd.frozen j
          have wk1 : IntKind.u32.wrap (j : Int) = (j : Int) := IntWalk.u32_in _ (by omega)
          obtain ⟨b2, o2, ha2, hb2, hc2⟩ := HROW.out.read j hlj
          obtain ⟨t, ht⟩ : ∃ t, t = zs.getD j 0 := ⟨_, rfl⟩
          rw [← ht] at hc2
          have htn : t < (n : Int) := by rw [ht]; exact HTK.out j hlj
          have HTT := Lib.hid ht
          clear ht
          subst ha2
          go_upto_region 15 with fail
          obtain ⟨q1, hq1⟩ : ∃ q1, q1 = wr.setCell ⟨r + 2, j, none⟩ (.int .u32 (j : Int)) := ⟨_, rfl⟩
          rw [← hq1]
          have old : ∀ g o v, g < w.heap.size → w.cell? ⟨g, o, none⟩ = some v → q1.cell? ⟨g, o, none⟩ = some v := fun g o v hg hv => by
            have h1 := LB.out.sz
            rw [hq1, World.cell?_of_block (a := ⟨g, o, none⟩) (Below.heap_setCell _ _ _ _ (by show g ≠ r + 2; have := HR.out; omega))]
            have h2 := cell_later LB.out.bel hv
            exact cell_later NF.out.bel h2
          have old2 := old b (off + k * 2 + 1) _ BW.out GW.out
          have old3 := old b2 (o2 + j) _ hb2 hc2
          have z1 : q1.heap.size = wr.heap.size := by rw [hq1]; simp
          have cr : q1.cell? ⟨r + 1, j * 15 + 10, none⟩ = some (.int .u32 0) := by
            rw [hq1, World.cell?_of_block (a := ⟨r + 1, j * 15 + 10, none⟩) (Below.heap_setCell _ _ _ _ (by show r + 1 ≠ r + 2; omega)), NF.out.rcd j (by rw [HZL.out]; exact hlj), if_neg (Nat.lt_irrefl j)]
          have fr : q1.frozen? ⟨r + 1, j * 15 + 10, none⟩ = false := by rw [hq1]; exact frozen_set _ _ _ _ _ (NF.out.rfz _)
          have rlt : r + 1 < q1.heap.size := cell_lt cr
          have Q1 := Lib.hid hq1
          have Z1 := Lib.hid z1
          clear hq1 z1 old x0 fx hc2 hb2
          by_cases p0 : t < 0
          · have t0 : decide ((0 : Int) ≤ t) = false := by simp; omega
            have NN := Lib.hid (nf_out NF.out (by rw [HZL.out]; exact hlj) (by rw [← HTT.out]; exact p0))
            go_wp2
            go_roundw
            case rel => first | exact ⟨j + 1, by omega, by go_num, by rw [Q1.out]; exact NN.out⟩ | exact hrel
            case measure => simp [intOf]; omega
          · have t0 : decide ((0 : Int) ≤ t) = true := by simp; omega
            obtain ⟨u, hu⟩ : ∃ u : Nat, t = (u : Int) := ⟨t.toNat, by omega⟩
            subst hu
            have u4 : u < 4294967296 := by omega
            have wk2 : IntKind.u32.wrap (u : Int) = (u : Int) := IntWalk.u32_in _ (by omega)
            go_wp2_with fail
            refine (mk9 u u4 q1).mono ?_
            rintro e q2 ⟨rfl, hq2⟩
            have cr2 := cell_later hq2 cr
            have fr2 : q2.frozen? ⟨r + 1, j * 15 + 10, none⟩ = false := by rw [← fr]; exact hq2.frozen (p := ⟨r + 1, j * 15 + 10, none⟩) rlt
            have NN := Lib.hid (nf_in NF.out (by rw [HZL.out]; exact hlj) (by rw [← HTT.out]; omega) (by rw [← Q1.out]; exact hq2))
            rw [← HTT.out] at NN
            clear hq2 cr fr old2 old3
            go_wp2
            go_roundw
            case rel => first | exact ⟨j + 1, by omega, by go_num, NN.out⟩ | exact hrel
            case measure => simp [intOf]; omega
        · obtain rfl : kk = j := by omega
          have i35 := hnf.fr.at_ (i := 35) (by decide) (v := .slice none 0 0) (by rw [up_ne _ _ (by decide), c83_at.1]; rfl)
          have f35 := hnf.fr.frozen 35
          have i38 := hnf.fr.at_ (i := 38) (by decide) (v := .slice none 0 0) (by rw [up_ne _ _ (by decide), c83_at.2.1]; rfl)
          have f38 := hnf.fr.frozen 38
          obtain ⟨wq, hwq⟩ : ∃ wq, wq = wr := ⟨_, rfl⟩
          rw [← hwq] at NF i35 f35 i38 f38 ⊢
          clear hwq hnf
          go_upto_region 20 with fail
          obtain ⟨D, hD⟩ : ∃ D, D = c123 r := ⟨_, rfl⟩
          obtain ⟨w5, hw5⟩ : ∃ w5, w5 = (wq.setCell ⟨r, 35, none⟩ (.slice (some ⟨r + 1, 0, none⟩) kk kk)).setCell ⟨r, 38, none⟩ (.slice (some ⟨r + 2, 0, none⟩) kk kk) := ⟨_, rfl⟩
          rw [← hw5]
          clear i35 f35 i38 f38
          have hsz := LB.out.sz
          have p1 := Fv.far (Fv.far (LB.out.pr.below NF.out.bel (by omega)) (p := ⟨r, 35, none⟩) (by show w.heap.size ≠ r; have := HR.out; omega) (.slice (some ⟨r + 1, 0, none⟩) kk kk)) (p := ⟨r, 38, none⟩) (by show w.heap.size ≠ r; have := HR.out; omega) (.slice (some ⟨r + 2, 0, none⟩) kk kk)
          rw [← hw5] at p1
          have pk := p1.at_ (i := k) hlt (v := .pointer none) (by unfold upto; rw [if_neg (Nat.lt_irrefl k)])
          have fk := p1.frozen k
          have W5 := Lib.hid hw5
          have J := Lib.hid (fun W => js10 r W)
          rw [← hD] at J
          have HD := Lib.hid hD
          clear p1 hw5 hD hsz
          go_wp2_with fail
          refine (J.out _).mono ?_
          rintro e w6 ⟨rfl, hb6⟩
          have hb7 : Below (wset r zs.length w.heap.size k wq).heap.size (wset r zs.length w.heap.size k wq) w6 := by
            unfold wset; rw [HZL.out, ← W5.out]; exact hb6
          have NX := lb_next LB.out hlt (by rw [← HK.out, ← HZS.out]; have := NF.out; rw [← HZL.out] at this; exact this) (by rw [← HZS.out]; exact hb7)
          have th6 := there_k LB.out hlt NF.out hb7 HR.out
          rw [← HD.out] at NX th6
          have hi6 : (Try.prog.info? 123).map (·.size) = some D.size := by rw [HD.out]; exact (c123_at r).2.2.2
          have hn6 : D.all (·.oneCell') = true := by rw [HD.out]; exact c123_one r
          have NN := Lib.hid NX
          have TH := Lib.hid th6
          have HI := Lib.hid hi6
          have HO := Lib.hid hn6
          clear hb6 hb7 NX th6 hi6 hn6 pk fk
          go_wp2_with (refine wpList_store_mid rfl 123 _ _ rfl (w.heap.size + 1) (k * 24) D rfl rfl TH.out HI.out HO.out ?_)
          go_roundw
          case rel => exact ⟨k + 1, _, _, _, by omega, by go_num, NN.out⟩
          case measure => simp [intOf]; omega
    · obtain rfl : n = k := by omega
      go_wp2
      go_ret2
      exact ⟨R, rc, ix, rfl, LB.out⟩
end Go.Proofs.Ytidkddnbckbegaa.HdB
