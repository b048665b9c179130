/- FnTryToGetImportedEnumValueMatchesLastKeyAtEnumRoot: FollowSymbols. -/
import Derived.Test.YtnjjenellkpkaaaDoorRows
import Derived.Test.YtnjjenellkpkaaaDoorMem
import Derived.Test.YtnjjenellkpkaaaDoorSl
import Derived.Test.YtnjjenellkpkaaaDoorTeC
import Derived.Deep.RegionHeld3
import Derived.Great.BuildSlice
import Derived.Deep.RegionLaw
import Derived.WalkKit
import Derived.ProofKit
import Derived.OpenShut
import Derived.Below
import Derived.WalkLawsBesides
import Derived.Lib.Hide
import Derived.Outline
import Derived.RegionTactic
import Derived.Deep.QuietTactic
import Derived.BigQuiet
import Derived.WalkSpells
import Derived.Deep.OwnRows
import Derived.IntWalk
import Derived.Deep.DeepMust
namespace Go.Proofs.YtnjjenellkpkaaaDoor.TeF
open Go.RowKit Mem Sl
set_option linter.unusedVariables false
open Args Argw Fvs TeA TeB TeC

/-- The invalid ref, as the program's variable holds it. -/
structure Gi (w : World) : Prop where
  c0 : w.cell? ⟨0, 0, none⟩ = some (.int .u32 4294967295)
  c1 : w.cell? ⟨0, 1, none⟩ = some (.int .u32 4294967295)
  lt : 0 < w.heap.size
theorem Gi.below {w w' : World} {B : Nat} (h : Gi w) (hb : Below B w w') (hB : 0 < B) : Gi w' := ⟨(hb.cell (p := ⟨0, 0, none⟩) hB).trans h.c0, (hb.cell (p := ⟨0, 1, none⟩) hB).trans h.c1, Nat.lt_of_lt_of_le h.lt hb.size⟩
theorem Gi.fg {w w' : World} {g : Nat} (h : Gi w) (hf : Fg g w w') (hg : 0 ≠ g) : Gi w' := ⟨(World.cell?_of_block (a := ⟨0, 0, none⟩) (hf.block 0 h.lt hg)).trans h.c0, (World.cell?_of_block (a := ⟨0, 1, none⟩) (hf.block 0 h.lt hg)).trans h.c1, Nat.lt_of_lt_of_le h.lt hf.size⟩
/-- The state that a call needs. -/
structure St (w : World) (q g n : Nat) (X Y K : Nat → Int) : Prop where
  sy : Sy w g n X Y K
  row : Row w q 57 [.slice (some ⟨g, 0, none⟩) n n]
  gi : Gi w
theorem St.below {w w' : World} {q g n : Nat} {X Y K : Nat → Int} (h : St w q g n X Y K) (hb : Below w.heap.size w w') : St w' q g n X Y K := ⟨h.sy.below hb h.sy.lt, h.row.below hb h.row.lt, h.gi.below hb h.gi.lt⟩
theorem un_of {X Y X' Y' : Nat → Int} {n r d i : Nat} {j : Int} (hc : Cmp X Y X' Y' n r d) (h : Ch X Y n r (d + 1) i) (hy : Y i = j) : X' i = 0 ∧ Y' i = j := by
  rcases hc i with h1 | ⟨d', hd, hch, _⟩
  · exact ⟨h1.1.trans h.2.1, h1.2.trans hy⟩
  · have := ch_uniq hch h
    omega
theorem sy_far {w : World} {g n : Nat} {X Y K : Nat → Int} (h : Sy w g n X Y K) {p : Addr} (hp : g ≠ p.block) (u : Value) : Sy (w.setCell p u) g n X Y K := by
  have hc : ∀ o, (w.setCell p u).cell? ⟨g, o, none⟩ = w.cell? ⟨g, o, none⟩ := fun o => World.cell?_of_block (a := ⟨g, o, none⟩) (Below.heap_setCell w p u g hp)
  exact ⟨by simpa using h.lt, fun i hi => (hc _).trans (h.cx i hi), fun i hi => (hc _).trans (h.cy i hi), fun i hi => (hc _).trans (h.ck i hi), fun o => frozen_set _ _ _ _ _ (h.fz o)⟩
/-- The link's own block is written. -/
theorem behind {w w6 : World} {g n p b2 RES : Nat} {X Y K : Nat → Int} {r : Int} {v : Value} (hsy : Sy w6 g n X Y K) (hp : Row w6 p 50 [.int .u32 0, .int .u32 0]) (hres : Row w6 RES 50 [.int .u32 0, .int .u32 0]) (hb : Row w6 b2 39 [v]) (hf : Fg g w w6) (hpg : g ≠ p) (hpr : RES ≠ p) (hpb : b2 ≠ p) (hwp : w.heap.size ≤ p) :
    (Sy ((w6.setCell ⟨p, 0, none⟩ (.int .u32 0)).setCell ⟨p, 1, none⟩ (.int .u32 r)) g n X Y K ∧ Row ((w6.setCell ⟨p, 0, none⟩ (.int .u32 0)).setCell ⟨p, 1, none⟩ (.int .u32 r)) p 50 [.int .u32 0, .int .u32 r] ∧ Row ((w6.setCell ⟨p, 0, none⟩ (.int .u32 0)).setCell ⟨p, 1, none⟩ (.int .u32 r)) RES 50 [.int .u32 0, .int .u32 0] ∧ Fg g w ((w6.setCell ⟨p, 0, none⟩ (.int .u32 0)).setCell ⟨p, 1, none⟩ (.int .u32 r))) ∧ Row ((w6.setCell ⟨p, 0, none⟩ (.int .u32 0)).setCell ⟨p, 1, none⟩ (.int .u32 r)) b2 39 [v] :=
  ⟨⟨sy_far (sy_far hsy hpg _) hpg _, (hp.set 0 _).set 1 _, (hres.far hpr _).far hpr _, (hf.setNew hwp _).setNew hwp _⟩, (hb.far hpb _).far hpb _⟩
set_option maxRecDepth 100000 in
set_option maxHeartbeats 8000000 in
theorem follow29 (q g n r : Nat) (K : Nat → Int) (hn : n ≤ 65536) (hqg : q ≠ g) (hg0 : 0 ≠ g) : ∀ (d : Nat) (w : World) (X Y : Nat → Int) (i : Nat), St w q g n X Y K → Ch X Y n r d i →
    Calls Tryd.prog 29 #[.agg #[.slice (some ⟨q, 0, none⟩) 1 1], .agg #[.int .u32 0, .int .u32 (i : Int)]] w (Fo w g n X Y K r d) := by
  intro d
  induction d with
  | zero =>
    intro w X Y i hst hch
    obtain ⟨hi, hx, hy, rfl⟩ := hch
    have HB := Lib.hid ((((Below.refl w.heap.size w).alloc (Nat.le_refl _) (.cells #[.slice (some ⟨q, 0, none⟩) 1 1] 39)).alloc (by simp) (.cells #[.int .u32 0, .int .u32 (i : Int)] 50)).alloc (by simp <;> omega) (.cells #[.int .u32 0, .int .u32 0] 50))
    have HST := Lib.hid (hst.below HB.out)
    have HST0 := Lib.hid hst
    have hr1 := ((Row.newArr (w.alloc (.cells #[.slice (some ⟨q, 0, none⟩) 1 1] 39)) 50 #[.int .u32 0, .int .u32 (i : Int)]).alloc (.cells #[.int .u32 0, .int .u32 0] 50))
    have hr2 := Row.newArr ((w.alloc (.cells #[.slice (some ⟨q, 0, none⟩) 1 1] 39)).alloc (.cells #[.int .u32 0, .int .u32 (i : Int)] 50)) 50 #[.int .u32 0, .int .u32 0]
    have HR1 := Lib.hid hr1
    have HR2 := Lib.hid hr2
    have HX := Lib.hid hx
    have HY := Lib.hid hy
    clear hst hr1 hr2 hx hy
    go_enter Tryd.func29, Tryd.ntmps29
    go_wp2_with fail
    refine (get30 q g n i X Y K _ HST.out.sy HST.out.row hi hn).mono ?_
    rintro e w2 ⟨rfl, hb2⟩
    have hs2 := HST.out.below hb2
    have e2 := hs2.sy.cx i hi
    have e3 := hs2.sy.cy i hi
    rw [HX.out] at e2
    rw [HY.out] at e3
    have e0 := hs2.gi.c0
    have e1 := hs2.gi.c1
    have HB2 := Lib.hid hb2
    clear hb2 hs2
    go_wp2_with fail
    go_quiet (fail)
    have hr1 := HR1.out
    have hr2 := HR2.out
    simp only [World.alloc, Array.size_push] at hr1 hr2
    have q1 := hr1.below HB2.out (by simp)
    have q2 := hr2.below HB2.out (by simp)
    have a0 := q1.at_ (i := 0) rfl
    have a1 := q1.at_ (i := 1) rfl
    have b0 := q2.at_ (i := 0) rfl
    have b1 := q2.at_ (i := 1) rfl
    have f0 := q2.frozen 0
    have f1 := q2.frozen 1
    obtain ⟨W, hW⟩ : ∃ W, W = ((w2.drewN nq).setCell ⟨w.heap.size + 1 + 1, 0, none⟩ (.int .u32 0)).setCell ⟨w.heap.size + 1 + 1, 1, none⟩ (.int .u32 (i : Int)) := ⟨_, rfl⟩
    have q3 := ((Row.drewN q2 nq).set 0 (.int .u32 0)).set 1 (.int .u32 (i : Int))
    rw [← hW] at q3
    have g0 := q3.at_ (i := 0) rfl
    have g1 := q3.at_ (i := 1) rfl
    have hBW : Below w.heap.size w W := by
      rw [hW]
      exact ((below_drewN (HB.out.trans (HB2.out.mono HB.out.size)) nq).setCell (by show w.heap.size ≤ w.heap.size + 1 + 1; omega) _).setCell (by show w.heap.size ≤ w.heap.size + 1 + 1; omega) _
    have HFIN := Lib.hid (show Fo w g n X Y K i 0 (.returned (.agg #[.int .u32 0, .int .u32 (i : Int)])) W from ⟨rfl, X, Y, HST0.out.sy.below hBW HST0.out.sy.lt, fun m => .inl ⟨rfl, rfl⟩, Fg.below hBW⟩)
    clear hr1 hr2 q1 q2 q3 hBW e0 e1 e2 e3
    go_wp2_with fail
    rw [← hW]
    clear hW
    exact bodyPost_ret (v := .agg #[.int .u32 0, .int .u32 (i : Int)]) (by simp [results, Tryd.results29, go_sem, g0, g1]) rfl HFIN.out
  | succ d ih =>
    intro w X Y i hst hch
    have hch0 := hch
    obtain ⟨hi, hx, j, hy, hch2⟩ := hch
    have hj := ch_lt hch2
    have HIH := Lib.hid ih
    have HCH := Lib.hid hch2
    have HCH0 := Lib.hid hch0
    have HB := Lib.hid ((((Below.refl w.heap.size w).alloc (Nat.le_refl _) (.cells #[.slice (some ⟨q, 0, none⟩) 1 1] 39)).alloc (by simp) (.cells #[.int .u32 0, .int .u32 (i : Int)] 50)).alloc (by simp <;> omega) (.cells #[.int .u32 0, .int .u32 0] 50))
    have HST := Lib.hid (hst.below HB.out)
    have HST0 := Lib.hid hst
    have hr0 := (((Row.newArr w 39 #[.slice (some ⟨q, 0, none⟩) 1 1]).alloc (.cells #[.int .u32 0, .int .u32 (i : Int)] 50)).alloc (.cells #[.int .u32 0, .int .u32 0] 50))
    have hr2 := Row.newArr ((w.alloc (.cells #[.slice (some ⟨q, 0, none⟩) 1 1] 39)).alloc (.cells #[.int .u32 0, .int .u32 (i : Int)] 50)) 50 #[.int .u32 0, .int .u32 0]
    have HR0 := Lib.hid hr0
    have HR2 := Lib.hid hr2
    have HX := Lib.hid hx
    have HY := Lib.hid hy
    have hglt := hst.sy.lt
    clear hst hr0 hr2 hx hy hch0 hch2 ih
    go_enter Tryd.func29, Tryd.ntmps29
    go_wp2_with fail
    refine (get30 q g n i X Y K _ HST.out.sy HST.out.row hi hn).mono ?_
    rintro e w2 ⟨rfl, hb2⟩
    have hs2 := HST.out.below hb2
    have e2 := hs2.sy.cx i hi
    have e3 := hs2.sy.cy i hi
    rw [HX.out] at e2
    rw [HY.out] at e3
    have e0 := hs2.gi.c0
    have e1 := hs2.gi.c1
    have HB2 := Lib.hid hb2
    have HS2 := Lib.hid hs2
    clear hb2 hs2
    go_wp2_with fail
    go_quiet (fail)
    go_wp2_with fail
    have hr0 := HR0.out
    have hr2 := HR2.out
    simp only [World.alloc, Array.size_push] at hr0 hr2
    have q0 := Row.drewN (hr0.below HB2.out (by simp; omega)) nq
    have q2 := Row.drewN (hr2.below HB2.out (by simp)) nq
    have hsz2 := HB2.out.size
    simp only [World.alloc, Array.size_push] at hsz2
    obtain ⟨w4, hw4⟩ : ∃ x, x = w2.drewN nq := ⟨_, rfl⟩
    have HS4 := Lib.hid (show St w4 q g n X Y K from by rw [hw4]; exact HS2.out.below (below_drewN (Below.refl _ _) nq))
    have HB4 := Lib.hid (show Below w.heap.size w w4 from by rw [hw4]; exact below_drewN (HB.out.trans (HB2.out.mono HB.out.size)) nq)
    have hsz4 : w.heap.size + 1 + 1 < w4.heap.size := by rw [hw4]; exact hsz2
    rw [← hw4] at q0 q2
    rw [← hw4]
    have Q0 := Lib.hid q0
    have Q2 := Lib.hid q2
    have s0 := q0.at_ (i := 0) rfl
    have s2 := HS4.out.sy.cx i hi
    have s3 := HS4.out.sy.cy i hi
    rw [HX.out] at s2
    rw [HY.out] at s3
    clear hw4 hr0 hr2 q0 q2 hsz2 e0 e1 e2 e3 HB2 HS2 HST HB HR0 HR2
    refine wp_region_held_drew (S := (fun W => W.cell? ⟨w.heap.size, 0, none⟩ = some (.slice (some ⟨q, 0, none⟩) 1 1) ∧ W.cell? ⟨g, i * 10 + 2, none⟩ = some (.int .u32 0) ∧ W.cell? ⟨g, i * 10 + 3, none⟩ = some (.int .u32 (j : Int)))) (by kernel_rfl) ⟨s0, s2, s3⟩ (fun hHeld => ?_)
    refine wpAnyH_take (i := 0) (v := .agg #[.slice (some ⟨q, 0, none⟩) 1 1]) rfl (by kernel_rfl) (by kernel_rfl) (by kernel_rfl) (fun _ _ _ h => h) (Or.inl ⟨by rfl, fun W hS => by obtain ⟨hS1, hS2, hS3⟩ := hS; go_simp⟩) ⟨s0, s2, s3⟩ ?_
    simp only [Act.put, List.setIfInBounds_toArray]
    refine wpAnyH_take (i := 1) (v := .pointer (some ⟨g, i * 10, none⟩)) rfl (by kernel_rfl) (by kernel_rfl) (by kernel_rfl) (fun _ _ _ h => h) (Or.inl ⟨by rfl, fun W _ => by go_simp⟩) ⟨s0, s2, s3⟩ ?_
    simp only [Act.put]
    refine wpAnyH_take (i := 2) (v := .pointer (some ⟨g, i * 10, none⟩)) rfl (by kernel_rfl) (by kernel_rfl) (by kernel_rfl) (fun _ _ _ h => h) (Or.inl ⟨by rfl, fun W _ => by go_simp⟩) ⟨s0, s2, s3⟩ ?_
    simp only [Act.put]
    refine wpAnyH_take (i := 3) (v := .pointer (some ⟨g, i * 10 + 2, none⟩)) rfl (by kernel_rfl) (by kernel_rfl) (by kernel_rfl) (fun _ _ _ h => h) (Or.inl ⟨by rfl, fun W _ => by go_simp⟩) ⟨s0, s2, s3⟩ ?_
    simp only [Act.put]
    refine wpAnyH_take (i := 4) (v := .agg #[.int .u32 0, .int .u32 (j : Int)]) rfl (by kernel_rfl) (by kernel_rfl) (by kernel_rfl) (fun _ _ _ h => h) (Or.inl ⟨by rfl, fun W hS => by obtain ⟨hS1, hS2, hS3⟩ := hS; go_simp⟩) ⟨s0, s2, s3⟩ ?_
    simp only [Act.put]
    refine wpAnyH_ready (rs := [5, 6]) (by kernel_rfl) (by simp) ?_
    refine AllReadyH.cons rfl (fun K hK => ?_) (AllReadyH.cons rfl (fun K hK => ?_) AllReadyH.nil)
    · go_simp
      with_reducible refine (HIH.out _ X Y j (HS4.out.below (Below.refl w4.heap.size w4).drew) HCH.out).mono ?_
      rintro e w6 ⟨rfl, X2, Y2, hsy6, hcmp6, hfg6⟩
      have HUN := Lib.hid (un_of hcmp6 HCH0.out HY.out)
      have HSY6 := Lib.hid hsy6
      have HCM := Lib.hid hcmp6
      have hres6 := TeC.Row.fg (Q2.out.below ((Below.refl w4.heap.size w4).drew) (by omega)) hfg6 (by omega)
      have hb6 := TeC.Row.fg (Q0.out.below ((Below.refl w4.heap.size w4).drew) (by omega)) hfg6 (by omega)
      have HRES6 := Lib.hid hres6
      have HB6 := Lib.hid hb6
      have HF6 := Lib.hid ((Fg.below (HB4.out.trans (((Below.refl w4.heap.size w4).drew).mono HB4.out.size))).trans hfg6)
      have u0 := hb6.at_ (i := 0) rfl
      have u2 := hsy6.cx i hi
      have u3 := hsy6.cy i hi
      rw [HUN.out.1] at u2
      rw [HUN.out.2] at u3
      have HSZ6 := Lib.hid hfg6.size
      clear hres6 hb6 hsy6 hcmp6 hfg6
      try go_simp
      refine hK.out _ _ ⟨u0, u2, u3⟩ (fun _ => ?_)
      clear hK K
      try simp only [Act.put]
      have hl6 : w.heap.size + 1 + 1 < w6.heap.size := Nat.lt_of_lt_of_le hsz4 HSZ6.out
      have hal : Below w6.heap.size w6 (w6.alloc (.cells #[.int .u32 0, .int .u32 0] 50)) := (Below.refl _ _).alloc (Nat.le_refl _) _
      have hal2 : Below w6.heap.size w6 (w6.alloc (.cells #[.int .u32 0, .int .u32 (r : Int)] 50)) := (Below.refl _ _).alloc (Nat.le_refl _) _
      have HQ := Lib.hid (show Sy (w6.alloc (.cells #[.int .u32 0, .int .u32 (r : Int)] 50)) g n X2 Y2 K ∧ Row (w6.alloc (.cells #[.int .u32 0, .int .u32 (r : Int)] 50)) w6.heap.size 50 [.int .u32 0, .int .u32 (r : Int)] ∧ Row (w6.alloc (.cells #[.int .u32 0, .int .u32 (r : Int)] 50)) (w.heap.size + 1 + 1) 50 [.int .u32 0, .int .u32 0] ∧ Fg g w (w6.alloc (.cells #[.int .u32 0, .int .u32 (r : Int)] 50)) from ⟨HSY6.out.below hal2 HSY6.out.lt, Row.newArr w6 50 #[.int .u32 0, .int .u32 (r : Int)], HRES6.out.below hal2 HRES6.out.lt, HF6.out.trans (Fg.below hal2)⟩)
      have NP := Lib.hid hl6
      have t0 := cell_later hal u0
      have t2 := cell_later hal u2
      have t3 := cell_later hal u3
      have v0 := cell_later hal2 u0
      have v2 := cell_later hal2 u2
      have v3 := cell_later hal2 u3
      clear hal hal2
      refine wpAnyH_ready (rs := [6]) (by kernel_rfl) (by simp) ?_
      refine AllReadyH.cons rfl (fun K hK => ?_) AllReadyH.nil
      go_simp
      refine hK.out _ _ ⟨t0, t2, t3⟩ (fun _ => ?_)
      clear hK K
      try simp only [Act.put]
      refine wpAnyH_ready (rs := [7]) (by kernel_rfl) (by simp) ?_
      refine AllReadyH.cons rfl (fun K hK => ?_) AllReadyH.nil
      go_simp
      refine hK.out _ _ ⟨v0, v2, v3⟩ (fun _ => ?_)
      clear hK K
      try simp only [Act.put]
      refine wpAnyH_done (by kernel_rfl) ?_ _
      clear u0 u2 u3 v0 v2 v3 t0 t2 t3 s0 s2 s3
      obtain ⟨p, hp⟩ : ∃ x, x = w6.heap.size := ⟨_, rfl⟩
      obtain ⟨W, hW⟩ : ∃ x, x = w6.alloc (.cells #[.int .u32 0, .int .u32 (r : Int)] 50) := ⟨_, rfl⟩
      have HALL := Lib.hid (show Sy W g n X2 Y2 K ∧ Row W p 50 [.int .u32 0, .int .u32 (r : Int)] ∧ Row W (w.heap.size + 1 + 1) 50 [.int .u32 0, .int .u32 0] ∧ Fg g w W from by rw [hW, hp]; exact HQ.out)
      have hpr : p ≠ w.heap.size + 1 + 1 := by rw [hp]; exact Nat.ne_of_gt NP.out
      rw [← hW, ← hp]
      have NPG := Lib.hid (show g < p by rw [hp]; have := NP.out; omega)
      clear hW hp HQ NP
      have x2 := HALL.out.1.cx i hi
      have x3 := HALL.out.1.cy i hi
      rw [HUN.out.1] at x2
      rw [HUN.out.2] at x3
      have x4 := HALL.out.1.fz (i * 10 + 2)
      have x5 := HALL.out.1.fz (i * 10 + 3)
      have p0 := HALL.out.2.1.at_ (i := 0) rfl
      have p1 := HALL.out.2.1.at_ (i := 1) rfl
      have r0 := HALL.out.2.2.1.at_ (i := 0) rfl
      have r1 := HALL.out.2.2.1.at_ (i := 1) rfl
      have r2 := HALL.out.2.2.1.frozen 0
      have r3 := HALL.out.2.2.1.frozen 1
      have hrg : w.heap.size + 1 + 1 ≠ g := by omega
      have hpg : p ≠ g := by have := NPG.out; omega
      by_cases hjr : j = r
      · have t9 : ((j : Int) == (r : Int)) = true := by simp [hjr]
        go_wp2_with fail
        go_quiet (fail)
        have SYW : Sy (W.drewN nq) g n X2 Y2 K := HALL.out.1.below (below_drewN (Below.refl W.heap.size W) nq) HALL.out.1.lt
        have CMPW : Cmp X Y X2 Y2 n r (d + 1) := fun m => (HCM.out m).imp id (fun ⟨d', h1, h2⟩ => ⟨d', by omega, h2⟩)
        have FGW : Fg g w (W.drewN nq) := HALL.out.2.2.2.trans (Fg.below (below_drewN (Below.refl W.heap.size W) nq))
        have ROWR := Row.drewN HALL.out.2.2.1 nq
        obtain ⟨W9, hW9⟩ : ∃ x, x = ((W.drewN nq).setCell ⟨w.heap.size + 1 + 1, 0, none⟩ (.int .u32 0)).setCell ⟨w.heap.size + 1 + 1, 1, none⟩ (.int .u32 (r : Int)) := ⟨_, rfl⟩
        have hg9 : W9.cell? ⟨w.heap.size + 1 + 1, 0, none⟩ = some (.int .u32 0) ∧ W9.cell? ⟨w.heap.size + 1 + 1, 1, none⟩ = some (.int .u32 (r : Int)) := by
          have h9 := (ROWR.set 0 (.int .u32 0)).set 1 (.int .u32 (r : Int))
          rw [← hW9] at h9
          exact ⟨h9.at_ (i := 0) rfl, h9.at_ (i := 1) rfl⟩
        have HFIN := Lib.hid (show Fo w g n X Y K r (d + 1) (.returned (.agg #[.int .u32 0, .int .u32 (r : Int)])) W9 from ⟨rfl, X2, Y2, by rw [hW9]; exact sy_far (sy_far SYW (by show g ≠ w.heap.size + 1 + 1; omega) _) (by show g ≠ w.heap.size + 1 + 1; omega) _, CMPW, by rw [hW9]; exact (FGW.setNew (by show w.heap.size ≤ w.heap.size + 1 + 1; omega) _).setNew (by show w.heap.size ≤ w.heap.size + 1 + 1; omega) _⟩)
        have z0 := hg9.1
        have z1 := hg9.2
        clear hg9 SYW CMPW FGW ROWR
        go_wp2_with fail
        rw [← hW9]
        clear hW9
        exact bodyPost_ret (v := .agg #[.int .u32 0, .int .u32 (r : Int)]) (by simp [results, Tryd.results29, go_sem, z0, z1]) rfl HFIN.out
      · have t9 : ((j : Int) == (r : Int)) = false := by simp; omega
        go_wp2_with fail
        go_quiet (fail)
        obtain ⟨V, hV⟩ : ∃ x, x = ((W.drewN nq).setCell ⟨g, i * 10 + 2, none⟩ (.int .u32 0)).setCell ⟨g, i * 10 + 3, none⟩ (.int .u32 (r : Int)) := ⟨_, rfl⟩
        have hn0 : Sy (W.drewN nq) g n X2 Y2 K := HALL.out.1.below (below_drewN (Below.refl W.heap.size W) nq) HALL.out.1.lt
        have SYW : Sy V g n (up X2 i 0) (up Y2 i (r : Int)) K := by rw [hV]; exact hn0.link hi 0 (r : Int)
        have CMPW : Cmp X Y (up X2 i 0) (up Y2 i (r : Int)) n r (d + 1) := fun m => by
          by_cases e : m = i
          · subst e
            rw [up_self, up_self]
            exact .inr ⟨d + 1, Nat.le_refl _, HCH0.out, rfl, rfl⟩
          · rw [up_ne _ _ e, up_ne _ _ e]
            exact (HCM.out m).imp id (fun ⟨d', h1, h2⟩ => ⟨d', by omega, h2⟩)
        have FGW : Fg g w V := by
          rw [hV]
          exact ((HALL.out.2.2.2.trans (Fg.below (below_drewN (Below.refl W.heap.size W) nq))).trans (Fg.set _ _ _)).trans (Fg.set _ _ _)
        have ROWR : Row V (w.heap.size + 1 + 1) 50 [.int .u32 0, .int .u32 0] := by rw [hV]; exact ((Row.drewN HALL.out.2.2.1 nq).far hrg _).far hrg _
        have ROWP : Row V p 50 [.int .u32 0, .int .u32 (r : Int)] := by rw [hV]; exact ((Row.drewN HALL.out.2.1 nq).far hpg _).far hpg _
        have y0 := ROWP.at_ (i := 0) rfl
        have y1 := ROWP.at_ (i := 1) rfl
        have y2 := ROWR.at_ (i := 0) rfl
        have y3 := ROWR.at_ (i := 1) rfl
        have y4 := ROWR.frozen 0
        have y5 := ROWR.frozen 1
        clear hn0 ROWP r0 r1 r2 r3
        rw [hV] at y0 y1 y2 y3 y4 y5
        obtain ⟨W9, hW9⟩ : ∃ x, x = ((V).setCell ⟨w.heap.size + 1 + 1, 0, none⟩ (.int .u32 0)).setCell ⟨w.heap.size + 1 + 1, 1, none⟩ (.int .u32 (r : Int)) := ⟨_, rfl⟩
        have hg9 : W9.cell? ⟨w.heap.size + 1 + 1, 0, none⟩ = some (.int .u32 0) ∧ W9.cell? ⟨w.heap.size + 1 + 1, 1, none⟩ = some (.int .u32 (r : Int)) := by
          have h9 := (ROWR.set 0 (.int .u32 0)).set 1 (.int .u32 (r : Int))
          rw [← hW9] at h9
          exact ⟨h9.at_ (i := 0) rfl, h9.at_ (i := 1) rfl⟩
        have HFIN := Lib.hid (show Fo w g n X Y K r (d + 1) (.returned (.agg #[.int .u32 0, .int .u32 (r : Int)])) W9 from ⟨rfl, (up X2 i 0), (up Y2 i (r : Int)), by rw [hW9]; exact sy_far (sy_far SYW (by show g ≠ w.heap.size + 1 + 1; omega) _) (by show g ≠ w.heap.size + 1 + 1; omega) _, CMPW, by rw [hW9]; exact (FGW.setNew (by show w.heap.size ≤ w.heap.size + 1 + 1; omega) _).setNew (by show w.heap.size ≤ w.heap.size + 1 + 1; omega) _⟩)
        have z0 := hg9.1
        have z1 := hg9.2
        clear hg9 SYW CMPW FGW ROWR
        rw [hV] at hW9
        go_wp2_with fail
        rw [← hW9]
        clear hW9
        exact bodyPost_ret (v := .agg #[.int .u32 0, .int .u32 (r : Int)]) (by simp [results, Tryd.results29, go_sem, z0, z1]) rfl HFIN.out
    · have t0 := cell_later ((Below.refl w4.heap.size w4).alloc (Nat.le_refl _) (.cells #[.int .u32 0, .int .u32 0] 50)).drew s0
      have t2 := cell_later ((Below.refl w4.heap.size w4).alloc (Nat.le_refl _) (.cells #[.int .u32 0, .int .u32 0] 50)).drew s2
      have t3 := cell_later ((Below.refl w4.heap.size w4).alloc (Nat.le_refl _) (.cells #[.int .u32 0, .int .u32 0] 50)).drew s3
      have hp5 : Row (w4.alloc (.cells #[.int .u32 0, .int .u32 0] 50)).drew w4.heap.size 50 [.int .u32 0, .int .u32 0] := (Row.newArr w4 50 #[.int .u32 0, .int .u32 0]).drew
      have HP5 := Lib.hid hp5
      clear hp5
      go_simp
      refine hK.out _ _ ⟨t0, t2, t3⟩ (fun _ => ?_)
      clear hK K
      try simp only [Act.put]
      refine wpAnyH_ready (rs := [5]) (by kernel_rfl) (by simp) ?_
      refine AllReadyH.cons rfl (fun K hK => ?_) AllReadyH.nil
      go_simp
      with_reducible refine (HIH.out _ X Y j (HS4.out.below ((Below.refl w4.heap.size w4).alloc (Nat.le_refl _) (.cells #[.int .u32 0, .int .u32 0] 50)).drew) HCH.out).mono ?_
      rintro e w6 ⟨rfl, X2, Y2, hsy6, hcmp6, hfg6⟩
      have HUN := Lib.hid (un_of hcmp6 HCH0.out HY.out)
      have HSY6 := Lib.hid hsy6
      have HCM := Lib.hid hcmp6
      have hres6 := TeC.Row.fg (Q2.out.below (((Below.refl w4.heap.size w4).alloc (Nat.le_refl _) (.cells #[.int .u32 0, .int .u32 0] 50)).drew) (by omega)) hfg6 (by omega)
      have hb6 := TeC.Row.fg (Q0.out.below (((Below.refl w4.heap.size w4).alloc (Nat.le_refl _) (.cells #[.int .u32 0, .int .u32 0] 50)).drew) (by omega)) hfg6 (by omega)
      have HRES6 := Lib.hid hres6
      have HB6 := Lib.hid hb6
      have HF6 := Lib.hid ((Fg.below (HB4.out.trans ((((Below.refl w4.heap.size w4).alloc (Nat.le_refl _) (.cells #[.int .u32 0, .int .u32 0] 50)).drew).mono HB4.out.size))).trans hfg6)
      have u0 := hb6.at_ (i := 0) rfl
      have u2 := hsy6.cx i hi
      have u3 := hsy6.cy i hi
      rw [HUN.out.1] at u2
      rw [HUN.out.2] at u3
      have HSZ6 := Lib.hid hfg6.size
      have hgl4 : g < w4.heap.size := HS4.out.sy.lt
      have hp6 := TeC.Row.fg HP5.out hfg6 (Nat.ne_of_gt hgl4)
      have k0 := hp6.at_ (i := 0) rfl
      have k1 := hp6.at_ (i := 1) rfl
      have k2 := hp6.frozen 0
      have k3 := hp6.frozen 1
      have HQ0 := Lib.hid (behind (r := (r : Int)) hsy6 hp6 hres6 hb6 HF6.out (Nat.ne_of_lt hgl4) (Nat.ne_of_lt hsz4) (by omega) HB4.out.size)
      have HQ := Lib.hid HQ0.out.1
      have NP := Lib.hid hsz4
      have v0 := HQ0.out.2.at_ (i := 0) rfl
      have v2 := HQ0.out.1.1.cx i hi
      have v3 := HQ0.out.1.1.cy i hi
      rw [HUN.out.1] at v2
      rw [HUN.out.2] at v3
      clear hp6 hres6 hb6 hsy6 hcmp6 hfg6
      try go_simp
      refine hK.out _ _ ⟨u0, u2, u3⟩ (fun _ => ?_)
      clear hK K
      try simp only [Act.put]
      refine wpAnyH_ready (rs := [7]) (by kernel_rfl) (by simp) ?_
      refine AllReadyH.cons rfl (fun K hK => ?_) AllReadyH.nil
      go_simp
      refine hK.out _ _ ⟨v0, v2, v3⟩ (fun _ => ?_)
      clear hK K
      try simp only [Act.put]
      refine wpAnyH_done (by kernel_rfl) ?_ _
      clear u0 u2 u3 v0 v2 v3 t0 t2 t3 s0 s2 s3 k0 k1 k2 k3 HQ0
      obtain ⟨p, hp⟩ : ∃ x, x = w4.heap.size := ⟨_, rfl⟩
      obtain ⟨W, hW⟩ : ∃ x, x = (w6.setCell ⟨w4.heap.size, 0, none⟩ (.int .u32 0)).setCell ⟨w4.heap.size, 1, none⟩ (.int .u32 (r : Int)) := ⟨_, rfl⟩
      have HALL := Lib.hid (show Sy W g n X2 Y2 K ∧ Row W p 50 [.int .u32 0, .int .u32 (r : Int)] ∧ Row W (w.heap.size + 1 + 1) 50 [.int .u32 0, .int .u32 0] ∧ Fg g w W from by rw [hW, hp]; exact HQ.out)
      have hpr : p ≠ w.heap.size + 1 + 1 := by rw [hp]; exact Nat.ne_of_gt NP.out
      rw [← hW, ← hp]
      have NPG := Lib.hid (show g < p by rw [hp]; have := NP.out; omega)
      clear hW hp HQ NP
      have x2 := HALL.out.1.cx i hi
      have x3 := HALL.out.1.cy i hi
      rw [HUN.out.1] at x2
      rw [HUN.out.2] at x3
      have x4 := HALL.out.1.fz (i * 10 + 2)
      have x5 := HALL.out.1.fz (i * 10 + 3)
      have p0 := HALL.out.2.1.at_ (i := 0) rfl
      have p1 := HALL.out.2.1.at_ (i := 1) rfl
      have r0 := HALL.out.2.2.1.at_ (i := 0) rfl
      have r1 := HALL.out.2.2.1.at_ (i := 1) rfl
      have r2 := HALL.out.2.2.1.frozen 0
      have r3 := HALL.out.2.2.1.frozen 1
      have hrg : w.heap.size + 1 + 1 ≠ g := by omega
      have hpg : p ≠ g := by have := NPG.out; omega
      by_cases hjr : j = r
      · have t9 : ((j : Int) == (r : Int)) = true := by simp [hjr]
        go_wp2_with fail
        go_quiet (fail)
        have SYW : Sy (W.drewN nq) g n X2 Y2 K := HALL.out.1.below (below_drewN (Below.refl W.heap.size W) nq) HALL.out.1.lt
        have CMPW : Cmp X Y X2 Y2 n r (d + 1) := fun m => (HCM.out m).imp id (fun ⟨d', h1, h2⟩ => ⟨d', by omega, h2⟩)
        have FGW : Fg g w (W.drewN nq) := HALL.out.2.2.2.trans (Fg.below (below_drewN (Below.refl W.heap.size W) nq))
        have ROWR := Row.drewN HALL.out.2.2.1 nq
        obtain ⟨W9, hW9⟩ : ∃ x, x = ((W.drewN nq).setCell ⟨w.heap.size + 1 + 1, 0, none⟩ (.int .u32 0)).setCell ⟨w.heap.size + 1 + 1, 1, none⟩ (.int .u32 (r : Int)) := ⟨_, rfl⟩
        have hg9 : W9.cell? ⟨w.heap.size + 1 + 1, 0, none⟩ = some (.int .u32 0) ∧ W9.cell? ⟨w.heap.size + 1 + 1, 1, none⟩ = some (.int .u32 (r : Int)) := by
          have h9 := (ROWR.set 0 (.int .u32 0)).set 1 (.int .u32 (r : Int))
          rw [← hW9] at h9
          exact ⟨h9.at_ (i := 0) rfl, h9.at_ (i := 1) rfl⟩
        have HFIN := Lib.hid (show Fo w g n X Y K r (d + 1) (.returned (.agg #[.int .u32 0, .int .u32 (r : Int)])) W9 from ⟨rfl, X2, Y2, by rw [hW9]; exact sy_far (sy_far SYW (by show g ≠ w.heap.size + 1 + 1; omega) _) (by show g ≠ w.heap.size + 1 + 1; omega) _, CMPW, by rw [hW9]; exact (FGW.setNew (by show w.heap.size ≤ w.heap.size + 1 + 1; omega) _).setNew (by show w.heap.size ≤ w.heap.size + 1 + 1; omega) _⟩)
        have z0 := hg9.1
        have z1 := hg9.2
        clear hg9 SYW CMPW FGW ROWR
        go_wp2_with fail
        rw [← hW9]
        clear hW9
        exact bodyPost_ret (v := .agg #[.int .u32 0, .int .u32 (r : Int)]) (by simp [results, Tryd.results29, go_sem, z0, z1]) rfl HFIN.out
      · have t9 : ((j : Int) == (r : Int)) = false := by simp; omega
        go_wp2_with fail
        go_quiet (fail)
        obtain ⟨V, hV⟩ : ∃ x, x = ((W.drewN nq).setCell ⟨g, i * 10 + 2, none⟩ (.int .u32 0)).setCell ⟨g, i * 10 + 3, none⟩ (.int .u32 (r : Int)) := ⟨_, rfl⟩
        have hn0 : Sy (W.drewN nq) g n X2 Y2 K := HALL.out.1.below (below_drewN (Below.refl W.heap.size W) nq) HALL.out.1.lt
        have SYW : Sy V g n (up X2 i 0) (up Y2 i (r : Int)) K := by rw [hV]; exact hn0.link hi 0 (r : Int)
        have CMPW : Cmp X Y (up X2 i 0) (up Y2 i (r : Int)) n r (d + 1) := fun m => by
          by_cases e : m = i
          · subst e
            rw [up_self, up_self]
            exact .inr ⟨d + 1, Nat.le_refl _, HCH0.out, rfl, rfl⟩
          · rw [up_ne _ _ e, up_ne _ _ e]
            exact (HCM.out m).imp id (fun ⟨d', h1, h2⟩ => ⟨d', by omega, h2⟩)
        have FGW : Fg g w V := by
          rw [hV]
          exact ((HALL.out.2.2.2.trans (Fg.below (below_drewN (Below.refl W.heap.size W) nq))).trans (Fg.set _ _ _)).trans (Fg.set _ _ _)
        have ROWR : Row V (w.heap.size + 1 + 1) 50 [.int .u32 0, .int .u32 0] := by rw [hV]; exact ((Row.drewN HALL.out.2.2.1 nq).far hrg _).far hrg _
        have ROWP : Row V p 50 [.int .u32 0, .int .u32 (r : Int)] := by rw [hV]; exact ((Row.drewN HALL.out.2.1 nq).far hpg _).far hpg _
        have y0 := ROWP.at_ (i := 0) rfl
        have y1 := ROWP.at_ (i := 1) rfl
        have y2 := ROWR.at_ (i := 0) rfl
        have y3 := ROWR.at_ (i := 1) rfl
        have y4 := ROWR.frozen 0
        have y5 := ROWR.frozen 1
        clear hn0 ROWP r0 r1 r2 r3
        rw [hV] at y0 y1 y2 y3 y4 y5
        obtain ⟨W9, hW9⟩ : ∃ x, x = ((V).setCell ⟨w.heap.size + 1 + 1, 0, none⟩ (.int .u32 0)).setCell ⟨w.heap.size + 1 + 1, 1, none⟩ (.int .u32 (r : Int)) := ⟨_, rfl⟩
        have hg9 : W9.cell? ⟨w.heap.size + 1 + 1, 0, none⟩ = some (.int .u32 0) ∧ W9.cell? ⟨w.heap.size + 1 + 1, 1, none⟩ = some (.int .u32 (r : Int)) := by
          have h9 := (ROWR.set 0 (.int .u32 0)).set 1 (.int .u32 (r : Int))
          rw [← hW9] at h9
          exact ⟨h9.at_ (i := 0) rfl, h9.at_ (i := 1) rfl⟩
        have HFIN := Lib.hid (show Fo w g n X Y K r (d + 1) (.returned (.agg #[.int .u32 0, .int .u32 (r : Int)])) W9 from ⟨rfl, (up X2 i 0), (up Y2 i (r : Int)), by rw [hW9]; exact sy_far (sy_far SYW (by show g ≠ w.heap.size + 1 + 1; omega) _) (by show g ≠ w.heap.size + 1 + 1; omega) _, CMPW, by rw [hW9]; exact (FGW.setNew (by show w.heap.size ≤ w.heap.size + 1 + 1; omega) _).setNew (by show w.heap.size ≤ w.heap.size + 1 + 1; omega) _⟩)
        have z0 := hg9.1
        have z1 := hg9.2
        clear hg9 SYW CMPW FGW ROWR
        rw [hV] at hW9
        go_wp2_with fail
        rw [← hW9]
        clear hW9
        exact bodyPost_ret (v := .agg #[.int .u32 0, .int .u32 (r : Int)]) (by simp [results, Tryd.results29, go_sem, z0, z1]) rfl HFIN.out

end Go.Proofs.YtnjjenellkpkaaaDoor.TeF
