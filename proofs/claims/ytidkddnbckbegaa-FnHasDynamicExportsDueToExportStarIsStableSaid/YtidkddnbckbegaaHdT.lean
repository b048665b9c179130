/- FnHasDynamicExportsDueToExportStarIsStable: words for the builder. -/
import Derived.Test.YtidkddnbckbegaaRows
import Derived.Test.YtidkddnbckbegaaMem
import Derived.Test.YtidkddnbckbegaaSl
import Derived.Test.YtidkddnbckbegaaHdS
import Derived.Carry
import Derived.Deep.MidRow
import Derived.WalkKit
import Derived.ProofKit
import Derived.OpenShut
import Derived.Below
import Derived.WalkLawsBesides
import Derived.Lib.Hide
import Derived.Outline
import Derived.RegionTactic
import Derived.Deep.QuietTactic
import Derived.BigQuiet
import Derived.WalkSpells
import Derived.Deep.OwnRows
import Derived.IntWalk
import Derived.Deep.DeepMust
namespace Go.Proofs.Ytidkddnbckbegaa.HdT
open Go.RowKit Mem Sl
set_option linter.unusedVariables false
open Args Fvs Fxs HdP HdA HdC HdS MapK Go.Maps

noncomputable def z101 : Value := ((Try.prog.info? 101).bind (·.zero)).getD undef
theorem info101 : (Try.prog.info? 101).map (fun i => (i.zero, i.size, decide (i.bytes ≤ 1000))) = some (some z101, 15, true) := by kernel_rfl
noncomputable def z123 : Value := ((Try.prog.info? 123).bind (·.zero)).getD undef
theorem info123 : (Try.prog.info? 123).map (fun i => (i.zero, i.size, decide (i.bytes ≤ 1000))) = some (some z123, 24, true) := by kernel_rfl
theorem z101_at : z101.cells.size = 15 ∧ z101.cells[10]? = some (.int .u32 0) := ⟨by kernel_rfl, by kernel_rfl⟩
theorem z123_at : z123.cells.size = 24 := by kernel_rfl
theorem info84 : (Try.prog.info? 84).map (fun i => (i.zero, i.size, i.bytes)) = some (some (.pointer none), 1, 8) := by kernel_rfl
theorem info23 : (Try.prog.info? 23).map (fun i => (i.zero, i.size, i.bytes)) = some (some (.int .u32 0), 1, 4) := by kernel_rfl
theorem run_make_wide {P : Program} (t e : TypeId) (z : Value) (size : Nat) (cs : Array Value) (ht : P.underlying t = some (.slice e)) (hinfo : (P.info? e).map (fun i => (i.zero, i.size, decide (i.bytes ≤ 1000))) = some (some z, size, true)) (hz1 : z.cells = cs)
    (kl kc : IntKind) (n : Nat) (hn : n ≤ 1048576) (w : World) :
    (Instr.makeSlice t (.int kl (n : Int)) (.int kc (n : Int))).run P w = .ok (.slice (some ⟨w.heap.size, 0, none⟩) n n) (w.alloc (.cells (madeCells cs (n * size)) e)) := by
  obtain ⟨i, hi, hzz⟩ := Option.map_eq_some_iff.1 hinfo
  simp only [Prod.mk.injEq, decide_eq_true_eq] at hzz
  obtain ⟨hz, hs, hb⟩ := hzz
  have hb' : (i.bytes : Int) * (n : Int) ≤ 281474976710656 := by
    have h1 : i.bytes * n ≤ 1000 * 1048576 := Nat.mul_le_mul hb hn
    have h : ((i.bytes * n : Nat) : Int) ≤ 281474976710656 := by omega
    rwa [Int.natCast_mul] at h
  have hr := run_make (P := P) w t e i z ht hi hz kl kc n n (by omega) (Int.le_refl _) hb' (by omega)
  simp only [Int.toNat_natCast, hs, hz1] at hr
  exact hr
theorem made_wide (w : World) (t : TypeId) (cs : Array Value) (n s : Nat) (hs : cs.size = s) {j : Nat} {v : Value} (hj : cs[j]? = some v) (k : Nat) (hk : k < n) : (w.alloc (.cells (madeCells cs (n * s)) t)).cell? ⟨w.heap.size, k * s + j, none⟩ = some v := by
  have hrow := Row.newArr w t (madeCells cs (n * s))
  have hjs : j < s := by rw [← hs]; exact (Array.getElem?_eq_some_iff.1 hj).1
  rw [hrow.cell]
  have hlt : k * s + j < n * s := by
    have : (k + 1) * s ≤ n * s := Nat.mul_le_mul_right _ hk
    rw [Nat.add_mul, Nat.one_mul] at this
    omega
  have hm : (k * s + j) % s = j := by rw [Nat.add_comm, Nat.add_mul_mod_self_right, Nat.mod_eq_of_lt hjs]
  simp [madeCells, hlt, hs, hm, getElem!_def, hj]
theorem made_there (w : World) (t : TypeId) (cs : Array Value) (n : Nat) : (w.alloc (.cells (madeCells cs n) t)).there w.heap.size 0 n := by
  have hrow := Row.newArr w t (madeCells cs n)
  intro j hj
  rw [Nat.zero_add]
  refine ⟨?_, hrow.frozen j⟩
  rw [hrow.cell]
  simp [madeCells, hj]
theorem setCells_block (b : Nat) : ∀ (vs : List Value) (o : Nat) (w : World) (g : Nat), g ≠ b → (w.setCells b o vs).heap[g]? = w.heap[g]?
  | [], _, _, _, _ => rfl
  | v :: vs, o, w, g, h => by
    rw [World.setCells, setCells_block b vs (o + 1) _ g h]
    exact Below.heap_setCell w ⟨b, o, none⟩ v g h
theorem setCells_meta (b : Nat) : ∀ (vs : List Value) (o : Nat) (w : World), (w.setCells b o vs).heap.size = w.heap.size ∧ (w.setCells b o vs).os = w.os ∧ (w.setCells b o vs).tape = w.tape ∧ (w.setCells b o vs).output = w.output
  | [], _, _ => ⟨rfl, rfl, rfl, rfl⟩
  | v :: vs, o, w => by
    rw [World.setCells]
    obtain ⟨h1, h2, h3, h4⟩ := setCells_meta b vs (o + 1) (w.setCell ⟨b, o, none⟩ v)
    exact ⟨by rw [h1]; simp, by rw [h2]; rfl, by rw [h3]; rfl, by rw [h4]; rfl⟩
theorem below_setCells {B b o : Nat} {w w' : World} {vs : List Value} (h : Below B w w') (hb : B ≤ b) : Below B w (w'.setCells b o vs) := by
  obtain ⟨h1, h2, h3, h4⟩ := setCells_meta b vs o w'
  exact ⟨h2.trans h.os, h3.trans h.tape, h4.trans h.output, by rw [h1]; exact h.size, fun j hj => (setCells_block b vs o w' j (by omega)).trans (h.block j hj)⟩
theorem there_below {w w' : World} {b o n B : Nat} (h : w.there b o n) (hb : Below B w w') (hB : b < B) : w'.there b o n := fun j hj => by
  obtain ⟨h1, h2⟩ := h j hj
  exact ⟨by rw [hb.cell (p := ⟨b, o + j, none⟩) hB]; exact h1, by rw [hb.frozen (p := ⟨b, o + j, none⟩) hB]; exact h2⟩
theorem there_set {w : World} {b o n : Nat} (h : w.there b o n) (p : Addr) (hp : b ≠ p.block) (u : Value) : (w.setCell p u).there b o n := fun j hj => by
  obtain ⟨h1, h2⟩ := h j hj
  have hb := Below.heap_setCell w p u b hp
  exact ⟨by rw [← h1]; simp [World.cell?, hb], by rw [← h2]; simp [World.frozen?, hb]⟩
/-- The first m files. -/
structure Gf (m : Nat) (Z : Nat → List Int) (R rc ix : Nat → Nat) (F : Nat) (w : World) : Prop where
  f2 : ∀ i, i < m → w.cell? ⟨F, i * 24 + 2, none⟩ = some (.iface 84 (.pointer (some ⟨R i, 0, none⟩)))
  f22 : ∀ i, i < m → w.cell? ⟨F, i * 24 + 22, none⟩ = some (.int .u8 0)
  r35 : ∀ i, i < m → w.cell? ⟨R i, 35, none⟩ = some (.slice (some ⟨rc i, 0, none⟩) (Z i).length (Z i).length)
  r38 : ∀ i, i < m → w.cell? ⟨R i, 38, none⟩ = some (.slice (some ⟨ix i, 0, none⟩) (Z i).length (Z i).length)
  rcd : ∀ i, i < m → ∀ j, j < (Z i).length → w.cell? ⟨rc i, j * 15 + 10, none⟩ = some (.int .u32 (flip ((Z i).getD j 0)))
  ixd : ∀ i, i < m → ∀ j : Nat, j < (Z i).length → w.cell? ⟨ix i, j, none⟩ = some (.int .u32 (j : Int))
  ks : ∀ i, i < m → (w.cell? ⟨R i, 62, none⟩).isSome = true
theorem Gf.gs {n : Nat} {Z : Nat → List Int} {R rc ix : Nat → Nat} {F c : Nat} {w : World} (h : Gf n Z R rc ix F w) (hc : w.cell? ⟨c, 10, none⟩ = some (.slice (some ⟨F, 0, none⟩) n n)) : Gs n Z R rc ix F c w := ⟨hc, h.f2, h.f22, h.r35, h.r38, h.rcd, h.ixd⟩
/-- Where the blocks lie. -/
structure Bo (m : Nat) (R rc ix : Nat → Nat) (B : Nat) (w : World) : Prop where
  at_ : ∀ i, i < m → B + 2 ≤ R i ∧ R i < rc i ∧ rc i < ix i ∧ ix i < w.heap.size
  up_ : ∀ i j, i < j → j < m → ix i < R j
/-- A file that is being built: r, its records and its list; the first j stars are in. -/
structure Nf (κ : Int) (zs : List Int) (r : Nat) (j : Nat) (w0 wq : World) : Prop where
  fr : Fv wq r 64 (up (fun i => (c83[i]?).getD undef) 62 (.int .u8 κ))
  rcd : ∀ i, i < zs.length → wq.cell? ⟨r + 1, i * 15 + 10, none⟩ = some (.int .u32 (if i < j then flip (zs.getD i 0) else 0))
  rfz : ∀ o, wq.frozen? ⟨r + 1, o, none⟩ = false
  ixd : Fv wq (r + 2) zs.length (upto (fun i => .int .u32 (i : Int)) (.int .u32 0) j)
  bel : Below w0.heap.size w0 wq
  hr : r = w0.heap.size
/-- Before file k. -/
structure Lb (n k : Nat) (K : Nat → Int) (Z : Nat → List Int) (R rc ix : Nat → Nat) (w wr : World) : Prop where
  pr : Fv wr w.heap.size n (upto (fun i => .pointer (some ⟨R i, 0, none⟩)) (.pointer none) k)
  th : wr.there (w.heap.size + 1) 0 (n * 24)
  gf : Gf k Z R rc ix (w.heap.size + 1) wr
  ks : Ks k K R wr
  bo : Bo k R rc ix w.heap.size wr
  bel : Below w.heap.size w wr
  sz : w.heap.size + 2 ≤ wr.heap.size
section
variable {n k m r j : Nat} {K : Nat → Int} {Z : Nat → List Int} {R rc ix : Nat → Nat} {F : Nat} {w wr wq w0 w1 w' : World} {κ : Int} {zs : List Int}
theorem Gf.of_cells (h : Gf m Z R rc ix F w) (e : ∀ b o v, w.cell? ⟨b, o, none⟩ = some v → ((b = F ∧ o < m * 24) ∨ (∃ i, i < m ∧ (b = rc i ∨ b = ix i ∨ b = R i))) → w'.cell? ⟨b, o, none⟩ = some v) : Gf m Z R rc ix F w' :=
  ⟨fun i hi => e _ _ _ (h.f2 i hi) (.inl ⟨rfl, by omega⟩), fun i hi => e _ _ _ (h.f22 i hi) (.inl ⟨rfl, by omega⟩), fun i hi => e _ _ _ (h.r35 i hi) (.inr ⟨i, hi, .inr (.inr rfl)⟩),
    fun i hi => e _ _ _ (h.r38 i hi) (.inr ⟨i, hi, .inr (.inr rfl)⟩), fun i hi j hj => e _ _ _ (h.rcd i hi j hj) (.inr ⟨i, hi, .inl rfl⟩), fun i hi j hj => e _ _ _ (h.ixd i hi j hj) (.inr ⟨i, hi, .inr (.inl rfl)⟩),
    fun i hi => by obtain ⟨v, hv⟩ := Option.isSome_iff_exists.1 (h.ks i hi); rw [e _ _ _ hv (.inr ⟨i, hi, .inr (.inr rfl)⟩)]; rfl⟩
theorem lb_start (hn : n ≤ 1048576) : Lb n 0 K Z R rc ix w ((w.alloc (.cells (madeCells #[.pointer none] n) 84)).alloc (.cells (madeCells z123.cells (n * 24)) 123)) := by
  have f1 := fv_made w 84 (.pointer none) n
  have b1 : Below w.heap.size w (w.alloc (.cells (madeCells #[.pointer none] n) 84)) := (Below.refl _ _).alloc (Nat.le_refl _) _
  have t1 := made_there (w.alloc (.cells (madeCells #[.pointer none] n) 84)) 123 z123.cells (n * 24)
  simp only [World.size_alloc] at t1
  have b2 : Below (w.heap.size + 1) (w.alloc (.cells (madeCells #[.pointer none] n) 84)) ((w.alloc (.cells (madeCells #[.pointer none] n) 84)).alloc (.cells (madeCells z123.cells (n * 24)) 123)) := (Below.refl _ _).alloc (by simp) _
  exact ⟨(f1.below b2 (Nat.lt_succ_self _)).congr (fun i hi => by simp [upto]), t1, ⟨fun i hi => absurd hi (Nat.not_lt_zero i), fun i hi => absurd hi (Nat.not_lt_zero i), fun i hi => absurd hi (Nat.not_lt_zero i), fun i hi => absurd hi (Nat.not_lt_zero i), fun i hi => absurd hi (Nat.not_lt_zero i), fun i hi => absurd hi (Nat.not_lt_zero i), fun i hi => absurd hi (Nat.not_lt_zero i)⟩,
    ⟨fun i hi => absurd hi (Nat.not_lt_zero i), fun i hi => absurd hi (Nat.not_lt_zero i)⟩, ⟨fun i hi => absurd hi (Nat.not_lt_zero i), fun i j _ hj => absurd hj (Nat.not_lt_zero j)⟩, b1.trans (b2.mono (by omega)), by simp⟩
theorem fv_alloc {g n : Nat} {V : Nat → Value} (h : Fv w g n V) (o : Obj) : Fv (w.alloc o) g n V := h.below ((Below.refl (g + 1) w).alloc h.lt o) (Nat.lt_succ_self g)
theorem nf_start (hz : w1 = (w0.alloc (.cells c83 83)).setCell ⟨w0.heap.size, 62, none⟩ (.int .u8 κ)) : Nf κ zs w0.heap.size 0 w0 ((w1.alloc (.cells (madeCells z101.cells (zs.length * 15)) 101)).alloc (.cells (madeCells #[.int .u32 0] zs.length) 23)) := by
  have b1 : Below w0.heap.size w0 w1 := by rw [hz]; exact ((Below.refl _ _).alloc (Nat.le_refl _) _).setCell (p := ⟨w0.heap.size, 62, none⟩) (Nat.le_refl _) _
  have s1 : w1.heap.size = w0.heap.size + 1 := by rw [hz]; simp
  have f1 : Fv w1 w0.heap.size 64 (up (fun i => (c83[i]?).getD undef) 62 (.int .u8 κ)) := by rw [hz]; exact (made83 w0).set (show 62 < 64 by decide) _
  have b2 : Below w1.heap.size w1 ((w1.alloc (.cells (madeCells z101.cells (zs.length * 15)) 101)).alloc (.cells (madeCells #[.int .u32 0] zs.length) 23)) := ((Below.refl _ _).alloc (Nat.le_refl _) _).alloc (by simp) _
  have b3 : Below (w1.heap.size + 1) (w1.alloc (.cells (madeCells z101.cells (zs.length * 15)) 101)) ((w1.alloc (.cells (madeCells z101.cells (zs.length * 15)) 101)).alloc (.cells (madeCells #[.int .u32 0] zs.length) 23)) := (Below.refl _ _).alloc (by simp) _
  have f2 := fv_made (w1.alloc (.cells (madeCells z101.cells (zs.length * 15)) 101)) 23 (.int .u32 0) zs.length
  simp only [World.size_alloc, s1] at f2
  refine ⟨f1.below b2 (by rw [s1]; omega), fun i hi => ?_, fun o => ?_, f2.congr (fun i hi => by simp [upto]), b1.trans (b2.mono (by rw [s1]; omega)), rfl⟩
  · have h := made_wide w1 101 z101.cells zs.length 15 z101_at.1 z101_at.2 i hi
    rw [s1] at h b3
    rw [if_neg (Nat.not_lt_zero i)]
    exact (b3.cell (p := ⟨w0.heap.size + 1, i * 15 + 10, none⟩) (Nat.lt_succ_self _)).trans h
  · have h := (Row.newArr w1 101 (madeCells z101.cells (zs.length * 15))).frozen o
    rw [s1] at h b3
    exact (b3.frozen (p := ⟨w0.heap.size + 1, o, none⟩) (Nat.lt_succ_self _)).trans h
/-- A star inside. -/
theorem nf_in (h : Nf κ zs r j w0 wq) (hj : j < zs.length) (hneg : ¬ zs.getD j 0 < 0) (hb : Below (wq.setCell ⟨r + 2, j, none⟩ (.int .u32 (j : Int))).heap.size (wq.setCell ⟨r + 2, j, none⟩ (.int .u32 (j : Int))) w') :
    Nf κ zs r (j + 1) w0 (w'.setCell ⟨r + 1, j * 15 + 10, none⟩ (.int .u32 (4294967295 - zs.getD j 0))) := by
  have h1 := h.ixd.set hj (.int .u32 (j : Int))
  have hr := h.hr
  have hl := h.ixd.lt
  have hc : ∀ o, (wq.setCell ⟨r + 2, j, none⟩ (.int .u32 (j : Int))).cell? ⟨r + 1, o, none⟩ = wq.cell? ⟨r + 1, o, none⟩ := fun o => World.cell?_of_block (a := ⟨r + 1, o, none⟩) (Below.heap_setCell _ _ _ _ (by show r + 1 ≠ r + 2; omega))
  have hb1 : r + 1 < (wq.setCell ⟨r + 2, j, none⟩ (.int .u32 (j : Int))).heap.size := by simp; omega
  have hc2 : ∀ o, w'.cell? ⟨r + 1, o, none⟩ = wq.cell? ⟨r + 1, o, none⟩ := fun o => (hb.cell (p := ⟨r + 1, o, none⟩) hb1).trans (hc o)
  refine ⟨?_, fun i hi => ?_, fun o => ?_, ?_, ?_, h.hr⟩
  · exact Fv.far (Fv.below (Fv.far h.fr (by show r ≠ r + 2; omega) _) hb (by simp; omega)) (by show r ≠ r + 1; omega) _
  · by_cases e : i = j
    · subst e
      rw [if_pos (Nat.lt_succ_self i)]
      unfold HdA.flip
      rw [if_neg hneg]
      exact cell_self _ (by rw [hc2, h.rcd i hi]; rfl)
    · rw [World.cell?_setCell_other _ _ _ _ (by intro hh; injection hh with _ hh _; omega), hc2, h.rcd i hi]
      have : (i < j + 1) = (i < j) := by apply propext; omega
      simp only [this]
  · refine frozen_set _ _ _ _ _ ?_
    rw [hb.frozen (p := ⟨r + 1, o, none⟩) hb1]
    exact frozen_set _ _ _ _ _ (h.rfz o)
  · exact (Fv.far (h1.below hb (by simp; omega)) (by show r + 2 ≠ r + 1; omega) _).congr (fun i hi => upto_step _ _ _ _)
  · refine Below.setCell (h.bel.trans ?_) (p := ⟨r + 1, j * 15 + 10, none⟩) (by show w0.heap.size ≤ r + 1; omega) _
    exact ((Below.refl _ _).setCell (p := ⟨r + 2, j, none⟩) (by show w0.heap.size ≤ r + 2; omega) _).trans (hb.mono (by simp; omega))
/-- A star outside. -/
theorem nf_out (h : Nf κ zs r j w0 wq) (hj : j < zs.length) (hneg : zs.getD j 0 < 0) : Nf κ zs r (j + 1) w0 (wq.setCell ⟨r + 2, j, none⟩ (.int .u32 (j : Int))) := by
  have h1 := h.ixd.set hj (.int .u32 (j : Int))
  have hr := h.hr
  have hc : ∀ o, (wq.setCell ⟨r + 2, j, none⟩ (.int .u32 (j : Int))).cell? ⟨r + 1, o, none⟩ = wq.cell? ⟨r + 1, o, none⟩ := fun o => World.cell?_of_block (a := ⟨r + 1, o, none⟩) (Below.heap_setCell _ _ _ _ (by show r + 1 ≠ r + 2; omega))
  refine ⟨Fv.far h.fr (by show r ≠ r + 2; omega) _, fun i hi => ?_, fun o => frozen_set _ _ _ _ _ (h.rfz o), h1.congr (fun i hi => upto_step _ _ _ _), h.bel.setCell (p := ⟨r + 2, j, none⟩) (by show w0.heap.size ≤ r + 2; omega) _, h.hr⟩
  rw [hc, h.rcd i hi]
  by_cases e : i = j
  · subst e
    rw [if_neg (Nat.lt_irrefl i), if_pos (Nat.lt_succ_self i)]
    unfold HdA.flip
    rw [if_pos hneg]
  · have : (i < j + 1) = (i < j) := by apply propext; omega
    simp only [this]
/-- The world once the pointers are in. -/
def wset (r kk P k : Nat) (wq : World) : World := ((wq.setCell ⟨r, 35, none⟩ (.slice (some ⟨r + 1, 0, none⟩) kk kk)).setCell ⟨r, 38, none⟩ (.slice (some ⟨r + 2, 0, none⟩) kk kk)).setCell ⟨P, k, none⟩ (.pointer (some ⟨r, 0, none⟩))
theorem lb_next (h : Lb n k K Z R rc ix w wr) (hk : k < n) (hq : Nf (K k) (Z k) r (Z k).length wr wq) (hb : Below (wset r (Z k).length w.heap.size k wq).heap.size (wset r (Z k).length w.heap.size k wq) w') :
    Lb n (k + 1) K Z (up R k r) (up rc k (r + 1)) (up ix k (r + 2)) w (w'.setCells (w.heap.size + 1) (k * 24) (c123 r).toList) := by
  have hr := hq.hr
  have hl := hq.ixd.lt
  have hsz := h.sz
  have fr1 := (hq.fr.set (show 35 < 64 by decide) (.slice (some ⟨r + 1, 0, none⟩) (Z k).length (Z k).length)).set (show 38 < 64 by decide) (.slice (some ⟨r + 2, 0, none⟩) (Z k).length (Z k).length)
  have fr2 := fr1.far (p := ⟨w.heap.size, k, none⟩) (by show r ≠ w.heap.size; omega) (.pointer (some ⟨r, 0, none⟩))
  have zs : (wset r (Z k).length w.heap.size k wq).heap.size = wq.heap.size := by unfold wset; simp
  have fr3 := fr2.below hb (by rw [zs]; omega)
  obtain ⟨q2, q22, qs, _⟩ := c123_at r
  have th1 : (wset r (Z k).length w.heap.size k wq).there (w.heap.size + 1) 0 (n * 24) := there_set (there_set (there_set (there_below h.th hq.bel (by omega)) _ (by show w.heap.size + 1 ≠ r; omega) _) _ (by show w.heap.size + 1 ≠ r; omega) _) _ (by show w.heap.size + 1 ≠ w.heap.size; omega) _
  have th2 := there_below th1 hb (by rw [zs]; omega)
  have thk : ∀ i, i < (c123 r).toList.length → (w'.cell? ⟨w.heap.size + 1, k * 24 + i, none⟩).isSome = true := fun i hi => by
    have := (th2 (k * 24 + i) (by simp [qs] at hi; omega)).1
    rwa [Nat.zero_add] at this
  -- an old cell
  have old : ∀ b o, b < wr.heap.size → b ≠ w.heap.size → (b = w.heap.size + 1 → o < k * 24) → (w'.setCells (w.heap.size + 1) (k * 24) (c123 r).toList).cell? ⟨b, o, none⟩ = wr.cell? ⟨b, o, none⟩ := fun b o hlt h1 h2 => by
    rw [World.cell?_setCells_out _ _ _ _ _ (fun e _ => .inl (h2 e)), hb.cell (p := ⟨b, o, none⟩) (by rw [zs]; have := hq.bel.size; show b < _; omega)]
    unfold wset
    rw [World.cell?_of_block (a := ⟨b, o, none⟩) (Below.heap_setCell _ _ _ _ (by exact h1)), World.cell?_of_block (a := ⟨b, o, none⟩) (Below.heap_setCell _ _ _ _ (by show b ≠ r; omega)), World.cell?_of_block (a := ⟨b, o, none⟩) (Below.heap_setCell _ _ _ _ (by show b ≠ r; omega))]
    exact hq.bel.cell (p := ⟨b, o, none⟩) hlt
  -- a new cell
  have new : ∀ b o, b = r ∨ b = r + 1 ∨ b = r + 2 → (w'.setCells (w.heap.size + 1) (k * 24) (c123 r).toList).cell? ⟨b, o, none⟩ = (wset r (Z k).length w.heap.size k wq).cell? ⟨b, o, none⟩ := fun b o hbr => by
    rw [World.cell?_setCells_out _ _ _ _ _ (fun e _ => by have e' : b = w.heap.size + 1 := e; omega), hb.cell (p := ⟨b, o, none⟩) (by rw [zs]; show b < _; omega)]
  have new2 : ∀ b o, b = r + 1 ∨ b = r + 2 → (wset r (Z k).length w.heap.size k wq).cell? ⟨b, o, none⟩ = wq.cell? ⟨b, o, none⟩ := fun b o hbr => by
    unfold wset
    rw [World.cell?_of_block (a := ⟨b, o, none⟩) (Below.heap_setCell _ _ _ _ (by show b ≠ w.heap.size; omega)), World.cell?_of_block (a := ⟨b, o, none⟩) (Below.heap_setCell _ _ _ _ (by show b ≠ r; omega)), World.cell?_of_block (a := ⟨b, o, none⟩) (Below.heap_setCell _ _ _ _ (by show b ≠ r; omega))]
  have hin : ∀ i v, (c123 r).toList[i]? = some v → (w'.setCells (w.heap.size + 1) (k * 24) (c123 r).toList).cell? ⟨w.heap.size + 1, k * 24 + i, none⟩ = some v := fun i v hv => by
    have hi := (List.getElem?_eq_some_iff.1 hv).1
    rw [World.cell?_setCells_in _ _ _ _ thk i hi, ← hv, List.getElem?_eq_getElem hi]
  have bnd : ∀ i, i < k → R i < wr.heap.size ∧ rc i < wr.heap.size ∧ ix i < wr.heap.size ∧ w.heap.size + 2 ≤ R i ∧ w.heap.size + 2 ≤ rc i ∧ w.heap.size + 2 ≤ ix i := fun i hi => by have := h.bo.at_ i hi; omega
  have oldf : ∀ i o, i < k → (w'.setCells (w.heap.size + 1) (k * 24) (c123 r).toList).frozen? ⟨R i, o, none⟩ = wr.frozen? ⟨R i, o, none⟩ := fun i o hi => by
    have b := bnd i hi
    rw [World.frozen?_setCells, hb.frozen (p := ⟨R i, o, none⟩) (by rw [zs]; have := hq.bel.size; show R i < _; omega)]
    have e1 : ∀ (W : World) (g x : Nat) (u : Value), R i ≠ g → (W.setCell ⟨g, x, none⟩ u).frozen? ⟨R i, o, none⟩ = W.frozen? ⟨R i, o, none⟩ := fun W g x u hg => by simp [World.frozen?, Below.heap_setCell W ⟨g, x, none⟩ u (R i) hg]
    unfold wset
    rw [e1 _ _ _ _ (by omega), e1 _ _ _ _ (by omega), e1 _ _ _ _ (by omega)]
    exact hq.bel.frozen (p := ⟨R i, o, none⟩) b.1
  have g0 : Gf k Z R rc ix (w.heap.size + 1) (w'.setCells (w.heap.size + 1) (k * 24) (c123 r).toList) := h.gf.of_cells fun b o v hv hc => by
    rw [old b o (cell_lt hv) (by
      rcases hc with ⟨rfl, _⟩ | ⟨i, hi, rfl | rfl | rfl⟩
      · omega
      · have := bnd i hi; omega
      · have := bnd i hi; omega
      · have := bnd i hi; omega) (fun e => by
      rcases hc with ⟨_, ho⟩ | ⟨i, hi, hh⟩
      · exact ho
      · have := bnd i hi; omega)]
    exact hv
  have hup : ∀ {α : Type} (f : Nat → α) (x : α) i, i < k + 1 → i ≠ k → up f k x i = f i := fun f x i _ e => up_ne f x e
  refine ⟨?_, (fun i hi => by rw [World.frozen?_setCells]; exact ⟨World.isSome_setCells _ _ _ _ _ (th2 i hi).1, (th2 i hi).2⟩), ⟨fun i hi => ?_, fun i hi => ?_, fun i hi => ?_, fun i hi => ?_, fun i hi j hj => ?_, fun i hi j hj => ?_, fun i hi => ?_⟩, ⟨fun i hi => ?_, fun i hi => ?_⟩, ⟨fun i hi => ?_, fun i j hij hj => ?_⟩, ?_, ?_⟩
  · have p1 := h.pr.below hq.bel (by omega)
    have p2 := Fv.set (Fv.far (Fv.far p1 (p := ⟨r, 35, none⟩) (by show w.heap.size ≠ r; omega) (.slice (some ⟨r + 1, 0, none⟩) (Z k).length (Z k).length)) (p := ⟨r, 38, none⟩) (by show w.heap.size ≠ r; omega) (.slice (some ⟨r + 2, 0, none⟩) (Z k).length (Z k).length)) hk (.pointer (some ⟨r, 0, none⟩))
    have p3 := p2.below hb (by rw [zs]; omega)
    refine ⟨by rw [(setCells_meta _ _ _ _).1]; exact p3.lt, fun i hi => ?_, fun i => by rw [World.frozen?_setCells]; exact p3.frozen i⟩
    rw [World.cell?_setCells_out _ _ _ _ _ (fun e _ => by have e' : w.heap.size = w.heap.size + 1 := e; omega), p3.cell i hi]
    unfold up upto
    by_cases e : i = k
    · subst e; simp
    · have : (i < k + 1) = (i < k) := by apply propext; omega
      simp [e, this]
  · by_cases e : i = k
    · subst e; rw [up_self]; exact hin 2 _ q2
    · rw [up_ne _ _ e]; exact g0.f2 i (by omega)
  · by_cases e : i = k
    · subst e; exact hin 22 _ q22
    · exact g0.f22 i (by omega)
  · by_cases e : i = k
    · subst e; rw [up_self, up_self, new r 35 (.inl rfl)]; exact fr2.at_ (by decide) (by rw [up_ne _ _ (by decide), up_self])
    · rw [up_ne _ _ e, up_ne _ _ e]; exact g0.r35 i (by omega)
  · by_cases e : i = k
    · subst e; rw [up_self, up_self, new r 38 (.inl rfl)]; exact fr2.at_ (by decide) (by rw [up_self])
    · rw [up_ne _ _ e, up_ne _ _ e]; exact g0.r38 i (by omega)
  · by_cases e : i = k
    · subst e; rw [up_self, new (r + 1) _ (.inr (.inl rfl)), new2 (r + 1) _ (.inl rfl), hq.rcd j hj, if_pos hj]
    · rw [up_ne _ _ e]; exact g0.rcd i (by omega) j hj
  · by_cases e : i = k
    · subst e; rw [up_self, new (r + 2) _ (.inr (.inr rfl)), new2 (r + 2) _ (.inr rfl)]; exact hq.ixd.at_ hj (if_pos hj)
    · rw [up_ne _ _ e]; exact g0.ixd i (by omega) j hj
  · by_cases e : i = k
    · subst e; rw [up_self, new r 62 (.inl rfl)]; exact Option.isSome_iff_exists.2 ⟨_, fr2.at_ (i := 62) (by decide) (by rw [up_ne _ _ (by decide), up_ne _ _ (by decide), up_self])⟩
    · rw [up_ne _ _ e]; exact g0.ks i (by omega)
  · by_cases e : i = k
    · subst e; rw [up_self, new r 62 (.inl rfl)]; exact fr2.at_ (i := 62) (by decide) (by rw [up_ne _ _ (by decide), up_ne _ _ (by decide), up_self])
    · rw [up_ne _ _ e, old _ _ (bnd i (by omega)).1 (by have := bnd i (by omega); omega) (fun hh => by have := bnd i (by omega); omega)]; exact h.ks.cell i (by omega)
  · by_cases e : i = k
    · subst e; rw [up_self, World.frozen?_setCells]; exact fr3.frozen 62
    · rw [up_ne _ _ e, oldf i 62 (by omega)]; exact h.ks.fz i (by omega)
  · have z1 := hb.size
    rw [(setCells_meta _ _ _ _).1]
    by_cases e : i = k
    · subst e; rw [up_self, up_self, up_self]; omega
    · rw [up_ne _ _ e, up_ne _ _ e, up_ne _ _ e]; have := h.bo.at_ i (by omega); have := hq.bel.size; omega
  · by_cases e : j = k
    · subst e; rw [up_self, up_ne _ _ (by omega)]; have := h.bo.at_ i (by omega); omega
    · rw [up_ne _ _ e, up_ne _ _ (by omega)]; exact h.bo.up_ i j hij (by omega)
  · refine below_setCells ?_ (by omega)
    have c1 : Below w.heap.size w (wset r (Z k).length w.heap.size k wq) := by
      unfold wset
      exact (((h.bel.trans (hq.bel.mono (by omega))).setCell (p := ⟨r, 35, none⟩) (by show w.heap.size ≤ r; omega) _).setCell (p := ⟨r, 38, none⟩) (by show w.heap.size ≤ r; omega) _).setCell (p := ⟨w.heap.size, k, none⟩) (Nat.le_refl _) _
    exact c1.trans (hb.mono (by rw [zs]; omega))
  · have z1 := hb.size
    rw [(setCells_meta _ _ _ _).1]
    omega
/-- What the builder gives. -/
def Bl (n : Nat) (K : Nat → Int) (Z : Nat → List Int) (w : World) (e : Ending) (w' : World) : Prop :=
  ∃ R rc ix, e = .returned (.tuple #[.slice (some ⟨w.heap.size, 0, none⟩) n n, .slice (some ⟨w.heap.size + 1, 0, none⟩) n n]) ∧ Lb n n K Z R rc ix w w'
end
end Go.Proofs.Ytidkddnbckbegaa.HdT
