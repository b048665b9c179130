/- FnEnforceNoCyclicChunkImportsErrsIffStaticCycle: the model, Kahn. -/
import Derived.Test.YtfljkbfacncdgaaDoorRows
import Derived.Test.YtfljkbfacncdgaaDoorMem
import Derived.Test.YtfljkbfacncdgaaDoorSl
import Derived.Test.YtfljkbfacncdgaaDoorEnA
import Derived.Test.YtfljkbfacncdgaaDoorOwn
import Derived.Test.YtfljkbfacncdgaaDoorOwg
import Derived.Deep.RegionHeld3
import Derived.Deep.RegionLaw
import Derived.Great.BuildSlice
import Derived.Lib.JoinLaws
import Derived.WalkKit
import Derived.ProofKit
import Derived.OpenShut
import Derived.Below
import Derived.WalkLawsBesides
import Derived.Lib.Hide
import Derived.Outline
import Derived.RegionTactic
import Derived.Deep.QuietTactic
import Derived.BigQuiet
import Derived.WalkSpells
import Derived.Deep.OwnRows
import Derived.IntWalk
import Derived.Deep.DeepMust
namespace Go.Proofs.YtfljkbfacncdgaaDoor.EnK
open Go.RowKit Mem Sl
set_option linter.unusedVariables false
open Args Fvs Own EnP EnQ EnR EnA

theorem info3 : (Tryd.prog.info? 3).map (fun i => (i.zero, i.size, i.bytes)) = some (some (.int .i64 0), 1, 8) := by kernel_rfl
theorem info27 : (Tryd.prog.info? 27).map (fun i => (i.zero, i.size, i.bytes)) = some (some (.int .u32 0), 1, 4) := by kernel_rfl
/-- The lengths of the followers' lists after k edges, one place up. -/
def lenU (g : Gr) (k v : Nat) : Int := if v = 0 then 0 else ((adjL g k (v - 1)).length : Nat)
theorem cntT_step {g : Gr} {k w : Nat} (hd : g.dy k = false) : ((cntT g (k + 1) w : Nat) : Int) = Fvs.up (fun w => ((cntT g k w : Nat) : Int)) (g.t k) (((cntT g k (g.t k) : Nat) : Int) + 1) w := by
  show ((cntT g k w + (if g.t k = w ∧ g.dy k = false then 1 else 0) : Nat) : Int) = _
  unfold Fvs.up
  by_cases e : w = g.t k
  · subst e; rw [if_pos ⟨rfl, hd⟩, if_pos rfl]; omega
  · rw [if_neg (fun h => e h.1.symm), if_neg e, Nat.add_zero]
theorem cntT_skip {g : Gr} {k w : Nat} (hd : g.dy k = true) : cntT g (k + 1) w = cntT g k w := by
  show cntT g k w + (if g.t k = w ∧ g.dy k = false then 1 else 0) = _
  rw [if_neg (fun h => by rw [hd] at h; exact absurd h.2 (by decide))]
  rfl
theorem adjL_skip {g : Gr} {k u : Nat} (hd : g.dy k = true) : adjL g (k + 1) u = adjL g k u := if_neg (fun h => by rw [hd] at h; exact absurd h.2 (by decide))
theorem lenU_step {g : Gr} {k v : Nat} (hd : g.dy k = false) : lenU g (k + 1) v = Fvs.up (lenU g k) (g.fr k + 1) (lenU g k (g.fr k + 1) + 1) v := by
  unfold Fvs.up lenU
  by_cases e : v = g.fr k + 1
  · subst e
    rw [if_neg (by omega), if_pos rfl, if_neg (by omega)]
    simp only [Nat.add_sub_cancel]
    rw [show adjL g (k + 1) (g.fr k) = adjL g k (g.fr k) ++ [g.t k] from if_pos ⟨rfl, hd⟩, List.length_append]
    simp
  · rw [if_neg e]
    by_cases h0 : v = 0
    · rw [if_pos h0, if_pos h0]
    · rw [if_neg h0, if_neg h0, show adjL g (k + 1) (v - 1) = adjL g k (v - 1) from if_neg (fun h => by omega)]

structure R1 (g : Gr) (n : Nat) (w : World) (b k : Nat) (wr : World) : Prop where
  ind : Fr wr b n .i64 (fun w => ((cntT g k w : Nat) : Int))
  len : Fr wr (b + 1) (n + 1) .i64 (lenU g k)
  bel : Below b w wr
  sz : wr.heap.size = b + 2
theorem R1.skip {g : Gr} {n : Nat} {w wr : World} {b k : Nat} (h : R1 g n w b k wr) (hd : g.dy k = true) : R1 g n w b (k + 1) wr :=
  ⟨h.ind.congr (fun i _ => by rw [cntT_skip hd]), h.len.congr (fun i _ => by unfold lenU; split <;> simp only [adjL_skip hd]), h.bel, h.sz⟩
theorem R1.step {g : Gr} {n : Nat} {w wr : World} {b k x y : Nat} {L C : Int} (h : R1 g n w b k wr) (hd : g.dy k = false) (hx : x = g.fr k) (hy : y = g.t k) (hL : L = lenU g k (x + 1)) (hC : C = (cntT g k y : Nat)) (hxn : x < n) (hyn : y < n) : R1 g n w b (k + 1) ((wr.setCell ⟨b + 1, x + 1, none⟩ (.int .i64 (L + 1))).setCell ⟨b, y, none⟩ (.int .i64 (C + 1))) := by
  subst hx hy hL hC
  refine ⟨?_, ?_, ?_, ?_⟩
  · have h1 : Fr (wr.setCell ⟨b + 1, g.fr k + 1, none⟩ (.int .i64 (lenU g k (g.fr k + 1) + 1))) b n .i64 _ := Fv.far h.ind (by show b ≠ b + 1; omega) _
    exact (h1.set hyn _).congr (fun i _ => (cntT_step hd).symm)
  · have h1 := h.len.set (show g.fr k + 1 < n + 1 by omega) (lenU g k (g.fr k + 1) + 1)
    exact (Fr.congr (Fv.far h1 (p := ⟨b, g.t k, none⟩) (by show b + 1 ≠ b; omega) _) (fun i _ => (lenU_step hd).symm))
  · exact (h.bel.setCell (by show b ≤ b + 1; omega) _).setCell (Nat.le_refl b) _
  · simpa using h.sz
theorem lenU_le {g : Gr} {k v : Nat} : lenU g k v ≤ k := by
  have h : ∀ k u, (adjL g k u).length ≤ k := fun k u => by
    induction k with
    | zero => exact Nat.le_refl _
    | succ k ih =>
      show (if g.fr k = u ∧ g.dy k = false then adjL g k u ++ [g.t k] else adjL g k u).length ≤ k + 1
      split
      · rw [List.length_append]; simp; omega
      · omega
  unfold lenU
  split
  · omega
  · have := h k (v - 1); omega
theorem lenU_nn {g : Gr} {k v : Nat} : 0 ≤ lenU g k v := by
  unfold lenU; split <;> omega
theorem cntT_le {g : Gr} {w : Nat} : ∀ k, cntT g k w ≤ k
  | 0 => Nat.le_refl _
  | k + 1 => by
    have ih := cntT_le (g := g) (w := w) k
    show cntT g k w + (if g.t k = w ∧ g.dy k = false then 1 else 0) ≤ k + 1
    split <;> omega
theorem rs_at {w wr : World} {A : Option Addr} {n k : Nat} {V : Nat → Value} {v : Value} (h : Rs w A n V) (hk : k < n) (hv : V k = v) {b : Nat} (hb : Below b w wr) (he : b = w.heap.size) : ∃ q o, A = some ⟨q, o, none⟩ ∧ q < b ∧ wr.cell? ⟨q, o + k, none⟩ = some v := by
  subst he
  obtain ⟨q, o, h1, h2, h3⟩ := h k hk
  exact ⟨q, o, h1, h2, by rw [← hv]; exact cell_later hb h3⟩
theorem sumLen_le {g : Gr} (v : Nat) : ∀ k, sumU (fun x => (adjL g k x).length) v ≤ k
  | 0 => by
    have : ∀ v, sumU (fun x => (adjL g 0 x).length) v = 0 := fun v => by
      induction v with
      | zero => rfl
      | succ v ih => show sumU (fun x => (adjL g 0 x).length) v + 0 = 0; rw [ih]
    rw [this]
    exact Nat.le_refl _
  | k + 1 => by
    have ih := sumLen_le (g := g) v k
    have hle : sumU (fun x => (adjL g (k + 1) x).length) v ≤ sumU (fun x => (adjL g k x).length + if x = g.fr k then 1 else 0) v := by
      have hm : ∀ (f f' : Nat → Nat) n, (∀ i, f i ≤ f' i) → sumU f n ≤ sumU f' n := fun f f' n h => by
        induction n with
        | zero => exact Nat.le_refl _
        | succ n ih => show sumU f n + f n ≤ sumU f' n + f' n; have := h n; omega
      refine hm _ _ v (fun x => ?_)
      show (if g.fr k = x ∧ g.dy k = false then adjL g k x ++ [g.t k] else adjL g k x).length ≤ _
      split
      · rename_i h
        rw [if_pos h.1.symm, List.length_append]; simp
      · omega
    by_cases hv : g.fr k < v
    · rw [sumU_one hv] at hle; omega
    · have e : sumU (fun x => (adjL g (k + 1) x).length) v = sumU (fun x => (adjL g k x).length) v := sumU_congr (fun i hi => by
        show (if g.fr k = i ∧ g.dy k = false then adjL g k i ++ [g.t k] else adjL g k i).length = _
        rw [if_neg (fun h => by omega)])
      omega
theorem st_le_m {g : Gr} (v : Nat) : st g v ≤ g.m := sumLen_le v g.m
/-- The starts, the first k summed up. -/
def stV (g : Gr) (k i : Nat) : Int := if i ≤ k then (st g i : Nat) else lenU g g.m i
theorem stV_zero {g : Gr} (i : Nat) : lenU g g.m i = stV g 0 i := by
  unfold stV
  by_cases h : i ≤ 0
  · obtain rfl : i = 0 := by omega
    rfl
  · rw [if_neg h]
theorem stV_step {g : Gr} {k : Nat} (i : Nat) : Fvs.up (stV g k) (k + 1) (stV g k (k + 1) + stV g k k) i = stV g (k + 1) i := by
  unfold Fvs.up
  by_cases e : i = k + 1
  · subst e
    rw [if_pos rfl]
    have h1 : stV g k (k + 1) = (adjL g g.m k).length := by unfold stV lenU; rw [if_neg (by omega), if_neg (by omega)]; simp
    have h2 : stV g k k = st g k := if_pos (Nat.le_refl _)
    have h3 : stV g (k + 1) (k + 1) = st g (k + 1) := if_pos (Nat.le_refl _)
    rw [h1, h2, h3, st_succ]
    omega
  · rw [if_neg e]
    unfold stV
    have : (i ≤ k + 1) = (i ≤ k) := by apply propext; omega
    simp only [this]
theorem stV_bd {g : Gr} {k i : Nat} : 0 ≤ stV g k i ∧ stV g k i ≤ g.m := by
  unfold stV
  have h1 := st_le_m (g := g) i
  have h2 := lenU_le (g := g) (k := g.m) (v := i)
  have h3 := lenU_nn (g := g) (k := g.m) (v := i)
  split <;> omega
structure R2 (g : Gr) (n : Nat) (w : World) (b k : Nat) (wr : World) : Prop where
  ind : Fr wr b n .i64 (fun w => ((cntT g g.m w : Nat) : Int))
  sta : Fr wr (b + 1) (n + 1) .i64 (stV g k)
  bel : Below b w wr
  sz : wr.heap.size = b + 2
theorem R1.all {g : Gr} {n : Nat} {w wr : World} {b m : Nat} (h : R1 g n w b m wr) (hm : m = g.m) : R2 g n w b 0 wr := by
  subst hm
  exact ⟨h.ind, h.len.congr (fun i _ => stV_zero i), h.bel, h.sz⟩
theorem R2.step {g : Gr} {n : Nat} {w wr : World} {b k : Nat} {X Y : Int} (h : R2 g n w b k wr) (hX : X = stV g k (k + 1)) (hY : Y = stV g k k) (hk : k < n) : R2 g n w b (k + 1) (wr.drew.setCell ⟨b + 1, k + 1, none⟩ (.int .i64 (X + Y))) := by
  subst hX hY
  refine ⟨Fv.far (Fv.drew h.ind) (by show b ≠ b + 1; omega) _, ?_, h.bel.drew.setCell (by show b ≤ b + 1; omega) _, by simpa using h.sz⟩
  have h1 : Fr wr.drew (b + 1) (n + 1) .i64 (stV g k) := Fv.drew h.sta
  exact (h1.set (show k + 1 < n + 1 by omega) _).congr (fun i _ => stV_step i)
structure R3 (g : Gr) (n : Nat) (w : World) (b k : Nat) (wr : World) : Prop where
  ind : Fr wr b n .i64 (fun w => ((cntT g g.m w : Nat) : Int))
  sta : Fr wr (b + 1) (n + 1) .i64 (fun v => ((st g v : Nat) : Int))
  ps : Fr wr (b + 2) n .i64 (fun v => if v < k then ((st g v : Nat) : Int) else 0)
  bel : Below b w wr
  sz : wr.heap.size = b + 3
theorem R2.all {g : Gr} {n : Nat} {w wr : World} {b : Nat} (h : R2 g n w b n wr) : R3 g n w b 0 (wr.alloc (.cells (madeCells #[.int .i64 0] n) 3)) := by
  have ha : Below (b + 2) wr (wr.alloc (.cells (madeCells #[.int .i64 0] n) 3)) := (Below.refl _ _).alloc (by rw [h.sz]; exact Nat.le_refl _) _
  refine ⟨Fv.below h.ind ha (by omega), Fr.congr (Fv.below h.sta ha (by omega)) (fun i hi => if_pos (by omega)), ?_, h.bel.alloc (by rw [h.sz]; omega) _, by simpa using h.sz⟩
  have h9 := fv_made wr 3 (.int .i64 0) n
  rw [h.sz] at h9
  exact h9.congr (fun i hi => by simp)
theorem R3.step {g : Gr} {n : Nat} {w wr : World} {b k : Nat} {X : Int} (h : R3 g n w b k wr) (hX : X = (st g k : Nat)) (hk : k < n) : R3 g n w b (k + 1) (wr.setCell ⟨b + 2, k, none⟩ (.int .i64 X)) := by
  subst hX
  refine ⟨Fv.far h.ind (by show b ≠ b + 2; omega) _, Fv.far h.sta (by show b + 1 ≠ b + 2; omega) _, ?_, h.bel.setCell (by show b ≤ b + 2; omega) _, by simpa using h.sz⟩
  refine (h.ps.set hk _).congr (fun i _ => ?_)
  unfold Fvs.up
  by_cases e : i = k
  · subst e; rw [if_pos rfl, if_pos (Nat.lt_succ_self _)]
  · have : (i < k + 1) = (i < k) := by apply propext; omega
    simp only [if_neg e, this]
/-- The table being filled. -/
structure R4 (g : Gr) (n s : Nat) (w : World) (b k : Nat) (A : Nat → Int) (wr : World) : Prop where
  ind : Fr wr b n .i64 (fun w => ((cntT g g.m w : Nat) : Int))
  sta : Fr wr (b + 1) (n + 1) .i64 (fun v => ((st g v : Nat) : Int))
  ps : Fr wr (b + 2) n .i64 (fun v => ((st g v + (adjL g k v).length : Nat) : Int))
  ad : Fr wr (b + 3) s .u32 A
  tb : Tb g k A
  bel : Below b w wr
  sz : wr.heap.size = b + 4
theorem R3.all {g : Gr} {n s : Nat} {w wr : World} {b : Nat} (h : R3 g n w b n wr) : R4 g n s w b 0 (fun _ => 0) (wr.alloc (.cells (madeCells #[.int .u32 0] s) 27)) := by
  have ha : Below (b + 3) wr (wr.alloc (.cells (madeCells #[.int .u32 0] s) 27)) := (Below.refl _ _).alloc (by rw [h.sz]; exact Nat.le_refl _) _
  refine ⟨Fv.below h.ind ha (by omega), Fv.below h.sta ha (by omega), Fr.congr (Fv.below h.ps ha (by omega)) (fun i hi => by rw [if_pos hi]; rfl), ?_, fun u hu j x hj => by simp [adjL] at hj, h.bel.alloc (by rw [h.sz]; omega) _, by simpa using h.sz⟩
  have h9 := fv_made wr 27 (.int .u32 0) s
  rw [h.sz] at h9
  exact h9
theorem len_mono {g : Gr} {k u : Nat} (hk : k ≤ g.m) : (adjL g k u).length ≤ (adjL g g.m u).length := by
  obtain ⟨r, hr⟩ := adj_prefix (g := g) (u := u) (k := k) (m := g.m) hk
  rw [hr]; simp
theorem R4.skip {g : Gr} {n s : Nat} {w wr : World} {b k : Nat} {A : Nat → Int} (h : R4 g n s w b k A wr) (hd : g.dy k = true) : R4 g n s w b (k + 1) A wr :=
  ⟨h.ind, h.sta, h.ps.congr (fun i _ => by rw [adjL_skip hd]), h.ad, fun u hu j x hj => h.tb u hu j x (by rw [adjL_skip hd] at hj; exact hj), h.bel, h.sz⟩
theorem R4.step {g : Gr} {n s : Nat} {w wr : World} {b k x y p : Nat} {A : Nat → Int} (h : R4 g n s w b k A wr) (hd : g.dy k = false) (hx : x = g.fr k) (hy : y = g.t k) (hp : p = st g x + (adjL g k x).length) (hk : k < g.m) (hxn : x < n) (hps : p < s) :
    ∃ A', R4 g n s w b (k + 1) A' ((wr.drew.setCell ⟨b + 3, p, none⟩ (.int .u32 y)).setCell ⟨b + 2, x, none⟩ (.int .i64 ((p : Int) + 1))) := by
  subst hx hy hp
  have h1 : Fr wr.drew b n .i64 _ := Fv.drew h.ind
  have h2 : Fr wr.drew (b + 1) (n + 1) .i64 _ := Fv.drew h.sta
  have h3 : Fr wr.drew (b + 2) n .i64 _ := Fv.drew h.ps
  have h4 : Fr wr.drew (b + 3) s .u32 A := Fv.drew h.ad
  refine ⟨Fvs.up A (st g (g.fr k) + (adjL g k (g.fr k)).length) (g.t k), Fv.far (Fv.far h1 (by show b ≠ b + 3; omega) _) (by show b ≠ b + 2; omega) _, Fv.far (Fv.far h2 (by show b + 1 ≠ b + 3; omega) _) (by show b + 1 ≠ b + 2; omega) _, ?_, Fv.far (h4.set hps _) (by show b + 3 ≠ b + 2; omega) _, tb_step h.tb hk hd, (h.bel.drew.setCell (by show b ≤ b + 3; omega) _).setCell (by show b ≤ b + 2; omega) _, by simpa using h.sz⟩
  have h5 : Fr _ (b + 2) n .i64 _ := Fv.far h3 (p := ⟨b + 3, st g (g.fr k) + (adjL g k (g.fr k)).length, none⟩) (by show b + 2 ≠ b + 3; omega) (.int .u32 (g.t k))
  refine (h5.set hxn _).congr (fun i _ => ?_)
  unfold Fvs.up
  by_cases e : i = g.fr k
  · subst e
    rw [if_pos rfl, show adjL g (k + 1) (g.fr k) = adjL g k (g.fr k) ++ [g.t k] from if_pos ⟨rfl, hd⟩, List.length_append]
    simp only [List.length_cons, List.length_nil]
    omega
  · rw [if_neg e, show adjL g (k + 1) i = adjL g k i from if_neg (fun h => e h.1.symm)]
theorem cell_other {w : World} {q o : Nat} {p : Addr} {u v : Value} (h : w.cell? ⟨q, o, none⟩ = some v) (hp : q ≠ p.block) : (w.setCell p u).cell? ⟨q, o, none⟩ = some v := by
  have h9 := Below.heap_setCell w p u q hp
  rw [← h]; simp [World.cell?, h9]
theorem nodup_le : ∀ (k : Nat) (L : List Nat), L.Nodup → (∀ x ∈ L, x < k) → L.length ≤ k := by
  intro k
  induction k with
  | zero =>
    intro L _ hL
    cases L with
    | nil => exact Nat.le_refl _
    | cons a t => exact absurd (hL a (by simp)) (Nat.not_lt_zero a)
  | succ k ih =>
    intro L hL hlt
    by_cases hm : k ∈ L
    · have := ih (L.erase k) (hL.erase k) (fun x hx => by
        have h1 := hlt x (List.mem_of_mem_erase hx)
        have h2 : x ≠ k := by rintro rfl; exact absurd hx (List.Nodup.not_mem_erase hL)
        omega)
      rw [List.length_erase_of_mem hm] at this
      omega
    · have := ih L hL (fun x hx => by
        have h1 := hlt x hx
        have h2 : x ≠ k := by rintro rfl; exact hm hx
        omega)
      omega
/-- The queue: a slice of its own, in a block from B on. -/
def Qo (w : World) (B : Nat) (A : Option Addr) (c : Nat) (Q : List Nat) : Prop := Own w B 3 .i64 (.slice A Q.length c) (Q.map (fun (x : Nat) => (x : Int)))
theorem Qo.at_ {w : World} {B : Nat} {A : Option Addr} {c : Nat} {Q : List Nat} (h : Qo w B A c Q) {i v : Nat} (hv : Q[i]? = some v) : ∃ q, A = some ⟨q, 0, none⟩ ∧ w.cell? ⟨q, i, none⟩ = some (.int .i64 (v : Int)) := by
  have hi := (List.getElem?_eq_some_iff.1 hv).1
  rcases h.2 with ⟨h1, h0⟩ | ⟨g, cap, cur, h1, hb, hh, hn, hcm, hcs, htk⟩
  · rw [List.length_map] at h0
    omega
  · simp only [Value.slice.injEq] at h1
    obtain ⟨rfl, -, rfl⟩ := h1
    refine ⟨g, rfl, ?_⟩
    rw [cell_of_row w g i cur 3 (0, 0) hh]
    have h1 : (cur.toList.take ((Q.map (fun (x : Nat) => (x : Int))).length * 1))[i]? = (iv .i64 (Q.map (fun (x : Nat) => (x : Int))))[i]? := by rw [htk]
    rw [iv_at .i64 _ i (by simpa using hi), List.getElem?_take, if_pos (by simpa using hi)] at h1
    have h2 : (Q.map (fun (x : Nat) => (x : Int))).getD i 0 = (v : Int) := by simp [List.getD, hv]
    rw [h2] at h1
    simpa using h1
theorem Qo.far {w : World} {B : Nat} {A : Option Addr} {c : Nat} {Q : List Nat} (h : Qo w B A c Q) {p : Addr} (hp : p.block < B) (u : Value) : Qo (w.setCell p u) B A c Q := by
  refine ⟨h.1, ?_⟩
  rcases h.2 with h0 | ⟨g, cap, cur, h1, hb, hh, hr⟩
  · exact .inl h0
  · exact .inr ⟨g, cap, cur, h1, hb, (Below.heap_setCell w p u g (by omega)).trans hh, hr⟩
theorem Qo.of_own {w : World} {B : Nat} {v : Value} {Q : List Nat} (h : Own w B 3 .i64 v (Q.map (fun (x : Nat) => (x : Int)))) : ∃ A c, v = .slice A Q.length c ∧ Qo w B A c Q := by
  obtain ⟨A, c, rfl⟩ := h.form
  rw [List.length_map] at h ⊢
  exact ⟨A, c, rfl, h⟩
theorem Qo.push {w : World} {B : Nat} {v : Value} {Q : List Nat} {x : Nat} (h : Own w B 3 .i64 v (Q.map (fun (x : Nat) => (x : Int)) ++ [(x : Int)])) : ∃ A c, v = .slice A (Q ++ [x]).length c ∧ Qo w B A c (Q ++ [x]) :=
  Qo.of_own (by rw [List.map_append]; exact h)
/-- Behind the table. -/
structure R5 (g : Gr) (n s : Nat) (w : World) (b : Nat) (I A : Nat → Int) (wr : World) : Prop where
  ind : Fr wr b n .i64 I
  sta : Fr wr (b + 1) (n + 1) .i64 (fun v => ((st g v : Nat) : Int))
  ad : Fr wr (b + 3) s .u32 A
  bel : Below b w wr
  sz : b + 4 ≤ wr.heap.size
  bd : ∀ i, I i ≤ 4096
theorem R5.below {g : Gr} {n s : Nat} {w wr wr' : World} {b : Nat} {I A : Nat → Int} (h : R5 g n s w b I A wr) (hb : Below (b + 4) wr wr') : R5 g n s w b I A wr' :=
  ⟨Fv.below h.ind hb (by omega), Fv.below h.sta hb (by omega), Fv.below h.ad hb (by omega), h.bel.trans (hb.mono (by omega)), Nat.le_trans h.sz hb.size, h.bd⟩
theorem R4.all {g : Gr} {n s : Nat} {w wr : World} {b m : Nat} {A : Nat → Int} (h : R4 g n s w b m A wr) (hm : m = g.m) (hm' : m ≤ 4096) (hn : n ≤ maxLen) : R5 g n s w b (fun w => ((cntT g g.m w : Nat) : Int)) A (wr.alloc (.cells (madeCells #[.int .i64 0] n) 3)) ∧ Qo (wr.alloc (.cells (madeCells #[.int .i64 0] n) 3)) (b + 4) (some ⟨b + 4, 0, none⟩) n [] ∧ Tb g g.m A := by
  subst hm
  have ha : Below (b + 4) wr (wr.alloc (.cells (madeCells #[.int .i64 0] n) 3)) := (Below.refl _ _).alloc (by rw [h.sz]; exact Nat.le_refl _) _
  refine ⟨⟨Fv.below h.ind ha (by omega), Fv.below h.sta ha (by omega), Fv.below h.ad ha (by omega), h.bel.alloc (by rw [h.sz]; omega) _, by simp [h.sz], fun i => by have := cntT_le (g := g) (w := i) g.m; omega⟩, ?_, h.tb⟩
  have h9 := own_made wr (b + 4) 3 .i64 n (by rw [h.sz]; exact Nat.le_refl _) hn
  rw [h.sz] at h9
  exact h9
theorem R5.set {g : Gr} {n s : Nat} {w wr : World} {b x : Nat} {I A : Nat → Int} {X : Int} (h : R5 g n s w b I A wr) (hx : x < n) (hX : X = I x) : R5 g n s w b (upi I x (X - 1)) A (wr.setCell ⟨b, x, none⟩ (.int .i64 (X - 1))) := by
  subst hX
  refine ⟨h.ind.set hx _, Fv.far h.sta (by show b + 1 ≠ b; omega) _, Fv.far h.ad (by show b + 3 ≠ b; omega) _, h.bel.setCell (Nat.le_refl _) _, by simpa using h.sz, fun i => ?_⟩
  unfold upi
  have h1 := h.bd x
  have h2 := h.bd i
  split <;> omega
theorem cell_new {w : World} {p : Addr} {u v : Value} {z : Nat} (hz : z = w.heap.size) : ((w.setCell p u).alloc (.cells #[v] 3)).cell? ⟨z, 0, none⟩ = some v := by
  subst hz
  have h := (Row.newArr (w.setCell p u) 3 #[v]).at_ (i := 0) rfl
  have e : (w.setCell p u).heap.size = w.heap.size := by simp
  rw [e] at h
  exact h
theorem ka_pos {g : Gr} {Q : List Nat} {h v p x : Nat} {I : Nat → Int} (k : Ka g Q h v p I) (hx : x < g.n) : 0 ≤ I x := by
  rw [k.ix x hx]; omega
/-- What the model answers. -/
def Kn (w : World) (g : Gr) (e : Ending) (w' : World) : Prop := ∃ b, e = .returned (.bool b) ∧ (b = true ↔ ¬ Ranked g) ∧ Below w.heap.size w w'
set_option maxRecDepth 100000 in
set_option maxHeartbeats 4000000 in
theorem kahn9 (g : Gr) (hf : Fits g) (A1 A2 A3 : Option Addr) (c1 c2 c3 : Nat) (w : World) (h1 : Rs w A1 g.m (fun i => .int .u32 (g.fr i))) (h2 : Rs w A2 g.m (fun i => .int .u32 (g.t i))) (h3 : Rs w A3 g.m (fun i => .bool (g.dy i))) (hn : g.n ≤ 4096) (hm : g.m ≤ 4096) :
    Calls Tryd.prog 9 #[.int .i64 (g.n : Int), .slice A1 g.m c1, .slice A2 g.m c2, .slice A3 g.m c3] w (Kn w g) := by
  have H1 := Lib.hid h1
  have H2 := Lib.hid h2
  have H3 := Lib.hid h3
  have HF := Lib.hid hf
  obtain ⟨n, hn0⟩ : ∃ x, x = g.n := ⟨_, rfl⟩
  obtain ⟨m, hm0⟩ : ∃ x, x = g.m := ⟨_, rfl⟩
  rw [← hn0] at hn
  rw [← hm0] at hm
  rw [← hm0] at H1 H2 H3
  rw [← hn0, ← hm0]
  have HN := Lib.hid hn0
  have HM := Lib.hid hm0
  have hk1 := fun W => run_make_row' (P := Tryd.prog) 33 3 (.int .i64 0) 8 Tryd.underlying33 info3 rfl .i64 .i64 n (by omega) (by omega) W
  have hk2 : ∀ W, (Instr.makeSlice 33 (.int .i64 ((n : Int) + 1)) (.int .i64 ((n : Int) + 1))).run Tryd.prog W = .ok (.slice (some ⟨W.heap.size, 0, none⟩) (n + 1) (n + 1)) (W.alloc (.cells (madeCells #[.int .i64 0] (n + 1)) 3)) := fun W => by
    have h9 := run_make_row' (P := Tryd.prog) 33 3 (.int .i64 0) 8 Tryd.underlying33 info3 rfl .i64 .i64 (n + 1) (by omega) (by omega) W
    simpa using h9
  clear h1 h2 h3 hf hn0 hm0
  go_enter Tryd.func9, Tryd.ntmps9
  go_wp2
  clear hk1 hk2
  obtain ⟨b, hb⟩ : ∃ b, b = w.heap.size := ⟨_, rfl⟩
  have HB := Lib.hid hb
  have r1 : R1 g n w b 0 ((w.alloc (.cells (madeCells #[.int .i64 0] n) 3)).alloc (.cells (madeCells #[.int .i64 0] (n + 1)) 3)) := by
    subst hb
    refine ⟨?_, ?_, ?_, ?_⟩
    · exact (Fv.below (fv_made w 3 (.int .i64 0) n) (show Below (w.heap.size + 1) _ _ from (Below.refl _ _).alloc (by simp) _) (Nat.lt_succ_self _)).congr (fun i hi => rfl)
    · have h9 := fv_made (w.alloc (.cells (madeCells #[.int .i64 0] n) 3)) 3 (.int .i64 0) (n + 1)
      simp only [World.size_alloc] at h9
      exact Fv.congr h9 (fun i hi => by unfold lenU; split <;> rfl)
    · exact ((Below.refl _ _).alloc (Nat.le_refl _) _).alloc (by simp) _
    · simp
  rw [← hb]
  clear hb
  have R := Lib.hid r1
  clear r1
  go_loopw [11] (fun i wr => ∃ k : Nat, k ≤ m ∧ i = .int .i64 k ∧ R1 g n w b k wr) (fun i _ => m - (intOf i).toNat)
  case atStart => exact ⟨0, Nat.zero_le _, rfl, R.out⟩
  case round =>
    obtain ⟨k, hk, rfl, hr⟩ := hrel
    by_cases hlt : k < m
    · have hfit := HF.out k (by rw [← HM.out]; exact hlt)
      rw [← HN.out] at hfit
      obtain ⟨x, hx⟩ : ∃ x, x = g.fr k := ⟨_, rfl⟩
      obtain ⟨y, hy⟩ : ∃ y, y = g.t k := ⟨_, rfl⟩
      obtain ⟨d, hd⟩ : ∃ d, d = g.dy k := ⟨_, rfl⟩
      obtain ⟨L, hL⟩ : ∃ L, L = lenU g k (x + 1) := ⟨_, rfl⟩
      obtain ⟨C, hC⟩ : ∃ C : Int, C = (cntT g k y : Nat) := ⟨_, rfl⟩
      have bL : 0 ≤ L ∧ L ≤ 4096 := by rw [hL]; have := lenU_le (g := g) (k := k) (v := x + 1); have := lenU_nn (g := g) (k := k) (v := x + 1); omega
      have bC : 0 ≤ C ∧ C ≤ 4096 := by rw [hC]; have := cntT_le (g := g) (w := y) k; omega
      rw [← hx, ← hy] at hfit
      obtain ⟨hxn, hyn⟩ := hfit
      obtain ⟨q3, o3, rfl, d3, c3⟩ := rs_at H3.out hlt (v := .bool d) (by rw [hd]) hr.bel HB.out
      obtain ⟨q1, o1, rfl, d1, c1⟩ := rs_at H1.out hlt (v := .int .u32 x) (by rw [hx]) hr.bel HB.out
      obtain ⟨q2, o2, rfl, d2, c2⟩ := rs_at H2.out hlt (v := .int .u32 y) (by rw [hy]) hr.bel HB.out
      have c4 : wr.cell? ⟨b + 1, x + 1, none⟩ = some (.int .i64 L) := hr.len.at_ (by omega) (by rw [hL])
      have c5 : wr.cell? ⟨b, y, none⟩ = some (.int .i64 C) := hr.ind.at_ hyn (by rw [hC])
      have f4 := hr.len.frozen (x + 1)
      have f5 := hr.ind.frozen y
      obtain ⟨bL1, bL2⟩ := bL
      obtain ⟨bC1, bC2⟩ := bC
      have HR := Lib.hid hr
      have HX := Lib.hid hx
      have HY := Lib.hid hy
      have HD := Lib.hid hd
      have HL := Lib.hid hL
      have HC := Lib.hid hC
      clear hr hx hy hd hL hC
      cases d
      · have c2' : (wr.setCell ⟨b + 1, x + 1, none⟩ (.int .i64 (L + 1))).cell? ⟨q2, o2 + k, none⟩ = some (.int .u32 y) := by
          have h9 := Below.heap_setCell wr ⟨b + 1, x + 1, none⟩ (.int .i64 (L + 1)) q2 (by show q2 ≠ b + 1; omega)
          rw [← c2]; simp [World.cell?, h9]
        go_wp2
        go_roundw
        case rel => exact ⟨k + 1, by omega, by go_num, HR.out.step HD.out.symm HX.out HY.out HL.out HC.out hxn hyn⟩
        case measure => simp [intOf]; omega
      · have HS := Lib.hid (HR.out.skip HD.out.symm)
        go_wp2
        go_roundw
        case rel => exact ⟨k + 1, by omega, by go_num, HS.out⟩
        case measure => simp [intOf]; omega
    · obtain rfl : m = k := by omega
      have H := Lib.hid (hr.all HM.out)
      clear hr R
      go_wp2
      go_loopw [12] (fun i wr => ∃ k : Nat, k ≤ n ∧ i = .int .i64 k ∧ R2 g n w b k wr) (fun i _ => n - (intOf i).toNat)
      case atStart => exact ⟨0, Nat.zero_le _, rfl, H.out⟩
      case round =>
        clear H
        obtain ⟨k2, hk2, rfl, hr⟩ := hrel
        by_cases hlt2 : k2 < n
        · obtain ⟨X, hX⟩ : ∃ X, X = stV g k2 (k2 + 1) := ⟨_, rfl⟩
          obtain ⟨Y, hY⟩ : ∃ Y, Y = stV g k2 k2 := ⟨_, rfl⟩
          have bX := stV_bd (g := g) (k := k2) (i := k2 + 1)
          have bY := stV_bd (g := g) (k := k2) (i := k2)
          rw [← hX, ← HM.out] at bX
          rw [← hY, ← HM.out] at bY
          obtain ⟨bX1, bX2⟩ := bX
          obtain ⟨bY1, bY2⟩ := bY
          have c4 : wr.cell? ⟨b + 1, k2 + 1, none⟩ = some (.int .i64 X) := hr.sta.at_ (by omega) (by rw [hX])
          have c5 : wr.cell? ⟨b + 1, k2, none⟩ = some (.int .i64 Y) := hr.sta.at_ (by omega) (by rw [hY])
          have f4 := hr.sta.frozen (k2 + 1)
          have HR := Lib.hid (hr.step hX hY hlt2)
          clear hr hX hY
          go_wp2
          go_region
          all_goals
            go_wp2
            go_roundw
            case rel => exact ⟨k2 + 1, by omega, by go_num, HR.out⟩
            case measure => simp [intOf]; omega
        · obtain rfl : n = k2 := by omega
          have H := Lib.hid hr.all
          clear hr
          have hk1 := run_make_row' (P := Tryd.prog) 33 3 (.int .i64 0) 8 Tryd.underlying33 info3 rfl .i64 .i64 n (by omega) (by omega) wr
          have hz : wr.heap.size = b + 2 := by have := H.out.sz; simp at this; omega
          rw [hz] at hk1
          have HZ := Lib.hid hz
          clear hz
          go_wp2
          clear hk1
          obtain ⟨w2, hw2⟩ : ∃ w2, w2 = wr.alloc (.cells (madeCells #[.int .i64 0] n) 3) := ⟨_, rfl⟩
          rw [← hw2] at H ⊢
          clear hw2 HZ
          go_loopw [14] (fun i wr => ∃ k : Nat, k ≤ n ∧ i = .int .i64 k ∧ R3 g n w b k wr) (fun i _ => n - (intOf i).toNat)
          case atStart => exact ⟨0, Nat.zero_le _, rfl, H.out⟩
          case round =>
            clear H
            obtain ⟨k3, hk3, rfl, hr⟩ := hrel
            by_cases hlt3 : k3 < n
            · obtain ⟨X, hX⟩ : ∃ X : Int, X = (st g k3 : Nat) := ⟨_, rfl⟩
              have c4 : wr.cell? ⟨b + 1, k3, none⟩ = some (.int .i64 X) := hr.sta.at_ (by omega) (by rw [hX])
              have c5 : wr.cell? ⟨b + 2, k3, none⟩ = some (.int .i64 0) := hr.ps.at_ hlt3 (by simp)
              have f4 := hr.ps.frozen k3
              have HR := Lib.hid (hr.step hX hlt3)
              clear hr hX
              go_wp2
              go_roundw
              case rel => exact ⟨k3 + 1, by omega, by go_num, HR.out⟩
              case measure => simp [intOf]; omega
            · obtain rfl : n = k3 := by omega
              have hz : wr.heap.size = b + 3 := hr.sz
              obtain ⟨s, hs⟩ : ∃ s, s = st g n := ⟨_, rfl⟩
              have c4 : wr.cell? ⟨b + 1, n, none⟩ = some (.int .i64 (s : Int)) := hr.sta.at_ (Nat.lt_succ_self _) (by rw [hs])
              have hsm : s ≤ 4096 := by have := st_le_m (g := g) n; rw [← HM.out] at this; omega
              have H := Lib.hid (hr.all (s := s))
              have HS := Lib.hid hs
              have hk1 := run_make_row' (P := Tryd.prog) 22 27 (.int .u32 0) 4 Tryd.underlying22 info27 rfl .i64 .i64 s (by omega) (by omega) wr
              rw [hz] at hk1
              clear hr hz hs
              go_wp2
              clear hk1 c4
              obtain ⟨w3, hw3⟩ : ∃ w3, w3 = wr.alloc (.cells (madeCells #[.int .u32 0] s) 27) := ⟨_, rfl⟩
              rw [← hw3] at H ⊢
              clear hw3
              go_loopw [16] (fun i wr => ∃ k : Nat, ∃ A, k ≤ m ∧ i = .int .i64 k ∧ R4 g n s w b k A wr) (fun i _ => m - (intOf i).toNat)
              case atStart => exact ⟨0, _, Nat.zero_le _, rfl, H.out⟩
              case round =>
                clear H
                obtain ⟨k4, A, hk4, rfl, hr⟩ := hrel
                by_cases hlt4 : k4 < m
                · have hfit := HF.out k4 (by rw [← HM.out]; exact hlt4)
                  rw [← HN.out] at hfit
                  obtain ⟨x, hx⟩ : ∃ x, x = g.fr k4 := ⟨_, rfl⟩
                  obtain ⟨y, hy⟩ : ∃ y, y = g.t k4 := ⟨_, rfl⟩
                  obtain ⟨d, hd⟩ : ∃ d, d = g.dy k4 := ⟨_, rfl⟩
                  obtain ⟨p, hp⟩ : ∃ p, p = st g x + (adjL g k4 x).length := ⟨_, rfl⟩
                  rw [← hx, ← hy] at hfit
                  obtain ⟨hxn, hyn⟩ := hfit
                  have hpm : p ≤ s := by
                    have h1 := st_le (g := g) (a := x + 1) (b := n) hxn
                    rw [st_succ] at h1
                    have h2 := len_mono (g := g) (k := k4) (u := x) (by rw [← HM.out]; exact hk4)
                    rw [HS.out]; omega
                  obtain ⟨q3, o3, rfl, d3, c3⟩ := rs_at H3.out hlt4 (v := .bool d) (by rw [hd]) hr.bel HB.out
                  obtain ⟨q1, o1, rfl, d1, c1⟩ := rs_at H1.out hlt4 (v := .int .u32 x) (by rw [hx]) hr.bel HB.out
                  obtain ⟨q2, o2, rfl, d2, c2⟩ := rs_at H2.out hlt4 (v := .int .u32 y) (by rw [hy]) hr.bel HB.out
                  have c4 : wr.cell? ⟨b + 2, x, none⟩ = some (.int .i64 (p : Int)) := hr.ps.at_ hxn (by rw [hp])
                  have f4 := hr.ps.frozen x
                  cases d
                  · have hps : p < s := by
                      have h1 := st_le (g := g) (a := x + 1) (b := n) hxn
                      rw [st_succ] at h1
                      have h2 := place_lt (g := g) (k := k4) (by rw [← HM.out]; exact hlt4) hd.symm
                      rw [← hx] at h2
                      rw [HS.out]; omega
                    obtain ⟨Z, hZ⟩ : ∃ Z, Z = A p := ⟨_, rfl⟩
                    have c5 : wr.cell? ⟨b + 3, p, none⟩ = some (.int .u32 Z) := hr.ad.at_ hps (by rw [hZ])
                    have f5 := hr.ad.frozen p
                    have HR := Lib.hid (hr.step hd.symm hx hy hp (by rw [← HM.out]; exact hlt4) hxn hps)
                    have c1' : (wr.drew.setCell ⟨b + 3, p, none⟩ (.int .u32 y)).cell? ⟨q1, o1 + k4, none⟩ = some (.int .u32 x) := cell_other (w := wr.drew) c1 (by show q1 ≠ b + 3; omega)
                    clear hr hx hy hp hd hZ
                    go_wp2
                    go_region
                    all_goals
                      go_wp2
                      go_roundw
                      case rel => obtain ⟨A', h9⟩ := HR.out; exact ⟨k4 + 1, A', by omega, by go_num, h9⟩
                      case measure => simp [intOf]; omega
                  · have HR := Lib.hid (hr.skip hd.symm)
                    clear hr hx hy hp hd
                    go_wp2
                    go_roundw
                    case rel => exact ⟨k4 + 1, _, by omega, by go_num, HR.out⟩
                    case measure => simp [intOf]; omega
                · obtain rfl : m = k4 := by omega
                  have hz : wr.heap.size = b + 4 := hr.sz
                  have HA := Lib.hid (hr.all HM.out hm (by unfold maxLen; omega))
                  have hk1 := run_make_room (P := Tryd.prog) 33 3 (.int .i64 0) 8 Tryd.underlying33 info3 rfl .i64 .i64 n (by omega) (by omega) wr
                  rw [hz] at hk1
                  clear hr hz
                  go_wp2
                  clear hk1
                  obtain ⟨w4, hw4⟩ : ∃ w4, w4 = wr.alloc (.cells (madeCells #[.int .i64 0] n) 3) := ⟨_, rfl⟩
                  rw [← hw4] at HA ⊢
                  clear hw4
                  obtain ⟨I0, hI0⟩ : ∃ I0 : Nat → Int, I0 = fun w => ((cntT g g.m w : Nat) : Int) := ⟨_, rfl⟩
                  rw [← hI0] at HA
                  have HI := Lib.hid hI0
                  clear hI0
                  go_loopw [17, 18] (fun q i wr => ∃ (k : Nat) (Ar : Option Addr) (c : Nat), k ≤ n ∧ i = .int .i64 k ∧ q = .slice Ar (q0 I0 k).length c ∧ R5 g n s w b I0 A wr ∧ Qo wr (b + 4) Ar c (q0 I0 k)) (fun _ i _ => n - (intOf i).toNat)
                  case atStart => exact ⟨0, _, _, Nat.zero_le _, rfl, rfl, HA.out.1, HA.out.2.1⟩
                  case round =>
                    obtain ⟨k5, Ar, c, hk5, rfl, rfl, h5, hq⟩ := hrel
                    by_cases hlt5 : k5 < n
                    · obtain ⟨X, hX⟩ : ∃ X, X = I0 k5 := ⟨_, rfl⟩
                      obtain ⟨Q, hQ⟩ : ∃ Q, Q = q0 I0 k5 := ⟨_, rfl⟩
                      rw [← hQ] at hq ⊢
                      have hql : Q.length ≤ 4096 := by
                        have := nodup_le k5 (q0 I0 k5) (q0_nodup k5) (fun x hx => (q0_mem.1 hx).1)
                        rw [hQ]; omega
                      have c4 : wr.cell? ⟨b, k5, none⟩ = some (.int .i64 X) := h5.ind.at_ hlt5 (by rw [hX])
                      have H5 := Lib.hid h5
                      have HQ := Lib.hid hq
                      have HX := Lib.hid hX
                      have HQ0 := Lib.hid hQ
                      have HQL := Lib.hid (show (Q.map (fun (x : Nat) => (x : Int))).length ≤ 1000000000 by simp; omega)
                      have HSZ := Lib.hid (show b + 4 ≤ (wr.alloc (.cells #[.int .i64 (k5 : Int)] 3)).heap.size by have := h5.sz; simp; omega)
                      clear h5 hq hX hQ hql
                      by_cases hx : X = 0
                      · have t : (X == 0) = true := by simpa using hx
                        have HN := Lib.hid (show q0 I0 (k5 + 1) = Q ++ [k5] by rw [HQ0.out]; exact if_pos (by rw [← HX.out]; exact hx))
                        clear hx
                        go_wp2_with (refine wpList_push _ rfl _ _ 33 rfl (b + 4) 3 .i64 8 Tryd.underlying33 info3 (by decide) (.slice Ar Q.length c) (Q.map (fun (x : Nat) => (x : Int))) rfl (Own.alloc (show Own wr (b + 4) 3 .i64 (.slice Ar Q.length c) (Q.map (fun (x : Nat) => (x : Int))) from HQ.out) _) wr.heap.size (k5 : Int) rfl ((Row.newArr _ 3 _).at_ (i := 0) rfl) HQL.out HSZ.out ?_; intro v' w5 ho hb1; obtain ⟨A', c', hv, hq'⟩ := Qo.push ho; subst hv; have HQ1 := Lib.hid hq'; have HB1 := Lib.hid hb1; clear ho hq' hb1)
                        go_roundw
                        case rel => exact ⟨k5 + 1, A', c', by omega, by go_num, by rw [HN.out, List.length_append]; rfl, H5.out.below (((Below.refl _ _).alloc H5.out.sz _).trans HB1.out), by rw [HN.out]; exact HQ1.out⟩
                        case measure => simp [intOf]; omega
                      · have t : (X == 0) = false := by simpa using hx
                        have HN := Lib.hid (show q0 I0 (k5 + 1) = Q by rw [HQ0.out]; exact if_neg (by rw [← HX.out]; exact hx))
                        clear hx
                        go_wp2
                        go_roundw
                        case rel => exact ⟨k5 + 1, Ar, c, by omega, by go_num, by rw [HN.out], H5.out, by rw [HN.out]; exact HQ.out⟩
                        case measure => simp [intOf]; omega
                    · obtain rfl : n = k5 := by omega
                      obtain ⟨Q0, hQ⟩ : ∃ Q, Q = q0 I0 n := ⟨_, rfl⟩
                      have hko : Ko g Q0 0 I0 := by
                        rw [hQ, HN.out]
                        exact ko_start HF.out (fun w _ => by rw [HI.out])
                      have HT := Lib.hid HA.out.2.2
                      rw [← hQ] at hq ⊢
                      have H5 := Lib.hid h5
                      have HQ := Lib.hid hq
                      have HK := Lib.hid hko
                      clear h5 hq hQ hko HA HI
                      go_wp2
                      go_loopw [17, 19, 20] (fun q r i wr => ∃ (Q : List Nat) (h : Nat) (Ar : Option Addr) (c : Nat) (I : Nat → Int), q = .slice Ar Q.length c ∧ r = .int .i64 h ∧ i = .int .i64 h ∧ R5 g n s w b I A wr ∧ Qo wr (b + 4) Ar c Q ∧ Ko g Q h I) (fun _ _ i _ => n - (intOf i).toNat)
                      case atStart => exact ⟨Q0, 0, Ar, c, I0, rfl, rfl, rfl, H5.out, HQ.out, HK.out⟩
                      case round =>
                        clear H5 HQ HK
                        obtain ⟨Q, h, Ar, c, I, rfl, rfl, rfl, h5, hq, hk⟩ := hrel
                        have hql : Q.length ≤ n := by
                          have := nodup_le g.n Q hk.nodup hk.lt
                          rw [HN.out]; exact this
                        have HK := Lib.hid hk
                        have H5 := Lib.hid h5
                        have HQ := Lib.hid hq
                        clear hk h5 hq
                        by_cases hlt6 : h < Q.length
                        · obtain ⟨v, hv⟩ : ∃ v, v = Q[h] := ⟨_, rfl⟩
                          have hv' : Q[h]? = some v := by rw [List.getElem?_eq_getElem hlt6, hv]
                          obtain ⟨qb, rfl, c4⟩ := HQ.out.at_ hv'
                          have hvn : v < n := by rw [HN.out]; exact HK.out.lt v (List.mem_of_getElem? hv')
                          obtain ⟨sv, hsv⟩ : ∃ sv, sv = st g v := ⟨_, rfl⟩
                          have c5 : wr.cell? ⟨b + 1, v, none⟩ = some (.int .i64 (sv : Int)) := H5.out.sta.at_ (by omega) (by rw [hsv])
                          have HKA := Lib.hid (HK.out.enter hv')
                          have HSV := Lib.hid hsv
                          clear hv hv' hsv HK
                          go_wp2
                          clear c4 c5
                          go_loopw [17, 22] (fun q e wr => ∃ (Q : List Nat) (p e' : Nat) (Ar : Option Addr) (c : Nat) (I : Nat → Int), q = .slice Ar Q.length c ∧ e = .int .i64 (e' : Int) ∧ e' = sv + p ∧ p ≤ (adjL g g.m v).length ∧ R5 g n s w b I A wr ∧ Qo wr (b + 4) Ar c Q ∧ Ka g Q h v p I) (fun _ e _ => 5000 - (intOf e).toNat)
                          case atStart => exact ⟨Q, 0, sv, _, c, I, rfl, rfl, rfl, Nat.zero_le _, H5.out, HQ.out, HKA.out⟩
                          case round =>
                            clear H5 HQ HKA
                            obtain ⟨Q, p, e, Ar, c, I, rfl, rfl, he, hp, h5, hq, hk⟩ := hrel
                            obtain ⟨se, hse⟩ : ∃ se, se = st g (v + 1) := ⟨_, rfl⟩
                            have hse' : se = sv + (adjL g g.m v).length := by rw [hse, HSV.out, st_succ]
                            have hss : se ≤ s := by rw [hse, HS.out]; exact st_le hvn
                            have c5 : wr.cell? ⟨b + 1, v + 1, none⟩ = some (.int .i64 (se : Int)) := h5.sta.at_ (by omega) (by rw [hse])
                            by_cases hlt7 : p < (adjL g g.m v).length
                            · have hes : e < se := by omega
                              obtain ⟨x, hx⟩ : ∃ x, x = (adjL g g.m v)[p] := ⟨_, rfl⟩
                              have hx' : (adjL g g.m v)[p]? = some x := by rw [List.getElem?_eq_getElem hlt7, hx]
                              have hxg : x < g.n := by
                                obtain ⟨i, hi, _, h2, _⟩ := adjL_mem.1 (List.mem_of_getElem? hx')
                                rw [← h2]; exact (HF.out i hi).2
                              have hxn : x < n := by rw [HN.out]; exact hxg
                              have hAe : A e = (x : Int) := by rw [he, HSV.out]; exact HT.out v (by rw [← HN.out]; exact hvn) p x hx'
                              have c6 : wr.cell? ⟨b + 3, e, none⟩ = some (.int .u32 (x : Int)) := h5.ad.at_ (by omega) (by rw [hAe])
                              obtain ⟨X, hX⟩ : ∃ X, X = I x := ⟨_, rfl⟩
                              have c7 : wr.cell? ⟨b, x, none⟩ = some (.int .i64 X) := h5.ind.at_ hxn (by rw [hX])
                              have f7 := h5.ind.frozen x
                              have bX1 : 0 ≤ X := by rw [hX]; exact ka_pos hk hxg
                              have bX2 : X ≤ 4096 := by rw [hX]; exact h5.bd x
                              have H5' := Lib.hid (h5.set hxn hX)
                              have HQ' := Lib.hid (hq.far (p := ⟨b, x, none⟩) (by show b < b + 4; omega) (.int .i64 (X - 1)))
                              have hlt : h < Q.length := (List.getElem?_eq_some_iff.1 hk.at_).1
                              have hql : Q.length ≤ 4096 := by
                                have := nodup_le g.n Q hk.nodup hk.lt
                                rw [← HN.out] at this; omega
                              have HQL := Lib.hid (show (Q.map (fun (x : Nat) => (x : Int))).length ≤ 1000000000 by simp; omega)
                              have HSZ := Lib.hid (show b + 4 ≤ ((wr.setCell ⟨b, x, none⟩ (.int .i64 (X - 1))).alloc (.cells #[.int .i64 (x : Int)] 3)).heap.size by have := h5.sz; simp; omega)
                              have HE := Lib.hid he
                              have HX := Lib.hid hX
                              have HP := Lib.hid hlt7
                              have e5 : e < 4097 := by omega
                              by_cases hz : X - 1 = 0
                              · have t : (X - 1 == 0) = true := by simpa using hz
                                have HJ := Lib.hid (show Ka g (Q ++ [x]) h v (p + 1) (upi I x (X - 1)) by rw [hX]; exact hk.join HF.out hx' hxg (by rw [← hX]; exact hz))
                                clear hk h5 hq hx hx' hX hAe hse hse' he hp hlt7 hz hql hlt
                                go_wp2_with (refine wpList_push _ rfl _ _ 33 rfl (b + 4) 3 .i64 8 Tryd.underlying33 info3 (by decide) (.slice Ar Q.length c) (Q.map (fun (x : Nat) => (x : Int))) rfl (Own.alloc (show Own (wr.setCell ⟨b, x, none⟩ (.int .i64 (X - 1))) (b + 4) 3 .i64 (.slice Ar Q.length c) (Q.map (fun (x : Nat) => (x : Int))) from HQ'.out) _) wr.heap.size (x : Int) rfl (cell_new rfl) HQL.out HSZ.out ?_; intro v' w5 ho hb1; obtain ⟨A', c', hv, hq'⟩ := Qo.push ho; subst hv; have HQ1 := Lib.hid hq'; have HB1 := Lib.hid hb1; clear ho hq' hb1)
                                go_roundw
                                case rel => first | exact ⟨Q ++ [x], p + 1, e + 1, A', c', _, by rw [List.length_append]; rfl, by go_num, by have := HE.out; omega, HP.out, H5'.out.below (((Below.refl _ _).alloc H5'.out.sz _).trans HB1.out), HQ1.out, HJ.out⟩ | exact ⟨Q ++ [x], p + 1, e + 1, A', c', _, ⟨by rw [List.length_append]; rfl, by go_num, by have := HE.out; omega, HP.out, H5'.out.below (((Below.refl _ _).alloc H5'.out.sz _).trans HB1.out), HQ1.out, HJ.out⟩, rfl⟩
                                case measure => simp [intOf]; omega
                              · have t : (X - 1 == 0) = false := by simpa using hz
                                have HJ := Lib.hid (show Ka g Q h v (p + 1) (upi I x (X - 1)) by rw [hX]; exact hk.step hx' hxg (by rw [← hX]; exact hz))
                                clear hk h5 hq hx hx' hX hAe hse hse' he hp hlt7 hz hql hlt
                                go_wp2
                                go_roundw
                                case rel => exact ⟨Q, p + 1, e + 1, Ar, c, _, rfl, by go_num, by have := HE.out; omega, HP.out, H5'.out, HQ'.out, HJ.out⟩
                                case measure => simp [intOf]; omega
                            · have hes : ¬ e < se := by omega
                              have HKO := Lib.hid (hk.leave (by omega))
                              have H5 := Lib.hid h5
                              have HQ := Lib.hid hq
                              clear hk h5 hq hse hse' he hp hlt7
                              go_wp2
                              go_roundw
                              case rel => exact ⟨Q, h + 1, Ar, c, I, rfl, by go_num, by go_num, H5.out, HQ.out, HKO.out⟩
                              case measure => simp [intOf]; omega
                        · obtain rfl : Q.length = h := by have := HK.out.hle; omega
                          have HEND := Lib.hid (HK.out.end_ HF.out)
                          rw [← HN.out] at HEND
                          clear HK
                          by_cases hh : Q.length < n
                          · have t : decide ((Q.length : Int) < (n : Int)) = true := by simpa using hh
                            go_wp2
                            go_ret
                            exact ⟨true, rfl, ⟨fun _ => HEND.out.1 hh, fun _ => rfl⟩, by rw [← HB.out]; exact H5.out.bel⟩
                          · have t : decide ((Q.length : Int) < (n : Int)) = false := by simpa using hh
                            go_wp2
                            go_ret
                            exact ⟨false, rfl, ⟨fun h => (by cases h), fun h => absurd (HEND.out.2 h) hh⟩, by rw [← HB.out]; exact H5.out.bel⟩
end Go.Proofs.YtfljkbfacncdgaaDoor.EnK
