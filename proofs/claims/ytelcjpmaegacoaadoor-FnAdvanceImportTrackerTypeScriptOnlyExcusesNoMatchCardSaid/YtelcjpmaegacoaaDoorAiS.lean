/- FnAdvanceImportTrackerTypeScriptOnlyExcusesNoMatch: buildAdvance. -/
import Derived.Test.YtelcjpmaegacoaaDoorRows
import Derived.Test.YtelcjpmaegacoaaDoorMem
import Derived.Test.YtelcjpmaegacoaaDoorSl
import Derived.Test.YtelcjpmaegacoaaDoorAiC
import Derived.Test.YtelcjpmaegacoaaDoorAiJ
import Derived.Great.BuildSlice
import Derived.Deep.RegionHeld3
import Derived.Deep.RegionLaw
import Derived.Carry
import Derived.Deep.DeepCutAuto
import Derived.WalkKit
import Derived.ProofKit
import Derived.OpenShut
import Derived.Below
import Derived.WalkLawsBesides
import Derived.Lib.Hide
import Derived.Outline
import Derived.RegionTactic
import Derived.Deep.QuietTactic
import Derived.BigQuiet
import Derived.WalkSpells
import Derived.Deep.OwnRows
import Derived.IntWalk
import Derived.Deep.DeepMust
namespace Go.Proofs.YtelcjpmaegacoaaDoor.AiS
open Go.RowKit Mem Sl
set_option linter.unusedVariables false
open Args Fvs AiP AiA AiC AiJ MapK Go.Maps

theorem fv_alloc {w : World} {g n : Nat} {V : Nat → Value} (h : Fv w g n V) (o : Obj) : Fv (w.alloc o) g n V := h.below ((Below.refl (g + 1) w).alloc h.lt o) (Nat.lt_succ_self g)
theorem fv_grown {w w' : World} {g n : Nat} {V : Nat → Value} {row : Option Nat} (h : Fv w g n V) (hg : w.grownBy w' row) (hne : some g ≠ row) : Fv w' g n V := by
  have hb := hg.block g h.lt hne
  refine ⟨Nat.lt_of_lt_of_le h.lt hg.size, fun i hi => ?_, fun o => ?_⟩
  · rw [← h.cell i hi]; simp [World.cell?, hb]
  · rw [← h.frozen o]; simp [World.frozen?, hb]
theorem below_map {w w' : World} {B b : Nat} {p : Addr} {u : Value} {o : Obj} (hg : ((w.setCell p u).alloc o).grownBy w' (some b)) (h : B ≤ p.block ∧ B ≤ b ∧ B ≤ w.heap.size) : Below B w w' :=
  ((Below.refl B w).setCell h.1 u |>.alloc (by simp; exact h.2.2) o).trans ⟨hg.os, hg.tape, hg.output, hg.size, fun j hj => hg.block j (by simp; omega) (fun e => by injection e with e; omega)⟩
def REC0 : Array Value := #[.pointer none, .pointer none, .string ByteArray.empty, .string ByteArray.empty, .string ByteArray.empty, .string ByteArray.empty, .int .u8 0, .int .i32 0, .int .i32 0, .int .i32 0, .int .u32 0, .int .u32 0, .int .u16 0, .int .u8 0, .int .u8 0]
/-- The importer is built. -/
structure Ri (p : Pa) (w : World) (I : Nat) (wx : World) : Prop where
  fv : Fv wx I 64 (up (fun i => c82[i]?.getD undef) 36 (.map (some (I + 1))))
  mp : ∃ n, MapF Tryd.prog wx (I + 1) 31 n (put (fun _ => none) (.agg #[.int .u32 0, .int .u32 0]) (imp p))
  r10 : wx.cell? ⟨I + 2, 10, none⟩ = some (.int .u32 (if p.valid = true then 4294967294 else 0))
  bel : Below I w wx
  sz : I + 2 < wx.heap.size
theorem ri_of {p : Pa} {w w3 w4 : World} {I : Nat} {n : Nat} (hv : Fv w3 I 64 (up (fun i => c82[i]?.getD undef) 36 (.map (some (I + 1))))) (hm : MapF Tryd.prog w3 (I + 1) 31 n (put (fun _ => none) (.agg #[.int .u32 0, .int .u32 0]) (imp p))) (hb : Below I w w3) (hz : w3.heap.size = I + 3) (h4 : Below w3.heap.size w3 w4) (r : w4.cell? ⟨I + 2, 10, none⟩ = some (.int .u32 0)) (hp : p.valid = true) :
    Ri p w I (w4.setCell ⟨I + 2, 10, none⟩ (.int .u32 4294967294)) :=
  ⟨Fv.far (hv.below h4 hv.lt) (by show I ≠ I + 2; omega) _, ⟨n, (hm.below h4 hm.lt).set (by show I + 1 ≠ I + 2; omega) _⟩, by rw [if_pos hp]; exact cell_self _ (by rw [r]; rfl), (hb.trans (h4.mono (by omega))).setCell (by show I ≤ I + 2; omega) _, by have := h4.size; simp; omega⟩
/-- The importer, as it is read. -/
structure Im (p : Pa) (I : Nat) (w : World) : Prop where
  c36 : w.cell? ⟨I, 36, none⟩ = some (.map (some (I + 1)))
  c35 : w.cell? ⟨I, 35, none⟩ = some (.slice (some ⟨I + 2, 0, none⟩) 1 1)
  mp : ∃ n, MapF Tryd.prog w (I + 1) 31 n (put (fun _ => none) (.agg #[.int .u32 0, .int .u32 0]) (imp p))
  r10 : w.cell? ⟨I + 2, 10, none⟩ = some (.int .u32 (if p.valid = true then 4294967294 else 0))
theorem Im.below {p : Pa} {I C : Nat} {w w' : World} (h : Im p I w) (hb : Below C w w') (hC : I + 2 < C) : Im p I w' := by
  obtain ⟨n, hm⟩ := h.mp
  exact ⟨(hb.cell (p := ⟨I, 36, none⟩) (by show I < C; omega)).trans h.c36, (hb.cell (p := ⟨I, 35, none⟩) (by show I < C; omega)).trans h.c35, ⟨n, hm.below hb (by omega)⟩, (hb.cell (p := ⟨I + 2, 10, none⟩) hC).trans h.r10⟩
theorem im_of {p : Pa} {w wc w5 : World} {I : Nat} (h : Ri p w I wc) (O : Nat) (hO : O = wc.heap.size) (h5 : w5 = (wc.setCell ⟨I, 35, none⟩ (.slice (some ⟨I + 2, 0, none⟩) 1 1)).alloc (.cells c82 82)) :
    Im p I w5 ∧ Fv w5 O 64 (fun i => c82[i]?.getD undef) ∧ Below I w w5 ∧ w5.heap.size = O + 1 ∧ I + 2 < O := by
  obtain ⟨n, hm⟩ := h.mp
  have l := h.sz
  have v1 := h.fv.set (show 35 < 64 by decide) (.slice (some ⟨I + 2, 0, none⟩) 1 1)
  have hz : (wc.setCell ⟨I, 35, none⟩ (.slice (some ⟨I + 2, 0, none⟩) 1 1)).heap.size = O := by rw [hO]; simp
  have v2 := made82 (wc.setCell ⟨I, 35, none⟩ (.slice (some ⟨I + 2, 0, none⟩) 1 1))
  rw [hz, ← h5] at v2
  have v3 := fv_alloc v1 (.cells c82 82)
  rw [← h5] at v3
  refine ⟨⟨v3.at_ (by decide) (by rw [up_ne _ _ (by decide), up_self]), v3.at_ (by decide) (by rw [up_self]), ⟨n, ?_⟩, ?_⟩, v2, ?_, by rw [h5]; simp [hz], by omega⟩
  · rw [h5]; exact (hm.set (by show I + 1 ≠ I; omega) _).alloc _
  · rw [h5, World.cell?_alloc_lt _ _ _ (by simp; omega)]
    exact (World.cell?_setCell_other _ _ _ _ (by simp)).trans h.r10
  · rw [h5]; exact (h.bel.setCell (Nat.le_refl I) _).alloc (by rw [hz]; omega) _
/-- The imported file, but for its export star. -/
structure Ot (p : Pa) (O : Nat) (w : World) : Prop where
  o59 : w.cell? ⟨O, 59, none⟩ = some (.bool p.lazy)
  o43 : w.cell? ⟨O, 43, none⟩ = some (.int .i32 p.kw)
  o60 : w.cell? ⟨O, 60, none⟩ = some (.bool p.ue)
  o61 : w.cell? ⟨O, 61, none⟩ = some (.bool p.um)
  o62 : w.cell? ⟨O, 62, none⟩ = some (.int .u8 p.kd)
  o48 : w.cell? ⟨O, 48, none⟩ = some (.int .u32 1)
  o49 : w.cell? ⟨O, 49, none⟩ = some (.int .u32 1073741824)
  o2 : w.cell? ⟨O, 2, none⟩ = some (.map (some (O + 1)))
  o3 : w.cell? ⟨O, 3, none⟩ = some (.pointer none)
  f3 : w.frozen? ⟨O, 3, none⟩ = false
theorem Ot.below {p : Pa} {O C : Nat} {w w' : World} (h : Ot p O w) (hb : Below C w w') (hC : O < C) : Ot p O w' := by
  have c : ∀ o, w'.cell? ⟨O, o, none⟩ = w.cell? ⟨O, o, none⟩ := fun o => hb.cell (p := ⟨O, o, none⟩) hC
  exact ⟨(c _).trans h.o59, (c _).trans h.o43, (c _).trans h.o60, (c _).trans h.o61, (c _).trans h.o62, (c _).trans h.o48, (c _).trans h.o49, (c _).trans h.o2, (c _).trans h.o3, (hb.frozen (p := ⟨O, 3, none⟩) hC).trans h.f3⟩
set_option maxRecDepth 20000 in
theorem ot_of (p : Pa) {O : Nat} {w5 w6 : World} (v5 : Fv w5 O 64 (fun i => c82[i]?.getD undef)) (hz : w5.heap.size = O + 1) (h6 : w6 = ((((((((w5.setCell ⟨O, 59, none⟩ (.bool p.lazy)).setCell ⟨O, 43, none⟩ (.int .i32 p.kw)).setCell ⟨O, 60, none⟩ (.bool p.ue)).setCell ⟨O, 61, none⟩ (.bool p.um)).setCell ⟨O, 62, none⟩ (.int .u8 p.kd)).setCell ⟨O, 48, none⟩ (.int .u32 1)).setCell ⟨O, 49, none⟩ (.int .u32 1073741824)).setCell ⟨O, 2, none⟩ (.map (some (O + 1)))).alloc (.map #[] 0)) :
    Ot p O w6 ∧ MapF Tryd.prog w6 (O + 1) 9 0 (fun _ => none) ∧ Below O w5 w6 ∧ w6.heap.size = O + 2 := by
  have v6 := fv_alloc ((((((((v5.set (show 59 < 64 by decide) (.bool p.lazy)).set (show 43 < 64 by decide) (.int .i32 p.kw)).set (show 60 < 64 by decide) (.bool p.ue)).set (show 61 < 64 by decide) (.bool p.um)).set (show 62 < 64 by decide) (.int .u8 p.kd)).set (show 48 < 64 by decide) (.int .u32 1)).set (show 49 < 64 by decide) (.int .u32 1073741824)).set (show 2 < 64 by decide) (.map (some (O + 1)))) (.map #[] 0)
  have hm := mapF_made (P := Tryd.prog) ((((((((w5.setCell ⟨O, 59, none⟩ (.bool p.lazy)).setCell ⟨O, 43, none⟩ (.int .i32 p.kw)).setCell ⟨O, 60, none⟩ (.bool p.ue)).setCell ⟨O, 61, none⟩ (.bool p.um)).setCell ⟨O, 62, none⟩ (.int .u8 p.kd)).setCell ⟨O, 48, none⟩ (.int .u32 1)).setCell ⟨O, 49, none⟩ (.int .u32 1073741824)).setCell ⟨O, 2, none⟩ (.map (some (O + 1)))) 9
  have hs : ((((((((w5.setCell ⟨O, 59, none⟩ (.bool p.lazy)).setCell ⟨O, 43, none⟩ (.int .i32 p.kw)).setCell ⟨O, 60, none⟩ (.bool p.ue)).setCell ⟨O, 61, none⟩ (.bool p.um)).setCell ⟨O, 62, none⟩ (.int .u8 p.kd)).setCell ⟨O, 48, none⟩ (.int .u32 1)).setCell ⟨O, 49, none⟩ (.int .u32 1073741824)).setCell ⟨O, 2, none⟩ (.map (some (O + 1)))).heap.size = O + 1 := by simp [hz]
  rw [hs, ← h6] at hm
  rw [← h6] at v6
  have p3 := c82_at.2.2.2.2.2.2.2.2.2.2
  refine ⟨⟨v6.at_ (by decide) (by simp [Fvs.up]), v6.at_ (by decide) (by simp [Fvs.up]), v6.at_ (by decide) (by simp [Fvs.up]), v6.at_ (by decide) (by simp [Fvs.up]), v6.at_ (by decide) (by simp [Fvs.up]), v6.at_ (by decide) (by simp [Fvs.up]), v6.at_ (by decide) (by simp [Fvs.up]), v6.at_ (by decide) (by simp [Fvs.up]), v6.at_ (by decide) (by simp [Fvs.up, p3]), v6.frozen 3⟩, hm, ?_, by rw [h6]; simp [hz]⟩
  rw [h6]
  exact (((((((((Below.refl O w5).setCell (p := ⟨O, 59, none⟩) (Nat.le_refl O) _).setCell (p := ⟨O, 43, none⟩) (Nat.le_refl O) _).setCell (p := ⟨O, 60, none⟩) (Nat.le_refl O) _).setCell (p := ⟨O, 61, none⟩) (Nat.le_refl O) _).setCell (p := ⟨O, 62, none⟩) (Nat.le_refl O) _).setCell (p := ⟨O, 48, none⟩) (Nat.le_refl O) _).setCell (p := ⟨O, 49, none⟩) (Nat.le_refl O) _).setCell (p := ⟨O, 2, none⟩) (Nat.le_refl O) _).alloc (by rw [hs]; omega) _
theorem step_mapUpdate_run {P : Program} {ops : Array Oper} {o : Oper} {a : Act} {w : World} {K : Act → World → Prop} {Q : Exit → Act → World → Prop} {E : Prop}
    (hg : o.guard = none) (m x v : Operand) (t : TypeId) (hop : o.op = Op.mapUpdate t m x v) (vm vx vv : Value) (W : World) (hm : a.eval m = vm) (hx : a.eval x = vx) (hv : a.eval v = vv)
    (hrun : (Instr.mapUpdate t vm vx vv).run P w = .ok () W) (hK : K (a.put o.dst undef) W) : if Region.wanted o (yielded ops a.tmps) = true then Oper.wp P o a w K Q else E := by
  have hw : Region.wanted o (yielded ops a.tmps) = true := by simp [Region.wanted, hg]
  rw [if_pos hw]
  unfold Oper.wp
  simp [execOp, hop, hm, hx, hv, hrun, Result.andThen]
  exact hK
noncomputable def tabF (g : Nat → ByteArray) (V : Nat → Value) : Nat → Value → Option Value
  | 0 => fun _ => none
  | k + 1 => put (tabF g V k) (.string (g k)) (V k)
def vj (bj : Nat → Nat) (j : Nat) : Value := .agg #[.slice (some ⟨bj j, 0, none⟩) 1 1, .int .u32 1, .int .u32 (j : Int), .int .i32 ((j : Int) + 1), .int .u32 ((j : Int) + 5)]
theorem tabF_congr {g : Nat → ByteArray} {V V' : Nat → Value} : ∀ {k}, (∀ j, j < k → V j = V' j) → tabF g V k = tabF g V' k
  | 0, _ => rfl
  | k + 1, h => by
    unfold tabF
    rw [tabF_congr (k := k) (fun j hj => h j (by omega)), h k (Nat.lt_succ_self k)]
/-- One import's place in the list of the ambiguous. -/
structure Ab (w : World) (b o : Nat) (x : Int) : Prop where
  lt : b < w.heap.size
  a0 : w.cell? ⟨b, o, none⟩ = some (.slice none 0 0)
  a1 : w.cell? ⟨b, o + 1, none⟩ = some (.int .i32 0)
  a2 : w.cell? ⟨b, o + 2, none⟩ = some (.int .u32 0)
  a3 : w.cell? ⟨b, o + 3, none⟩ = some (.int .u32 0)
  a4 : w.cell? ⟨b, o + 4, none⟩ = some (.int .u32 x)
theorem Ab.below {w w' : World} {b o C : Nat} {x : Int} (h : Ab w b o x) (hb : Below C w w') (hC : b < C) : Ab w' b o x := by
  have c : ∀ o, w'.cell? ⟨b, o, none⟩ = w.cell? ⟨b, o, none⟩ := fun o => hb.cell (p := ⟨b, o, none⟩) hC
  exact ⟨Nat.lt_of_lt_of_le h.lt hb.size, (c _).trans h.a0, (c _).trans h.a1, (c _).trans h.a2, (c _).trans h.a3, (c _).trans h.a4⟩
/-- Before the k-th export. -/
structure Lp (p : Pa) (I O : Nat) (w : World) (k : Nat) (bj : Nat → Nat) (wr : World) : Prop where
  im : Im p I wr
  ot : Ot p O wr
  mp : ∃ c, MapF Tryd.prog wr (O + 1) 9 c (tabF p.g (vj bj) k)
  rows : ∀ j, j < k → O + 1 < bj j ∧ Ab wr (bj j) 0 ((j : Int) + 7)
  bel : Below I w wr
  sz : O + 1 < wr.heap.size
  IO : I + 2 < O
/-- What was built. -/
structure Bd (p : Pa) (I O : Nat) (w : World) : Prop where
  im : Im p I w
  o59 : w.cell? ⟨O, 59, none⟩ = some (.bool p.lazy)
  o43 : w.cell? ⟨O, 43, none⟩ = some (.int .i32 p.kw)
  o60 : w.cell? ⟨O, 60, none⟩ = some (.bool p.ue)
  o61 : w.cell? ⟨O, 61, none⟩ = some (.bool p.um)
  o62 : w.cell? ⟨O, 62, none⟩ = some (.int .u8 p.kd)
  o48 : w.cell? ⟨O, 48, none⟩ = some (.int .u32 1)
  o49 : w.cell? ⟨O, 49, none⟩ = some (.int .u32 1073741824)
  o2 : w.cell? ⟨O, 2, none⟩ = some (.map (some (O + 1)))
  ex : ∃ c bj, MapF Tryd.prog w (O + 1) 9 c (tabF p.g (vj bj) p.n) ∧ ∀ j, j < p.n → Ab w (bj j) 0 ((j : Int) + 7)
  st : (p.hs = false ∧ w.cell? ⟨O, 3, none⟩ = some (.pointer none)) ∨ (p.hs = true ∧ ∃ s b, w.cell? ⟨O, 3, none⟩ = some (.pointer (some ⟨s, 0, none⟩)) ∧ s < w.heap.size ∧ w.cell? ⟨s, 0, none⟩ = some (.slice (some ⟨b, 0, none⟩) 2 2) ∧ w.cell? ⟨s, 1, none⟩ = some (.int .u32 3) ∧ w.cell? ⟨s, 2, none⟩ = some (.int .u32 77) ∧ w.cell? ⟨s, 3, none⟩ = some (.int .i32 99) ∧ w.cell? ⟨s, 4, none⟩ = some (.int .u32 3) ∧ Ab w b 0 4 ∧ Ab w b 5 6)
  IO : I + 2 < O
  sz : O + 1 < w.heap.size
theorem Bd.later {p : Pa} {I O : Nat} {w w' : World} (h : Bd p I O w) (hb : Below w.heap.size w w') : Bd p I O w' := by
  have l := h.sz
  have l2 := h.IO
  have c : ∀ b o, b < w.heap.size → w'.cell? ⟨b, o, none⟩ = w.cell? ⟨b, o, none⟩ := fun b o hl => hb.cell (p := ⟨b, o, none⟩) hl
  obtain ⟨n, bj, hm, hr⟩ := h.ex
  refine ⟨h.im.below hb (by omega), (c _ _ (by omega)).trans h.o59, (c _ _ (by omega)).trans h.o43, (c _ _ (by omega)).trans h.o60, (c _ _ (by omega)).trans h.o61, (c _ _ (by omega)).trans h.o62, (c _ _ (by omega)).trans h.o48, (c _ _ (by omega)).trans h.o49, (c _ _ (by omega)).trans h.o2, ⟨n, bj, hm.below hb hm.lt, fun j hj => (hr j hj).below hb (hr j hj).lt⟩, ?_, l2, by have := hb.size; omega⟩
  rcases h.st with ⟨a, b⟩ | ⟨a, s, b, q0, q1, q2, q3, q4, q5, q6, q7, q8⟩
  · exact .inl ⟨a, (c _ _ (by omega)).trans b⟩
  · exact .inr ⟨a, s, b, (c _ _ (by omega)).trans q0, by have := hb.size; omega, (c _ _ q1).trans q2, (c _ _ q1).trans q3, (c _ _ q1).trans q4, (c _ _ q1).trans q5, (c _ _ q1).trans q6, q7.below hb q7.lt, q8.below hb q8.lt⟩
theorem bd_none {p : Pa} {I O : Nat} {w wr : World} {bj : Nat → Nat} (h : Lp p I O w p.n bj wr) (hp : p.hs = false) : Bd p I O wr := by
  obtain ⟨c, hm⟩ := h.mp
  exact ⟨h.im, h.ot.o59, h.ot.o43, h.ot.o60, h.ot.o61, h.ot.o62, h.ot.o48, h.ot.o49, h.ot.o2, ⟨c, bj, hm, fun j hj => (h.rows j hj).2⟩, .inl ⟨hp, h.ot.o3⟩, h.IO, h.sz⟩
theorem Ab.far {w : World} {b o : Nat} {x : Int} {p : Addr} (h : Ab w b o x) (hp : b ≠ p.block) (u : Value) : Ab (w.setCell p u) b o x := by
  have c : ∀ o, (w.setCell p u).cell? ⟨b, o, none⟩ = w.cell? ⟨b, o, none⟩ := fun o => World.cell?_of_block (a := ⟨b, o, none⟩) (Below.heap_setCell w p u b hp)
  exact ⟨by simpa using h.lt, (c _).trans h.a0, (c _).trans h.a1, (c _).trans h.a2, (c _).trans h.a3, (c _).trans h.a4⟩
theorem bd_star {p : Pa} {I O : Nat} {w wr : World} {bj : Nat → Nat} (h : Lp p I O w p.n bj wr) (hp : p.hs = true) : Bd p I O (((wr.alloc (.cells #[.slice (some ⟨wr.heap.size + 1, 0, none⟩) 2 2, .int .u32 3, .int .u32 77, .int .i32 99, .int .u32 3] 100)).alloc (.cells #[.slice none 0 0, .int .i32 0, .int .u32 0, .int .u32 0, .int .u32 4, .slice none 0 0, .int .i32 0, .int .u32 0, .int .u32 0, .int .u32 6] 103)).setCell ⟨O, 3, none⟩ (.pointer (some ⟨wr.heap.size, 0, none⟩))) ∧ Below I w (((wr.alloc (.cells #[.slice (some ⟨wr.heap.size + 1, 0, none⟩) 2 2, .int .u32 3, .int .u32 77, .int .i32 99, .int .u32 3] 100)).alloc (.cells #[.slice none 0 0, .int .i32 0, .int .u32 0, .int .u32 0, .int .u32 4, .slice none 0 0, .int .i32 0, .int .u32 0, .int .u32 0, .int .u32 6] 103)).setCell ⟨O, 3, none⟩ (.pointer (some ⟨wr.heap.size, 0, none⟩))) := by
  have l := h.sz
  have l2 := h.IO
  have hal : Below wr.heap.size wr ((wr.alloc (.cells #[.slice (some ⟨wr.heap.size + 1, 0, none⟩) 2 2, .int .u32 3, .int .u32 77, .int .i32 99, .int .u32 3] 100)).alloc (.cells #[.slice none 0 0, .int .i32 0, .int .u32 0, .int .u32 0, .int .u32 4, .slice none 0 0, .int .i32 0, .int .u32 0, .int .u32 0, .int .u32 6] 103)) := ((Below.refl _ _).alloc (Nat.le_refl _) _).alloc (by simp) _
  have r1 := (Row.newArr wr 100 #[.slice (some ⟨wr.heap.size + 1, 0, none⟩) 2 2, .int .u32 3, .int .u32 77, .int .i32 99, .int .u32 3]).alloc (.cells #[.slice none 0 0, .int .i32 0, .int .u32 0, .int .u32 0, .int .u32 4, .slice none 0 0, .int .i32 0, .int .u32 0, .int .u32 0, .int .u32 6] 103)
  have r2 := Row.newArr (wr.alloc (.cells #[.slice (some ⟨wr.heap.size + 1, 0, none⟩) 2 2, .int .u32 3, .int .u32 77, .int .i32 99, .int .u32 3] 100)) 103 #[.slice none 0 0, .int .i32 0, .int .u32 0, .int .u32 0, .int .u32 4, .slice none 0 0, .int .i32 0, .int .u32 0, .int .u32 0, .int .u32 6]
  simp only [World.size_alloc] at r2
  obtain ⟨W, hW⟩ : ∃ W, W = ((wr.alloc (.cells #[.slice (some ⟨wr.heap.size + 1, 0, none⟩) 2 2, .int .u32 3, .int .u32 77, .int .i32 99, .int .u32 3] 100)).alloc (.cells #[.slice none 0 0, .int .i32 0, .int .u32 0, .int .u32 0, .int .u32 4, .slice none 0 0, .int .i32 0, .int .u32 0, .int .u32 0, .int .u32 6] 103)) := ⟨_, rfl⟩
  rw [← hW] at hal r1 r2 ⊢
  have hot := h.ot.below hal (by omega)
  have him := h.im.below hal (by omega)
  have hs : Below O W (W.setCell ⟨O, 3, none⟩ (.pointer (some ⟨wr.heap.size, 0, none⟩))) := (Below.refl O W).setCell (p := ⟨O, 3, none⟩) (Nat.le_refl O) _
  have c : ∀ o, o ≠ 3 → (W.setCell ⟨O, 3, none⟩ (.pointer (some ⟨wr.heap.size, 0, none⟩))).cell? ⟨O, o, none⟩ = W.cell? ⟨O, o, none⟩ := fun o ho => World.cell?_setCell_other _ _ _ _ (by simp <;> omega)
  have d : ∀ o, (W.setCell ⟨O, 3, none⟩ (.pointer (some ⟨wr.heap.size, 0, none⟩))).cell? ⟨wr.heap.size, o, none⟩ = W.cell? ⟨wr.heap.size, o, none⟩ := fun o => World.cell?_setCell_other _ _ _ _ (by simp <;> omega)
  obtain ⟨cn, hm⟩ := h.mp
  have hl1 := r1.lt
  refine ⟨⟨him.below hs (by omega), (c _ (by decide)).trans hot.o59, (c _ (by decide)).trans hot.o43, (c _ (by decide)).trans hot.o60, (c _ (by decide)).trans hot.o61, (c _ (by decide)).trans hot.o62, (c _ (by decide)).trans hot.o48, (c _ (by decide)).trans hot.o49, (c _ (by decide)).trans hot.o2, ⟨cn, bj, (hm.below hal hm.lt).set (by show O + 1 ≠ O; omega) _, fun j hj => ?_⟩, .inr ⟨hp, wr.heap.size, wr.heap.size + 1, cell_self _ (by rw [hot.o3]; rfl), by simpa using hl1, (d _).trans (r1.at_ (i := 0) rfl), (d _).trans (r1.at_ (i := 1) rfl), (d _).trans (r1.at_ (i := 2) rfl), (d _).trans (r1.at_ (i := 3) rfl), (d _).trans (r1.at_ (i := 4) rfl), ?_, ?_⟩, l2, by have := hal.size; simp; omega⟩, ?_⟩
  · obtain ⟨q1, q2⟩ := h.rows j hj
    exact (q2.below hal q2.lt).far (by show bj j ≠ O; omega) _
  · exact Ab.far ⟨r2.lt, r2.at_ (i := 0) rfl, r2.at_ (i := 1) rfl, r2.at_ (i := 2) rfl, r2.at_ (i := 3) rfl, r2.at_ (i := 4) rfl⟩ (by show wr.heap.size + 1 ≠ O; omega) _
  · exact Ab.far ⟨r2.lt, r2.at_ (i := 5) rfl, r2.at_ (i := 6) rfl, r2.at_ (i := 7) rfl, r2.at_ (i := 8) rfl, r2.at_ (i := 9) rfl⟩ (by show wr.heap.size + 1 ≠ O; omega) _
  · exact h.bel.trans ((hal.mono (by omega)).trans (hs.mono (by omega)))
noncomputable def z125 : Value := ((Tryd.prog.info? 125).bind (·.zero)).getD undef
theorem info125 : (Tryd.prog.info? 125).map (fun i => (i.zero, i.size)) = some (some z125, 24) := by kernel_rfl
/-- The files that were built. -/
structure Lf (p : Pa) (ts : Bool) (F I O : Nat) (w : World) : Prop where
  bd : Bd p I O w
  f2 : w.cell? ⟨F, 2, none⟩ = some (.iface 36 (.pointer (some ⟨I, 0, none⟩)))
  f18 : w.cell? ⟨F, 18, none⟩ = some (.int .u8 (if ts = true then 16 else 10))
  f26 : w.cell? ⟨F, 26, none⟩ = some (.iface 36 (.pointer (some ⟨O, 0, none⟩)))
  lt : F < w.heap.size
theorem Lf.later {p : Pa} {ts : Bool} {F I O : Nat} {w w' : World} (h : Lf p ts F I O w) (hb : Below w.heap.size w w') : Lf p ts F I O w' := by
  have l := h.lt
  have c : ∀ o, w'.cell? ⟨F, o, none⟩ = w.cell? ⟨F, o, none⟩ := fun o => hb.cell (p := ⟨F, o, none⟩) l
  exact ⟨h.bd.later hb, (c _).trans h.f2, (c _).trans h.f18, (c _).trans h.f26, Nat.lt_of_lt_of_le l hb.size⟩
def Bl (p : Pa) (ts : Bool) (w : World) (e : Ending) (w' : World) : Prop := ∃ F I O, e = .returned (.slice (some ⟨F, 0, none⟩) 2 2) ∧ Lf p ts F I O w' ∧ Below w.heap.size w w'
theorem cat_at (I O : Nat) (l : Int) : (c125 I l ++ c125 O 10).toList[2]? = some (.iface 36 (.pointer (some ⟨I, 0, none⟩))) ∧ (c125 I l ++ c125 O 10).toList[18]? = some (.int .u8 l) ∧ (c125 I l ++ c125 O 10).toList[26]? = some (.iface 36 (.pointer (some ⟨O, 0, none⟩))) := ⟨by kernel_rfl, by kernel_rfl, by kernel_rfl⟩
theorem bl_of {p : Pa} {ts : Bool} {I O : Nat} {w wz wa wb : World} {l : Int} (hl : l = if ts = true then 16 else 10) (hbd : Bd p I O wz) (hI : I = w.heap.size) (hb : Below I w wz) (ha : Below wz.heap.size wz wa) (hbb : Below wa.heap.size wa wb) : Bl p ts w (.returned (.slice (some ⟨wb.heap.size, 0, none⟩) 2 2)) (wb.alloc (.cells (c125 I l ++ c125 O 10) 125)) := by
  obtain ⟨q1, q2, q3⟩ := cat_at I O l
  generalize c125 I l ++ c125 O 10 = D at q1 q2 q3 ⊢
  have hal : Below wb.heap.size wb (wb.alloc (.cells D 125)) := (Below.refl _ _).alloc (Nat.le_refl _) _
  have r := Row.newArr wb 125 D
  rw [hl] at q2
  have hbw : Below w.heap.size w wz := by rw [← hI]; exact hb
  exact ⟨_, I, O, rfl, ⟨((hbd.later ha).later hbb).later hal, r.at_ (i := 2) q1, r.at_ (i := 18) q2, r.at_ (i := 26) q3, r.lt⟩, hbw.trans ((ha.trans ((hbb.trans (hal.mono hbb.size)).mono ha.size)).mono hbw.size)⟩
theorem lp_start {p : Pa} {I O : Nat} {w w6 : World} (h : Im p I w6) (ho : Ot p O w6) (hm : MapF Tryd.prog w6 (O + 1) 9 0 (fun _ => none)) (hb : Below I w w6) (hz : w6.heap.size = O + 2) (hi : I + 2 < O) : Lp p I O w 0 (fun _ => 0) w6 :=
  ⟨h, ho, ⟨0, hm⟩, fun j hj => absurd hj (Nat.not_lt_zero j), hb, by omega, hi⟩
theorem Ab.grown {w w' : World} {b o : Nat} {x : Int} {row : Option Nat} (h : Ab w b o x) (hg : w.grownBy w' row) (hne : some b ≠ row) : Ab w' b o x := by
  have c : ∀ o, w'.cell? ⟨b, o, none⟩ = w.cell? ⟨b, o, none⟩ := fun o => World.cell?_of_block (a := ⟨b, o, none⟩) (hg.block b h.lt hne)
  exact ⟨Nat.lt_of_lt_of_le h.lt hg.size, (c _).trans h.a0, (c _).trans h.a1, (c _).trans h.a2, (c _).trans h.a3, (c _).trans h.a4⟩
theorem lp_next {p : Pa} {I O : Nat} {w wr W8 w7 : World} {k : Nat} {bj : Nat → Nat} {c' : Nat} (h : Lp p I O w k bj wr)
    (hm : MapF Tryd.prog w7 (O + 1) 9 c' (put (tabF p.g (vj bj) k) (.string (p.g k)) (.agg #[.slice (some ⟨wr.heap.size + 1, 0, none⟩) 1 1, .int .u32 1, .int .u32 (k : Int), .int .i32 ((k : Int) + 1), .int .u32 ((k : Int) + 5)])))
    (h8 : W8 = ((wr.alloc (.cells #[.slice (some ⟨wr.heap.size + 1, 0, none⟩) 1 1, .int .u32 1, .int .u32 (k : Int), .int .i32 ((k : Int) + 1), .int .u32 ((k : Int) + 5)] 100)).alloc (.cells #[.slice none 0 0, .int .i32 0, .int .u32 0, .int .u32 0, .int .u32 ((k : Int) + 7)] 103))) (hg : W8.drew.grownBy w7 (some (O + 1))) : Lp p I O w (k + 1) (Fvs.up bj k (wr.heap.size + 1)) w7 := by
  have l := h.sz
  have l2 := h.IO
  have hal : Below wr.heap.size wr W8 := by rw [h8]; exact ((Below.refl _ _).alloc (Nat.le_refl _) _).alloc (by simp) _
  have hdr : Below wr.heap.size wr W8.drew := hal.drew
  have hb7 : Below (O + 1) wr w7 := (hdr.mono (by omega)).trans ⟨hg.os, hg.tape, hg.output, hg.size, fun j hj => hg.block j (by have := hdr.size; omega) (fun e => by injection e with e; omega)⟩
  have hrow : Ab W8.drew (wr.heap.size + 1) 0 ((k : Int) + 7) := by
    have r := Row.newArr (wr.alloc (.cells #[.slice (some ⟨wr.heap.size + 1, 0, none⟩) 1 1, .int .u32 1, .int .u32 (k : Int), .int .i32 ((k : Int) + 1), .int .u32 ((k : Int) + 5)] 100)) 103 #[.slice none 0 0, .int .i32 0, .int .u32 0, .int .u32 0, .int .u32 ((k : Int) + 7)]
    simp only [World.size_alloc] at r
    rw [← h8] at r
    exact ⟨r.lt, r.at_ (i := 0) rfl, r.at_ (i := 1) rfl, r.at_ (i := 2) rfl, r.at_ (i := 3) rfl, r.at_ (i := 4) rfl⟩
  refine ⟨h.im.below hb7 (by omega), h.ot.below hb7 (by omega), ⟨c', ?_⟩, fun j hj => ?_, h.bel.trans (hb7.mono (by omega)), by have := hb7.size; omega, l2⟩
  · have e : tabF p.g (vj (Fvs.up bj k (wr.heap.size + 1))) k = tabF p.g (vj bj) k := tabF_congr (fun j hj => by unfold vj; rw [Fvs.up_ne _ _ (by omega)])
    unfold tabF
    rw [e]
    unfold vj
    rw [Fvs.up_self]
    exact hm
  · by_cases e : j = k
    · subst e
      rw [Fvs.up_self]
      exact ⟨by omega, hrow.grown hg (fun e => by injection e with e; omega)⟩
    · rw [Fvs.up_ne _ _ e]
      obtain ⟨a, b⟩ := h.rows j (by omega)
      exact ⟨a, (b.below hdr b.lt).grown hg (fun e => by injection e with e; omega)⟩
theorem names_at {p : Pa} {I O : Nat} {w wr : World} {k : Nat} {bj : Nat → Nat} {A : Option Addr} (h : Rs w A p.n (fun i => .string (p.g i))) (hk : k < p.n) (hl : Lp p I O w k bj wr) (hI : I = w.heap.size) : ∃ q o, A = some ⟨q, o, none⟩ ∧ q < I ∧ wr.cell? ⟨q, o + k, none⟩ = some (.string (p.g k)) := by
  subst hI
  obtain ⟨q, o, h1, h2, h3⟩ := h k hk
  exact ⟨q, o, h1, h2, cell_later hl.bel h3⟩
end Go.Proofs.YtelcjpmaegacoaaDoor.AiS
