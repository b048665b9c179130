/- FnEnforceNoCyclicChunkImportsErrsIffStaticCycle: the chunks. -/
import Derived.Test.YtfljkbfacncdgaaDoorRows
import Derived.Test.YtfljkbfacncdgaaDoorMem
import Derived.Test.YtfljkbfacncdgaaDoorSl
import Derived.Test.YtfljkbfacncdgaaDoorEnL
import Derived.Test.YtfljkbfacncdgaaDoorOwg
import Derived.Deep.RegionHeld3
import Derived.Deep.RegionLaw
import Derived.Great.BuildSlice
import Derived.Laws.EntriesVeiled
import Derived.Maps.AppendAt
import Derived.Laws.CopyOwn
import Derived.WalkKit
import Derived.ProofKit
import Derived.OpenShut
import Derived.Below
import Derived.WalkLawsBesides
import Derived.Lib.Hide
import Derived.Outline
import Derived.RegionTactic
import Derived.Deep.QuietTactic
import Derived.BigQuiet
import Derived.WalkSpells
import Derived.Deep.OwnRows
import Derived.IntWalk
import Derived.Deep.DeepMust
namespace Go.Proofs.YtfljkbfacncdgaaDoor.EnF
open Go.RowKit Mem Sl
set_option linter.unusedVariables false
open Args Fvs EnA EnL
theorem step_append_run {P : Program} {ops : Array Oper} {o : Oper} {a : Act} {w : World} {K : Act → World → Prop} {Q : Exit → Act → World → Prop} {E : Prop}
    (hg : o.guard = none) (s x : Operand) (t : TypeId) (hop : o.op = Op.call { callee := Callee.builtin Builtin.append, args := #[s, x], argTypes := #[t, t] })
    (vs vx v : Value) (W : World) (hs : a.eval s = vs) (hx : a.eval x = vx) (hrun : (Builtin.append_ #[t, t] o.type #[vs, vx]).run P w = .ok v W) (hK : K (a.put o.dst v) W) :
    if Region.wanted o (yielded ops a.tmps) = true then Oper.wp P o a w K Q else E := by
  have hw : Region.wanted o (yielded ops a.tmps) = true := by simp [Region.wanted, hg]
  rw [if_pos hw]
  unfold Oper.wp
  simp [execOp, hop, resolve, invoke, builtin, hs, hx, hrun, Result.andThen]
  exact hK
theorem yields_build {P : Program} {ops : Array Oper} {S : World → Prop} {o : Oper} {a : Act} (t : TypeId) (parts : Array (Nat × Operand)) (ho : o.op = .build t parts) (hw : Region.wanted o (yielded ops a.tmps) = true) (cells : Array Value)
    (hf : P.built t (parts.map fun (i, x) => (i, a.eval x)).toList = some cells) : YieldsIf P ops S o (.agg cells) a := by
  refine .inl ⟨hw, fun w _ => ?_⟩
  unfold execOp
  simp only [ho, Sem.run_bind, run_build w t _ _ hf, Result.andThen_ok]
  rfl
theorem take_to {P : Program} {md : Region.Mode} {ops : Array Oper} {Q : Exit → Act → World → Prop} {S : World → Prop} {i : Nat} {oi : Oper} {d : Option Tmp} {v : Value} {fuel : Nat} {listed : Array Bool} {a : Act} {w : World} (hi : ops[i]? = some oi) (hd : oi.dst = d)
    (hs : Region.noSelect ops = true) (hf : Region.free md ops listed i = true) (hr : (Region.ready md ops listed).contains i = true)
    (hQ : ∀ c a w, Q (.panic c) (a.put d v) w → Q (.panic c) a w) (hy : YieldsIf P ops S oi v a) (hS : S w)
    (h : wpAnyH P md ops Q S fuel (listed.setIfInBounds i true) (a.put d v) w) : wpAnyH P md ops Q S (fuel + 1) listed a w := by
  subst hd
  exact wpAnyH_take hi hs hf hr hQ hy hS h
theorem step_box {P : Program} {ops : Array Oper} {o : Oper} {a : Act} {w : World} {K : Act → World → Prop} {Q : Exit → Act → World → Prop} {E : Prop} (hg : o.guard = none) (t : TypeId) (x : Operand) (hop : o.op = .box t x) (cells : Array Value) (hx : a.eval x = .agg cells) (d : Option Tmp) (hd : o.dst = d)
    (hK : K (a.put d (.pointer (some ⟨w.heap.size, 0, none⟩))) (w.alloc (.cells cells t))) : if Region.wanted o (yielded ops a.tmps) = true then Oper.wp P o a w K Q else E := by
  subst hd
  have hw : Region.wanted o (yielded ops a.tmps) = true := by simp [Region.wanted, hg]
  rw [if_pos hw]
  unfold Oper.wp
  have : (Instr.box t (.agg cells)).run P w = .ok (.pointer (some ⟨w.heap.size, 0, none⟩)) (w.alloc (.cells cells t)) := rfl
  simp [execOp, hop, hx, this, Result.andThen]
  exact hK
theorem step_store_rowat {P : Program} {ops : Array Oper} {o : Oper} {a : Act} {w : World} {K : Act → World → Prop} {Q : Exit → Act → World → Prop} {E : Prop} (hgd : o.guard = none) (ty : TypeId) (x y : Operand) (hop : o.op = .store ty x y) (g off : Nat) (cells : Array Value)
    (hx : a.eval x = .pointer (some ⟨g, off, none⟩)) (hy : a.eval y = .agg cells) (t : TypeId) (cur : Array Value) (hcur : w.heap[g]? = some (.cells cur t (0, 0))) (hi : (P.info? ty).map (·.size) = some cells.size) (hb : off + cells.size ≤ cur.size) (h1 : cells.all (·.oneCell') = true)
    (hd : o.dst = none)
    (hK : K a (w.setRow g (cur.toList.take off ++ cells.toList ++ cur.toList.drop (off + cells.size)).toArray)) : if Region.wanted o (yielded ops a.tmps) = true then Oper.wp P o a w K Q else E := by
  have hw : Region.wanted o (yielded ops a.tmps) = true := by simp [Region.wanted, hgd]
  rw [if_pos hw]
  have hst : (storeVar ty ⟨g, off, none⟩ (.agg cells)).run P w = .ok () (w.setRow g (cur.toList.take off ++ cells.toList ++ cur.toList.drop (off + cells.size)).toArray) := by
    have := run_storeCells_at (P := P) g off t cells.toList 0 cur w hcur (by simp; omega) (fun v hv => (Array.all_eq_true_iff_forall_mem.1 h1) v (by simpa using hv))
    cases hq : P.info? ty with
    | none => simp [hq] at hi
    | some i =>
      have hs : cells.size = i.size := by simp [hq] at hi; omega
      simp [storeVar, sizeOf, typeInfo, hq, Value.cells, hs]
      simpa [hs] using this
  unfold Oper.wp execOp
  simp only [hop, hx, hy, Instr.storeAt, Instr.sureAddr, Sem.run_bind, Sem.run_pure, Result.andThen_ok, hst]
  show K (a.put o.dst undef) _
  rw [hd]
  exact hK

abbrev REC (x k : Int) : List Value := [.int .u32 x, .int .u8 k]
def rcs (L : List (Int × Int)) : List Value := L.flatMap fun p => REC p.1 p.2
theorem rcs_length (L : List (Int × Int)) : (rcs L).length = L.length * 2 := by
  induction L with
  | nil => rfl
  | cons a t ih =>
    have : rcs (a :: t) = REC a.1 a.2 ++ rcs t := by simp [rcs]
    rw [this, List.length_append, ih]
    show 2 + t.length * 2 = (t.length + 1) * 2
    omega
theorem rcs_append (L : List (Int × Int)) (x k : Int) : rcs (L ++ [(x, k)]) = rcs L ++ REC x k := by simp [rcs]
theorem rcs_at : ∀ (L : List (Int × Int)) (j : Nat) (x k : Int), L[j]? = some (x, k) → (rcs L)[j * 2]? = some (.int .u32 x) ∧ (rcs L)[j * 2 + 1]? = some (.int .u8 k)
  | [], j, x, k, h => by simp at h
  | a :: t, 0, x, k, h => by
    simp at h
    subst h
    exact ⟨rfl, rfl⟩
  | a :: t, j + 1, x, k, h => by
    have ih := rcs_at t j x k (by simpa using h)
    have : rcs (a :: t) = .int .u32 a.1 :: .int .u8 a.2 :: rcs t := rfl
    rw [this, show (j + 1) * 2 = j * 2 + 1 + 1 by omega, show j * 2 + 1 + 1 + 1 = (j * 2 + 1) + 1 + 1 by omega, List.getElem?_cons_succ, List.getElem?_cons_succ, List.getElem?_cons_succ, List.getElem?_cons_succ]
    exact ih
/-- The headers of n slices of imports, one a chunk (22 cells), in block K; each slice is nil or in a block of its own from B on. -/
structure Fam (w : World) (B K n : Nat) (V : Nat → Value) (L : Nat → List (Int × Int)) : Prop where
  lt : K < w.heap.size
  KB : K < B
  BW : B ≤ w.heap.size
  cell : ∀ i, i < n → w.cell? ⟨K, i * 22 + 3, none⟩ = some (V i)
  frozen : ∀ o, w.frozen? ⟨K, o, none⟩ = false
  own : ∀ i, i < n → w.ownsRow B 144 2 (V i) (L i).length (rcs (L i))
  dj : ∀ i j, i < n → j < n → i ≠ j → (V i).ownBlock = none ∨ (V i).ownBlock ≠ (V j).ownBlock
section
variable {w w' : World} {B K n : Nat} {V : Nat → Value} {L : Nat → List (Int × Int)}
theorem own_kept {P : Nat → Prop} {v : Value} {k : Nat} {xs : List Value} (h : w.ownsRow B 144 2 v k xs) (f : Fx P w w') (hP : ∀ g, B ≤ g → g < w.heap.size → ¬ P g) : w'.ownsRow B 144 2 v k xs := by
  refine ⟨h.1, ?_⟩
  rcases h.2 with h' | ⟨g, cap, cur, h', r1, r2, r3⟩
  · exact .inl h'
  · have hl := (Array.getElem?_eq_some_iff.1 r2).1
    exact .inr ⟨g, cap, cur, h', r1, (f.block g hl (hP g r1 hl)).trans r2, r3⟩
theorem Fam.kept {P : Nat → Prop} (h : Fam w B K n V L) (f : Fx P w w') (hK : ¬ P K) (hP : ∀ g, B ≤ g → g < w.heap.size → ¬ P g) : Fam w' B K n V L :=
  ⟨Nat.lt_of_lt_of_le h.lt f.size, h.KB, Nat.le_trans h.BW f.size, fun i hi => (f.cell h.lt hK).trans (h.cell i hi), fun o => (f.frozen h.lt hK).trans (h.frozen o), fun i hi => own_kept (h.own i hi) f hP, h.dj⟩
theorem Fam.later (h : Fam w B K n V L) (hb : Below w.heap.size w w') : Fam w' B K n V L := h.kept (Fx.of_below (P := fun _ => False) hb) (fun h => h) (fun _ _ _ h => h)
theorem Fam.form (h : Fam w B K n V L) {i : Nat} (hi : i < n) : ∃ A c, V i = .slice A (L i).length c := by
  rcases (h.own i hi).2 with ⟨e, h0⟩ | ⟨g, cap, cur, e, _⟩
  · exact ⟨none, 0, by rw [e, h0]⟩
  · exact ⟨_, _, e⟩
theorem Fam.ne (h : Fam w B K n V L) {i : Nat} (hi : i < n) : (V i).ownBlock ≠ some K := fun e => by
  have := ((h.own i hi).lt K e).1
  have := h.KB
  omega
theorem own_set {p : Addr} {v : Value} {k : Nat} {xs : List Value} (h : w.ownsRow B 144 2 v k xs) (hne : v.ownBlock ≠ some p.block) (u : Value) : (w.setCell p u).ownsRow B 144 2 v k xs :=
  World.ownsRow.kept (row := some p.block) h ⟨rfl, rfl, rfl, by simp, fun k _ hk => Below.heap_setCell w p u k (fun e => hk (by simp [e]))⟩ (.inr hne)
/-- An import is appended to the f-th slice. -/
theorem Fam.push (h : Fam w B K n V L) {f : Nat} (hf : f < n) {x k : Int} {v' : Value} (hown : w'.ownsRow B 144 2 v' ((L f).length + 1) (rcs (L f) ++ REC x k)) (hg : w.grownBy w' (V f).ownBlock) (hat : v'.ownBlock = (V f).ownBlock ∨ v'.ownBlock = some w.heap.size) :
    Fam (w'.setCell ⟨K, f * 22 + 3, none⟩ v') B K n (up V f v') (up L f (L f ++ [(x, k)])) := by
  have hlt : ∀ i, i < n → ∀ g, (V i).ownBlock = some g → g < w.heap.size := fun i hi g hg => ((h.own i hi).lt g hg).2
  have hv : v'.ownBlock ≠ some K := by
    rcases hat with e | e
    · rw [e]; exact h.ne hf
    · rw [e]; intro e; injection e with e; have := h.lt; omega
  have hb := hg.block K h.lt (fun e => h.ne hf e.symm)
  have hcell : ∀ i, i < n → w'.cell? ⟨K, i * 22 + 3, none⟩ = some (V i) := fun i hi => by rw [← h.cell i hi]; simp [World.cell?, hb]
  have hfz : ∀ o, w'.frozen? ⟨K, o, none⟩ = false := fun o => by rw [← h.frozen o]; simp [World.frozen?, hb]
  refine ⟨by have := hg.size; have := h.lt; simp; omega, h.KB, by have := hg.size; have := h.BW; simp; omega, fun i hi => ?_, fun o => frozen_set _ _ _ _ _ (hfz o), fun i hi => ?_, fun i j hi hj hij => ?_⟩
  · by_cases e : i = f
    · subst e; rw [up_self]; exact cell_self v' (by rw [hcell i hi]; rfl)
    · rw [up_ne _ _ e, ← hcell i hi]
      exact World.cell?_setCell_other _ _ _ _ (by simp <;> omega)
  · by_cases e : i = f
    · subst e
      rw [up_self, up_self, rcs_append, List.length_append]
      exact own_set hown hv v'
    · rw [up_ne _ _ e, up_ne _ _ e]
      exact own_set ((h.own i hi).kept hg (h.dj i f hi hf e)) (h.ne hi) v'
  · by_cases e : i = f
    · subst e
      rw [up_self, up_ne _ _ (Ne.symm hij)]
      rcases hat with e | e
      · rw [e]; exact h.dj i j hi hj hij
      · rw [e]
        exact .inr (fun e' => by have := hlt j hj _ e'.symm; omega)
    · rw [up_ne _ _ e]
      by_cases e2 : j = f
      · subst e2
        rw [up_self]
        rcases hat with e3 | e3
        · rw [e3]; exact h.dj i j hi hj hij
        · rw [e3]
          cases hv : (V i).ownBlock with
          | none => exact .inl rfl
          | some g => exact .inr (fun e' => by injection e' with e'; have := hlt i hi g hv; omega)
      · rw [up_ne _ _ e2]; exact h.dj i j hi hj hij
/-- An import of a slice, read. -/
theorem Fam.rec_ (h : Fam w B K n V L) {i : Nat} (hi : i < n) {j : Nat} {x k : Int} (hj : (L i)[j]? = some (x, k)) : ∃ g c, V i = .slice (some ⟨g, 0, none⟩) (L i).length c ∧ B ≤ g ∧ g < w.heap.size ∧ w.cell? ⟨g, j * 2, none⟩ = some (.int .u32 x) ∧ w.cell? ⟨g, j * 2 + 1, none⟩ = some (.int .u8 k) := by
  have hjl := (List.getElem?_eq_some_iff.1 hj).1
  have ho := h.own i hi
  rcases ho.2 with ⟨e, h0⟩ | ⟨g, cap, cur, e, r1, r2, _⟩
  · omega
  · obtain ⟨q1, q2⟩ := rcs_at (L i) j x k hj
    have h1 := ho.cells (g := g) (by rw [e]; rfl) _ _ q1
    have h2 := ho.cells (g := g) (by rw [e]; rfl) _ _ q2
    have hadd : ∀ d, (⟨g, 0, none⟩ : Addr).add d = ⟨g, d, none⟩ := fun d => by unfold Addr.add; split <;> simp_all
    rw [hadd] at h1 h2
    exact ⟨g, cap, e, r1, (Array.getElem?_eq_some_iff.1 r2).1, h1, h2⟩
end
theorem info144 : (Tryd.prog.info? 144).map (fun i => (i.zero, i.size, i.bytes)) = some (some (.agg #[.int .u32 0, .int .u8 0]), 2, 8) := by kernel_rfl
/-- One append, whole. -/
theorem app1 {w2 : World} {B K n : Nat} {V : Nat → Value} {L : Nat → List (Int × Int)} (h : Fam w2 B K n V L) {f : Nat} (hf : f < n) (hlen : (L f).length ≤ 4096) (x k : Int) :
    ∃ A n' c' w5, (Builtin.append_ #[123, 123] 123 #[V f, .slice (some ⟨w2.heap.size, 0, none⟩) 1 1]).run Tryd.prog (w2.alloc (.cells #[.int .u32 x, .int .u8 k] 144)) = .ok (.slice A n' c') w5 ∧
      w5.cell? ⟨K, f * 22 + 3, none⟩ = some (V f) ∧ w5.frozen? ⟨K, f * 22 + 3, none⟩ = false ∧ Fam (w5.setCell ⟨K, f * 22 + 3, none⟩ (.slice A n' c')) B K n (up V f (.slice A n' c')) (up L f (L f ++ [(x, k)])) ∧ Below B (w2.alloc (.cells #[.int .u32 x, .int .u8 k] 144)) w5 := by
  obtain ⟨i144, hi, hzz⟩ := Option.map_eq_some_iff.1 info144
  simp only [Prod.mk.injEq] at hzz
  obtain ⟨hz1, hz2, hz3⟩ := hzz
  have hal : Below w2.heap.size w2 (w2.alloc (.cells (REC x k).toArray 144)) := (Below.refl _ _).alloc (Nat.le_refl _) _
  have h1 := h.later hal
  have hrow := Row.newArr w2 144 (REC x k).toArray
  obtain ⟨v5, w5, hrun, hown5, hgr5, _, hat5⟩ := run_append_own_at (P := Tryd.prog) (w2.alloc (.cells (REC x k).toArray 144)) B 123 123 144 i144 _ 2 8 Tryd.underlying123 hi hz1 hz2 hz3 rfl (by decide) (V f) (L f).length (rcs (L f)) (h1.own f hf) ⟨w2.heap.size, 0, none⟩ 1 1 (REC x k) rfl (fun j u hu => by
    have hadd : (⟨w2.heap.size, 0, none⟩ : Addr).add j = ⟨w2.heap.size, j, none⟩ := by unfold Addr.add; split <;> simp_all
    rw [hadd]
    exact hrow.at_ hu) (fun u hu => by
      simp only [REC, List.mem_cons, List.not_mem_nil, or_false] at hu
      rcases hu with rfl | rfl <;> rfl) (by unfold maxLen; omega) (by omega) h1.BW
  have hv5 : ∃ A n' c', v5 = .slice A n' c' := by
    rcases hown5.2 with ⟨e, _⟩ | ⟨g, cap, cur, e, _⟩
    · exact ⟨_, _, _, e⟩
    · exact ⟨_, _, _, e⟩
  obtain ⟨A, n', c', rfl⟩ := hv5
  have hb := hgr5.block K h1.lt (fun e => h.ne hf e.symm)
  have hb5 : Below B (w2.alloc (.cells (REC x k).toArray 144)) w5 := Owg.grown_below' hgr5 (fun g e => ((h1.own f hf).lt g e).1) h1.BW
  exact ⟨A, n', c', w5, hrun, by rw [← h1.cell f hf]; simp [World.cell?, hb], by rw [← h1.frozen (f * 22 + 3)]; simp [World.frozen?, hb], h1.push hf hown5 hgr5 hat5, hb5⟩
/-- The context: block c; the chunks' block K; the log's block M. -/
structure Cx (w : World) (c K M n : Nat) (V : Nat → Value) (L : Nat → List (Int × Int)) (e : Bool) : Prop where
  ch : w.cell? ⟨c, 17, none⟩ = some (.slice (some ⟨K, 0, none⟩) n n)
  l0 : w.cell? ⟨c, 2, none⟩ = some (.func (.func 20) #[] #[.pointer (some ⟨M, 0, none⟩), .pointer (some ⟨M + 1, 0, none⟩), .pointer (some ⟨M + 2, 0, none⟩)])
  l1 : w.cell? ⟨c, 3, none⟩ = some (.func (.func 23) #[] #[.pointer (some ⟨M, 0, none⟩), .pointer (some ⟨M + 1, 0, none⟩)])
  l2 : w.cell? ⟨c, 4, none⟩ = some .nilFunc
  l3 : w.cell? ⟨c, 5, none⟩ = some .nilFunc
  l4 : w.cell? ⟨c, 6, none⟩ = some (.int .i8 0)
  l5 : w.cell? ⟨c, 7, none⟩ = some (.map none)
  fam : Fam w (c + 1) K n V L
  lg : Lg w M e
  Kc : K < c
  Mc : M + 2 < c
  KM : K ≠ M ∧ K ≠ M + 1 ∧ K ≠ M + 2
theorem Cx.cw {w : World} {c K M n : Nat} {V : Nat → Value} {L : Nat → List (Int × Int)} {e : Bool} (h : Cx w c K M n V L e) : c < w.heap.size := by have := h.fam.BW; omega
theorem Cx.keptL {P : Nat → Prop} {w w' : World} {c K M n : Nat} {V : Nat → Value} {L : Nat → List (Int × Int)} {e e' : Bool} (h : Cx w c K M n V L e) (f : Fx P w w') (hl : Lg w' M e') (hc : ¬ P c) (hK : ¬ P K) (hP : ∀ g, c + 1 ≤ g → g < w.heap.size → (∃ i, i < n ∧ (V i).ownBlock = some g) → ¬ P g) : Cx w' c K M n V L e' := by
  have l := h.cw
  have hf : Fam w' (c + 1) K n V L := by
    have h0 := h.fam
    refine ⟨Nat.lt_of_lt_of_le h0.lt f.size, h0.KB, Nat.le_trans h0.BW f.size, fun i hi => (f.cell h0.lt hK).trans (h0.cell i hi), fun o => (f.frozen h0.lt hK).trans (h0.frozen o), fun i hi => ?_, h0.dj⟩
    have ho := h0.own i hi
    refine ⟨ho.1, ?_⟩
    rcases ho.2 with h' | ⟨g, cap, cur, h', r1, r2, r3⟩
    · exact .inl h'
    · have hl := (Array.getElem?_eq_some_iff.1 r2).1
      exact .inr ⟨g, cap, cur, h', r1, (f.block g hl (hP g r1 hl ⟨i, hi, by rw [h']; rfl⟩)).trans r2, r3⟩
  exact ⟨(f.cell l hc).trans h.ch, (f.cell l hc).trans h.l0, (f.cell l hc).trans h.l1, (f.cell l hc).trans h.l2, (f.cell l hc).trans h.l3, (f.cell l hc).trans h.l4, (f.cell l hc).trans h.l5, hf, hl, h.Kc, h.Mc, h.KM⟩
theorem Cx.later {w w' : World} {c K M n : Nat} {V : Nat → Value} {L : Nat → List (Int × Int)} {e : Bool} (h : Cx w c K M n V L e) (hb : Below w.heap.size w w') : Cx w' c K M n V L e :=
  h.keptL (Fx.of_below (P := fun _ => False) hb) (h.lg.later hb) (fun h => h) (fun h => h) (fun _ _ _ _ h => h)
def kd (d : Bool) : Int := if d = true then 3 else 1
/-- An import is added. -/
def Adc (w : World) (c K M n : Nat) (L : Nat → List (Int × Int)) (f : Nat) (x k : Int) (e : Ending) (w' : World) : Prop := e = .returned (.tuple #[]) ∧ (∃ V', Cx w' c K M n V' (up L f (L f ++ [(x, k)])) false) ∧ Fx (fun j => j = K ∨ c + 1 ≤ j) w w'
theorem adc_of {wr w5 : World} {c K M n f : Nat} {V : Nat → Value} {L : Nat → List (Int × Int)} {x k : Int} {A : Option Addr} {n' c' : Nat} (h : Cx wr c K M n V L false) (hb : Below (c + 1) (wr.alloc (.cells #[.int .u32 x, .int .u8 k] 144)) w5) (hf : Fam (w5.setCell ⟨K, f * 22 + 3, none⟩ (.slice A n' c')) (c + 1) K n (up V f (.slice A n' c')) (up L f (L f ++ [(x, k)]))) :
    Adc wr c K M n L f x k (.returned (.tuple #[])) (w5.setCell ⟨K, f * 22 + 3, none⟩ (.slice A n' c')) := by
  have l := h.cw
  have h1 : Below (c + 1) wr w5 := ((Below.refl _ _).alloc (show c + 1 ≤ wr.heap.size from h.fam.BW) _).trans hb
  have f1 : Fx (fun j => j = K ∨ c + 1 ≤ j) wr w5 := ⟨h1.os, h1.tape, h1.output, h1.size, fun j hj hp => h1.block j (by omega)⟩
  have f2 := f1.put K (f * 22 + 3) (.slice A n' c') (.inl rfl)
  have hc : ¬ (c = K ∨ c + 1 ≤ c) := by have := h.Kc; omega
  have g := h.KM
  have m := h.Mc
  exact ⟨rfl, ⟨_, (f2.cell l hc).trans h.ch, (f2.cell l hc).trans h.l0, (f2.cell l hc).trans h.l1, (f2.cell l hc).trans h.l2, (f2.cell l hc).trans h.l3, (f2.cell l hc).trans h.l4, (f2.cell l hc).trans h.l5, hf, h.lg.kept f2 (by omega) (by omega) (by omega), h.Kc, m, g⟩, f2⟩
theorem adc_drew {w w' : World} {c K M n f : Nat} {L : Nat → List (Int × Int)} {x k : Int} {e : Ending} (h : Adc w.drew c K M n L f x k e w') : Adc w c K M n L f x k e w' := ⟨h.1, h.2.1, (Fx.of_below (Below.refl _ _).drew).trans h.2.2⟩
set_option maxRecDepth 100000 in
set_option maxHeartbeats 4000000 in
theorem add11 (wr : World) (c kb M n f : Nat) (V : Nat → Value) (L : Nat → List (Int × Int)) (x : Int) (d : Bool) (h : Cx wr c kb M n V L false) (hf : f < n) (hn : n ≤ 4096) (hlen : (L f).length ≤ 4096) : Calls Tryd.prog 11 #[.pointer (some ⟨c, 0, none⟩), .int .u32 (f : Int), .int .u32 x, .bool d] wr (Adc wr c kb M n L f x (kd d)) := by
  have i1 : (f : Int) < (n : Int) := by omega
  have i0 : (0 : Int) ≤ (f : Int) := by omega
  obtain ⟨A0, c0, hV⟩ := h.fam.form hf
  obtain ⟨len, hle⟩ : ∃ l, l = (L f).length := ⟨_, rfl⟩
  rw [← hle] at hV
  have HX := Lib.hid h
  have HLEN := Lib.hid hlen
  have a17 := h.ch
  have aV : wr.cell? ⟨kb, f * 22 + 3, none⟩ = some (.slice A0 len c0) := by rw [← hV]; exact h.fam.cell f hf
  obtain ⟨y, hy⟩ : ∃ y, y = kd d := ⟨_, rfl⟩
  have hd := h.later ((Below.refl _ _).drew)
  obtain ⟨A', n', c', w5, hrun, e9, hfz, hfam5, hbel5⟩ := app1 hd.fam hf hlen x y
  rw [hV] at hrun e9
  have hfin := adc_drew (adc_of hd hbel5 hfam5)
  have HFIN := Lib.hid hfin
  have HRUN := Lib.hid hrun
  have b17 : w5.cell? ⟨c, 17, none⟩ = some (.slice (some ⟨kb, 0, none⟩) n n) := (hbel5.cell (p := ⟨c, 17, none⟩) (Nat.lt_succ_self c)).trans (cell_later ((Below.refl _ _).drew.alloc (Nat.le_refl _) _) a17)
  have b17' : (wr.drew.alloc (.cells #[.int .u32 x, .int .u8 y] 144)).cell? ⟨c, 17, none⟩ = some (.slice (some ⟨kb, 0, none⟩) n n) := cell_later ((Below.refl _ _).drew.alloc (Nat.le_refl _) _) a17
  have bV' : (wr.alloc (.cells #[.int .u32 x, .int .u8 y] 144)).cell? ⟨kb, f * 22 + 3, none⟩ = some (.slice A0 len c0) := cell_later ((Below.refl _ _).alloc (Nat.le_refl _) _) aV
  have d17 : (w5.setCell ⟨kb, f * 22 + 3, none⟩ (.slice A' n' c')).cell? ⟨c, 17, none⟩ = some (.slice (some ⟨kb, 0, none⟩) n n) := (World.cell?_setCell_other _ _ _ _ (by have := h.Kc; simp <;> omega)).trans b17
  have HY := Lib.hid hy
  clear hd h hlen hV hle hrun hfam5 hbel5 hfin hy
  rw [← HY.out]
  clear HLEN HX
  cases d
  · obtain rfl : y = 1 := HY.out
    clear HY
    go_enter Tryd.func11, Tryd.ntmps11
    go_wp2
    refine wp_region_held_drew (S := (fun W => W.cell? ⟨c, 17, none⟩ = some (.slice (some ⟨kb, 0, none⟩) n n))) (by kernel_rfl) a17 (fun hHeld => ?_)
    refine wpAnyH_take (i := 0) (v := .pointer (some ⟨c, 0, none⟩)) rfl (by kernel_rfl) (by kernel_rfl) (by kernel_rfl) (fun _ _ _ h => h) (Or.inl ⟨by rfl, fun W _ => by go_simp⟩) a17 ?_
    simp only [Act.put, List.setIfInBounds_toArray]
    refine wpAnyH_take (i := 1) (v := .pointer (some ⟨c, 0, none⟩)) rfl (by kernel_rfl) (by kernel_rfl) (by kernel_rfl) (fun _ _ _ h => h) (Or.inl ⟨by rfl, fun W _ => by go_simp⟩) a17 ?_
    simp only [Act.put]
    refine wpAnyH_take (i := 2) (v := .pointer (some ⟨c, 17, none⟩)) rfl (by kernel_rfl) (by kernel_rfl) (by kernel_rfl) (fun _ _ _ h => h) (Or.inl ⟨by rfl, fun W _ => by go_simp⟩) a17 ?_
    simp only [Act.put]
    refine wpAnyH_take (i := 3) (v := .slice (some ⟨kb, 0, none⟩) n n) rfl (by kernel_rfl) (by kernel_rfl) (by kernel_rfl) (fun _ _ _ h => h) (Or.inl ⟨by rfl, fun W hS => by go_simp⟩) a17 ?_
    simp only [Act.put]
    refine wpAnyH_take (i := 4) (v := .int .u32 (f : Int)) rfl (by kernel_rfl) (by kernel_rfl) (by kernel_rfl) (fun _ _ _ h => h) (Or.inl ⟨by rfl, fun W _ => by go_simp⟩) a17 ?_
    simp only [Act.put]
    refine wpAnyH_take (i := 5) (v := .pointer (some ⟨c, 0, none⟩)) rfl (by kernel_rfl) (by kernel_rfl) (by kernel_rfl) (fun _ _ _ h => h) (Or.inl ⟨by rfl, fun W _ => by go_simp⟩) a17 ?_
    simp only [Act.put]
    refine wpAnyH_take (i := 6) (v := .pointer (some ⟨c, 0, none⟩)) rfl (by kernel_rfl) (by kernel_rfl) (by kernel_rfl) (fun _ _ _ h => h) (Or.inl ⟨by rfl, fun W _ => by go_simp⟩) a17 ?_
    simp only [Act.put]
    refine wpAnyH_take (i := 7) (v := .pointer (some ⟨c, 17, none⟩)) rfl (by kernel_rfl) (by kernel_rfl) (by kernel_rfl) (fun _ _ _ h => h) (Or.inl ⟨by rfl, fun W _ => by go_simp⟩) a17 ?_
    simp only [Act.put]
    refine wpAnyH_take (i := 8) (v := .slice (some ⟨kb, 0, none⟩) n n) rfl (by kernel_rfl) (by kernel_rfl) (by kernel_rfl) (fun _ _ _ h => h) (Or.inl ⟨by rfl, fun W hS => by go_simp⟩) a17 ?_
    simp only [Act.put]
    refine wpAnyH_take (i := 9) (v := .int .u32 (f : Int)) rfl (by kernel_rfl) (by kernel_rfl) (by kernel_rfl) (fun _ _ _ h => h) (Or.inl ⟨by rfl, fun W _ => by go_simp⟩) a17 ?_
    simp only [Act.put]
    refine wpAnyH_take (i := 10) (v := .pointer (some ⟨kb, f * 22, none⟩)) rfl (by kernel_rfl) (by kernel_rfl) (by kernel_rfl) (fun _ _ _ h => h) (Or.inl ⟨by rfl, fun W _ => by go_simp⟩) a17 ?_
    simp only [Act.put]
    refine wpAnyH_take (i := 11) (v := .pointer (some ⟨kb, f * 22 + 3, none⟩)) rfl (by kernel_rfl) (by kernel_rfl) (by kernel_rfl) (fun _ _ _ h => h) (Or.inl ⟨by rfl, fun W _ => by go_simp⟩) a17 ?_
    simp only [Act.put]
    refine wpAnyH_take (i := 13) (v := .int .u32 x) rfl (by kernel_rfl) (by kernel_rfl) (by kernel_rfl) (fun _ _ _ h => h) (Or.inl ⟨by rfl, fun W _ => by go_simp⟩) a17 ?_
    simp only [Act.put]
    refine wpAnyH_take (i := 14) (v := .int .u8 1) rfl (by kernel_rfl) (by kernel_rfl) (by kernel_rfl) (fun _ _ _ h => h) (Or.inl ⟨by rfl, fun W _ => by go_simp⟩) a17 ?_
    simp only [Act.put]
    refine wpAnyH_take (i := 15) (v := .agg #[.int .u32 x, .int .u8 1]) rfl (by kernel_rfl) (by kernel_rfl) (by kernel_rfl) (fun _ _ _ h => h) (Or.inl ⟨by rfl, fun W _ => by go_simp⟩) a17 ?_
    simp only [Act.put]
    refine wpAnyH_ready (rs := [12, 16]) (by kernel_rfl) (by simp) ?_
    refine AllReadyH.cons rfl (fun K hK => ?_) (AllReadyH.cons rfl (fun K hK => ?_) AllReadyH.nil)
    · go_simp
      refine hK.out _ _ a17 (fun _ => ?_)
      clear hK K
      try simp only [Act.put]
      refine wpAnyH_ready (rs := [16]) (by kernel_rfl) (by simp) ?_
      refine AllReadyH.cons rfl (fun K hK => ?_) AllReadyH.nil
      go_simp
      refine hK.out _ _ b17' (fun _ => ?_)
      clear hK K
      try simp only [Act.put]
      refine wpAnyH_ready (rs := [17]) (by kernel_rfl) (by simp) ?_
      refine AllReadyH.cons rfl (fun K hK => ?_) AllReadyH.nil
      refine step_append_run rfl _ _ 123 rfl _ _ _ w5 rfl rfl HRUN.out ?_
      refine hK.out _ _ b17 (fun _ => ?_)
      clear hK K
      try simp only [Act.put]
      refine wpAnyH_take (i := 18) (v := .pointer (some ⟨kb, f * 22, none⟩)) rfl (by kernel_rfl) (by kernel_rfl) (by kernel_rfl) (fun _ _ _ h => h) (Or.inl ⟨by rfl, fun W _ => by go_simp⟩) b17 ?_
      simp only [Act.put]
      refine wpAnyH_take (i := 19) (v := .pointer (some ⟨kb, f * 22 + 3, none⟩)) rfl (by kernel_rfl) (by kernel_rfl) (by kernel_rfl) (fun _ _ _ h => h) (Or.inl ⟨by rfl, fun W _ => by go_simp⟩) b17 ?_
      simp only [Act.put]
      refine wpAnyH_ready (rs := [20]) (by kernel_rfl) (by simp) ?_
      refine AllReadyH.cons rfl (fun K hK => ?_) AllReadyH.nil
      go_simp
      refine hK.out _ _ d17 (fun _ => ?_)
      clear hK K
      try simp only [Act.put]
      refine wpAnyH_done (by kernel_rfl) ?_ _
      go_end0
      exact HFIN.out
    · go_simp
      refine hK.out _ _ b17' (fun _ => ?_)
      clear hK K
      try simp only [Act.put]
      refine wpAnyH_ready (rs := [12]) (by kernel_rfl) (by simp) ?_
      refine AllReadyH.cons rfl (fun K hK => ?_) AllReadyH.nil
      go_simp
      refine hK.out _ _ b17' (fun _ => ?_)
      clear hK K
      try simp only [Act.put]
      refine wpAnyH_ready (rs := [17]) (by kernel_rfl) (by simp) ?_
      refine AllReadyH.cons rfl (fun K hK => ?_) AllReadyH.nil
      refine step_append_run rfl _ _ 123 rfl _ _ _ w5 rfl rfl HRUN.out ?_
      refine hK.out _ _ b17 (fun _ => ?_)
      clear hK K
      try simp only [Act.put]
      refine wpAnyH_take (i := 18) (v := .pointer (some ⟨kb, f * 22, none⟩)) rfl (by kernel_rfl) (by kernel_rfl) (by kernel_rfl) (fun _ _ _ h => h) (Or.inl ⟨by rfl, fun W _ => by go_simp⟩) b17 ?_
      simp only [Act.put]
      refine wpAnyH_take (i := 19) (v := .pointer (some ⟨kb, f * 22 + 3, none⟩)) rfl (by kernel_rfl) (by kernel_rfl) (by kernel_rfl) (fun _ _ _ h => h) (Or.inl ⟨by rfl, fun W _ => by go_simp⟩) b17 ?_
      simp only [Act.put]
      refine wpAnyH_ready (rs := [20]) (by kernel_rfl) (by simp) ?_
      refine AllReadyH.cons rfl (fun K hK => ?_) AllReadyH.nil
      go_simp
      refine hK.out _ _ d17 (fun _ => ?_)
      clear hK K
      try simp only [Act.put]
      refine wpAnyH_done (by kernel_rfl) ?_ _
      go_end0
      exact HFIN.out
  · obtain rfl : y = 3 := HY.out
    clear HY
    go_enter Tryd.func11, Tryd.ntmps11
    go_wp2
    refine wp_region_held_drew (S := (fun W => W.cell? ⟨c, 17, none⟩ = some (.slice (some ⟨kb, 0, none⟩) n n))) (by kernel_rfl) a17 (fun hHeld => ?_)
    refine wpAnyH_take (i := 0) (v := .pointer (some ⟨c, 0, none⟩)) rfl (by kernel_rfl) (by kernel_rfl) (by kernel_rfl) (fun _ _ _ h => h) (Or.inl ⟨by rfl, fun W _ => by go_simp⟩) a17 ?_
    simp only [Act.put, List.setIfInBounds_toArray]
    refine wpAnyH_take (i := 1) (v := .pointer (some ⟨c, 0, none⟩)) rfl (by kernel_rfl) (by kernel_rfl) (by kernel_rfl) (fun _ _ _ h => h) (Or.inl ⟨by rfl, fun W _ => by go_simp⟩) a17 ?_
    simp only [Act.put]
    refine wpAnyH_take (i := 2) (v := .pointer (some ⟨c, 17, none⟩)) rfl (by kernel_rfl) (by kernel_rfl) (by kernel_rfl) (fun _ _ _ h => h) (Or.inl ⟨by rfl, fun W _ => by go_simp⟩) a17 ?_
    simp only [Act.put]
    refine wpAnyH_take (i := 3) (v := .slice (some ⟨kb, 0, none⟩) n n) rfl (by kernel_rfl) (by kernel_rfl) (by kernel_rfl) (fun _ _ _ h => h) (Or.inl ⟨by rfl, fun W hS => by go_simp⟩) a17 ?_
    simp only [Act.put]
    refine wpAnyH_take (i := 4) (v := .int .u32 (f : Int)) rfl (by kernel_rfl) (by kernel_rfl) (by kernel_rfl) (fun _ _ _ h => h) (Or.inl ⟨by rfl, fun W _ => by go_simp⟩) a17 ?_
    simp only [Act.put]
    refine wpAnyH_take (i := 5) (v := .pointer (some ⟨c, 0, none⟩)) rfl (by kernel_rfl) (by kernel_rfl) (by kernel_rfl) (fun _ _ _ h => h) (Or.inl ⟨by rfl, fun W _ => by go_simp⟩) a17 ?_
    simp only [Act.put]
    refine wpAnyH_take (i := 6) (v := .pointer (some ⟨c, 0, none⟩)) rfl (by kernel_rfl) (by kernel_rfl) (by kernel_rfl) (fun _ _ _ h => h) (Or.inl ⟨by rfl, fun W _ => by go_simp⟩) a17 ?_
    simp only [Act.put]
    refine wpAnyH_take (i := 7) (v := .pointer (some ⟨c, 17, none⟩)) rfl (by kernel_rfl) (by kernel_rfl) (by kernel_rfl) (fun _ _ _ h => h) (Or.inl ⟨by rfl, fun W _ => by go_simp⟩) a17 ?_
    simp only [Act.put]
    refine wpAnyH_take (i := 8) (v := .slice (some ⟨kb, 0, none⟩) n n) rfl (by kernel_rfl) (by kernel_rfl) (by kernel_rfl) (fun _ _ _ h => h) (Or.inl ⟨by rfl, fun W hS => by go_simp⟩) a17 ?_
    simp only [Act.put]
    refine wpAnyH_take (i := 9) (v := .int .u32 (f : Int)) rfl (by kernel_rfl) (by kernel_rfl) (by kernel_rfl) (fun _ _ _ h => h) (Or.inl ⟨by rfl, fun W _ => by go_simp⟩) a17 ?_
    simp only [Act.put]
    refine wpAnyH_take (i := 10) (v := .pointer (some ⟨kb, f * 22, none⟩)) rfl (by kernel_rfl) (by kernel_rfl) (by kernel_rfl) (fun _ _ _ h => h) (Or.inl ⟨by rfl, fun W _ => by go_simp⟩) a17 ?_
    simp only [Act.put]
    refine wpAnyH_take (i := 11) (v := .pointer (some ⟨kb, f * 22 + 3, none⟩)) rfl (by kernel_rfl) (by kernel_rfl) (by kernel_rfl) (fun _ _ _ h => h) (Or.inl ⟨by rfl, fun W _ => by go_simp⟩) a17 ?_
    simp only [Act.put]
    refine wpAnyH_take (i := 13) (v := .int .u32 x) rfl (by kernel_rfl) (by kernel_rfl) (by kernel_rfl) (fun _ _ _ h => h) (Or.inl ⟨by rfl, fun W _ => by go_simp⟩) a17 ?_
    simp only [Act.put]
    refine wpAnyH_take (i := 14) (v := .int .u8 3) rfl (by kernel_rfl) (by kernel_rfl) (by kernel_rfl) (fun _ _ _ h => h) (Or.inl ⟨by rfl, fun W _ => by go_simp⟩) a17 ?_
    simp only [Act.put]
    refine wpAnyH_take (i := 15) (v := .agg #[.int .u32 x, .int .u8 3]) rfl (by kernel_rfl) (by kernel_rfl) (by kernel_rfl) (fun _ _ _ h => h) (Or.inl ⟨by rfl, fun W _ => by go_simp⟩) a17 ?_
    simp only [Act.put]
    refine wpAnyH_ready (rs := [12, 16]) (by kernel_rfl) (by simp) ?_
    refine AllReadyH.cons rfl (fun K hK => ?_) (AllReadyH.cons rfl (fun K hK => ?_) AllReadyH.nil)
    · go_simp
      refine hK.out _ _ a17 (fun _ => ?_)
      clear hK K
      try simp only [Act.put]
      refine wpAnyH_ready (rs := [16]) (by kernel_rfl) (by simp) ?_
      refine AllReadyH.cons rfl (fun K hK => ?_) AllReadyH.nil
      go_simp
      refine hK.out _ _ b17' (fun _ => ?_)
      clear hK K
      try simp only [Act.put]
      refine wpAnyH_ready (rs := [17]) (by kernel_rfl) (by simp) ?_
      refine AllReadyH.cons rfl (fun K hK => ?_) AllReadyH.nil
      refine step_append_run rfl _ _ 123 rfl _ _ _ w5 rfl rfl HRUN.out ?_
      refine hK.out _ _ b17 (fun _ => ?_)
      clear hK K
      try simp only [Act.put]
      refine wpAnyH_take (i := 18) (v := .pointer (some ⟨kb, f * 22, none⟩)) rfl (by kernel_rfl) (by kernel_rfl) (by kernel_rfl) (fun _ _ _ h => h) (Or.inl ⟨by rfl, fun W _ => by go_simp⟩) b17 ?_
      simp only [Act.put]
      refine wpAnyH_take (i := 19) (v := .pointer (some ⟨kb, f * 22 + 3, none⟩)) rfl (by kernel_rfl) (by kernel_rfl) (by kernel_rfl) (fun _ _ _ h => h) (Or.inl ⟨by rfl, fun W _ => by go_simp⟩) b17 ?_
      simp only [Act.put]
      refine wpAnyH_ready (rs := [20]) (by kernel_rfl) (by simp) ?_
      refine AllReadyH.cons rfl (fun K hK => ?_) AllReadyH.nil
      go_simp
      refine hK.out _ _ d17 (fun _ => ?_)
      clear hK K
      try simp only [Act.put]
      refine wpAnyH_done (by kernel_rfl) ?_ _
      go_end0
      exact HFIN.out
    · go_simp
      refine hK.out _ _ b17' (fun _ => ?_)
      clear hK K
      try simp only [Act.put]
      refine wpAnyH_ready (rs := [12]) (by kernel_rfl) (by simp) ?_
      refine AllReadyH.cons rfl (fun K hK => ?_) AllReadyH.nil
      go_simp
      refine hK.out _ _ b17' (fun _ => ?_)
      clear hK K
      try simp only [Act.put]
      refine wpAnyH_ready (rs := [17]) (by kernel_rfl) (by simp) ?_
      refine AllReadyH.cons rfl (fun K hK => ?_) AllReadyH.nil
      refine step_append_run rfl _ _ 123 rfl _ _ _ w5 rfl rfl HRUN.out ?_
      refine hK.out _ _ b17 (fun _ => ?_)
      clear hK K
      try simp only [Act.put]
      refine wpAnyH_take (i := 18) (v := .pointer (some ⟨kb, f * 22, none⟩)) rfl (by kernel_rfl) (by kernel_rfl) (by kernel_rfl) (fun _ _ _ h => h) (Or.inl ⟨by rfl, fun W _ => by go_simp⟩) b17 ?_
      simp only [Act.put]
      refine wpAnyH_take (i := 19) (v := .pointer (some ⟨kb, f * 22 + 3, none⟩)) rfl (by kernel_rfl) (by kernel_rfl) (by kernel_rfl) (fun _ _ _ h => h) (Or.inl ⟨by rfl, fun W _ => by go_simp⟩) b17 ?_
      simp only [Act.put]
      refine wpAnyH_ready (rs := [20]) (by kernel_rfl) (by simp) ?_
      refine AllReadyH.cons rfl (fun K hK => ?_) AllReadyH.nil
      go_simp
      refine hK.out _ _ d17 (fun _ => ?_)
      clear hK K
      try simp only [Act.put]
      refine wpAnyH_done (by kernel_rfl) ?_ _
      go_end0
      exact HFIN.out
end Go.Proofs.YtfljkbfacncdgaaDoor.EnF
