/- FnSortedCrossChunkImportsOrderFree: the map of imports. -/
import Derived.Test.YtfcpjckecjjmjaaRows
import Derived.Test.YtfcpjckecjjmjaaTab
import Derived.Test.YtfcpjckecjjmjaaMapK
import Derived.Maps.Range
import Derived.Maps.OwnSet
import Derived.MapKept
import Derived.DeepKeys4
import Derived.WalkKit
import Derived.ProofKit
import Derived.OpenShut
import Derived.Below
import Derived.WalkLawsBesides
import Derived.Lib.Hide
import Derived.Outline
import Derived.RegionTactic
import Derived.Deep.QuietTactic
import Derived.BigQuiet
import Derived.WalkSpells
import Derived.Deep.OwnRows
import Derived.IntWalk
import Derived.Deep.DeepMust
namespace Go.Proofs.Ytfcpjckecjjmjaa.SoG
open Go.RowKit Go.ChangeMaps Go.MapKept Go.WideShapes Go.Maps Mem Args Fvs Fxs Tab MapK
set_option linter.unusedVariables false

theorem keyed34 : Keyed Try.prog 34 := int_keyed Try.underlying34
theorem key_int (c : Int) (h : 0 ≤ c ∧ c ≤ 4294967295) : KeyV Try.prog 34 (.int .u32 c) := by
  have hw : (Lit.int .u32 c).wf = true := WalkArith.wf_u32 (by omega)
  unfold KeyV keyOf
  simp [Try.underlying34, mapKey, hw]
def upz {α : Type} (f : Int → α) (c : Int) (x : α) : Int → α := fun k => if k = c then x else f k
/-- A function of numbers as a function of keys. -/
def fV (V : Int → Option Value) : Value → Option Value
  | .int .u32 z => V z
  | _ => none
/-- Block b is a map of type 31 whose key c holds V c. -/
def MapQ (w : World) (b : Nat) (V : Int → Option Value) : Prop :=
  ∃ es clock, w.heap[b]? = some (.map es clock) ∧ Stamped es clock ∧ (∀ x ∈ es.toList, ∃ c : Int, (0 ≤ c ∧ c ≤ 4294967295) ∧ x.key = .int .u32 c ∧ V c = some x.val) ∧ ∀ c v, V c = some v → ∃ x ∈ es.toList, x.key = .int .u32 c ∧ x.val = v
section
variable {w w' : World} {b : Nat} {V : Int → Option Value}
theorem MapQ.lt (h : MapQ w b V) : b < w.heap.size := by
  obtain ⟨es, c, hb, _⟩ := h
  exact (Array.getElem?_eq_some_iff.1 hb).1
theorem MapQ.kept (h : MapQ w b V) (hb : w'.heap[b]? = w.heap[b]?) : MapQ w' b V := by
  obtain ⟨es, c, h1, h2⟩ := h
  exact ⟨es, c, hb.trans h1, h2⟩
theorem mapQ_made (w : World) : MapQ (w.alloc (.map #[] 0)) w.heap.size (fun _ => none) :=
  ⟨#[], 0, heap_alloc_new w _, stamped_empty 0, by simp, by simp⟩
theorem MapQ.mapF (h : MapQ w b V) : ∃ n, MapF Try.prog w b 34 n (fV V) := by
  obtain ⟨es, c, h1, h2, h3, h4⟩ := h
  refine ⟨es.size, es, c, h1, rfl, fun x hx => ?_, h2.2.2, fun k v => ⟨fun hk => ?_, fun hx => ?_⟩⟩
  · obtain ⟨c, hc, e, _⟩ := h3 x hx
    rw [e]
    exact key_int c hc
  · unfold fV at hk
    split at hk
    · exact h4 _ _ hk
    · cases hk
  · obtain ⟨x, hx, rfl, rfl⟩ := hx
    obtain ⟨c, _, e, hv⟩ := h3 x hx
    rw [e]
    exact hv
theorem zero37 (w : World) : (zeroValue 37).run Try.prog w = .ok (.slice none 0 0) w := by kernel_rfl
theorem MapQ.look (h : MapQ w b V) (c : Int) (hc : 0 ≤ c ∧ c ≤ 4294967295) : (Instr.lookup 31 (.map (some b)) (.int .u32 c) false).run Try.prog w = .ok ((V c).getD (.slice none 0 0)) w := by
  obtain ⟨n, hm⟩ := h.mapF
  exact hm.look Try.underlying31 keyed34 (key_int c hc) (zero37 w)
theorem MapQ.update (h : MapQ w b V) (c : Int) (hc : 0 ≤ c ∧ c ≤ 4294967295) (v : Value) :
    ∃ w', (Instr.mapUpdate 31 (.map (some b)) (.int .u32 c) v).run Try.prog w = .ok () w' ∧ MapQ w' b (upz V c (some v)) ∧ w.grownBy w' (some b) ∧ w'.heap.size = w.heap.size := by
  obtain ⟨n, hm⟩ := h.mapF
  obtain ⟨es, cl, h1, h2, h3, h4⟩ := h
  obtain ⟨w', hrun, hm', hg, hz⟩ := hm.update Try.underlying31 keyed34 (key_int c hc) v
  have hk := mapUpdate_keeps (d := .int .u32) Try.underlying31 Try.underlying34 h1 h2 (fun x hx => by obtain ⟨c, _, e, _⟩ := h3 x hx; rw [e]; exact rfl) (show IsKey (.int .u32) (.int .u32 c) from rfl) hrun
  obtain ⟨es', cl', k1, k2, k3, _⟩ := hk
  obtain ⟨es2, cl2, m1, m2, m3, m4, m5⟩ := hm'
  rw [k1] at m1
  injection m1 with m1
  injection m1 with e1 e2
  subst e1 e2
  refine ⟨w', hrun, ⟨es', cl', k1, k2, fun x hx => ?_, fun c' v' hv => ?_⟩, hg, hz⟩
  · have hx' := (m5 x.key x.val).2 ⟨x, hx, rfl, rfl⟩
    by_cases e : x.key = .int .u32 c
    · rw [e, put_self] at hx'
      exact ⟨c, hc, e, by unfold upz; rw [if_pos rfl]; exact hx'⟩
    · rw [put_other _ _ e] at hx'
      have hx2 := hx'
      unfold fV at hx2
      split at hx2
      · rename_i z hz
        obtain ⟨y, hy, hyk, _⟩ := h4 _ _ hx2
        obtain ⟨c2, hc2, e2, _⟩ := h3 y hy
        rw [e2] at hyk
        injection hyk with _ hyk
        subst hyk
        exact ⟨c2, hc2, hz, by unfold upz; rw [if_neg (fun h => e (by rw [hz, h]))]; exact hx2⟩
      · cases hx2
  · refine (m5 (.int .u32 c') v').1 ?_
    unfold upz at hv
    by_cases e : c' = c
    · subst e
      rw [if_pos rfl] at hv
      rw [put_self]
      exact hv
    · rw [if_neg e] at hv
      rw [put_other _ _ (fun h => e (by injection h))]
      exact hv
theorem MapQ.entries (h : MapQ w b V) : ∃ es : List MapEntry, (∃ esA cl, w.heap[b]? = some (.map esA cl) ∧ esA.toList = es ∧ Stamped esA cl) ∧ (∀ x ∈ es, ∃ c : Int, (0 ≤ c ∧ c ≤ 4294967295) ∧ x.key = .int .u32 c ∧ V c = some x.val) ∧ (∀ c v, V c = some v → ∃ x ∈ es, x.key = .int .u32 c ∧ x.val = v) ∧ (es.map (·.key)).Nodup := by
  obtain ⟨es, cl, h1, h2, h3, h4⟩ := h
  exact ⟨es.toList, ⟨es, cl, h1, rfl, h2⟩, h3, h4, h2.2.2⟩
end
/-- A range over the map in block b, its iterator in block r: todo is still to come. -/
def Rg (w : World) (b r : Nat) (es todo : List MapEntry) : Prop :=
  ∃ esA clock since seen c0, w.heap[b]? = some (.map esA clock) ∧ esA.toList = es ∧ Stamped esA clock ∧ w.heap[r]? = some (.mapIter (some b) since seen c0) ∧ (∀ x ∈ esA.toList, x.born < since) ∧ since ≤ c0 ∧ since ≤ clock ∧ (leftOf esA seen).toList = todo
section
variable {w w' : World} {b r : Nat} {es todo : List MapEntry}
theorem Rg.kept (h : Rg w b r es todo) (hb : w'.heap[b]? = w.heap[b]?) (hr : w'.heap[r]? = w.heap[r]?) : Rg w' b r es todo := by
  obtain ⟨esA, cl, si, se, c0, h1, h2, h3, h4, h5⟩ := h
  exact ⟨esA, cl, si, se, c0, hb.trans h1, h2, h3, hr.trans h4, h5⟩
theorem Rg.lt (h : Rg w b r es todo) : b < w.heap.size ∧ r < w.heap.size := by
  obtain ⟨esA, cl, si, se, c0, h1, h2, h3, h4, h5⟩ := h
  exact ⟨(Array.getElem?_eq_some_iff.1 h1).1, (Array.getElem?_eq_some_iff.1 h4).1⟩
theorem rg_start {esA : Array MapEntry} {cl : Nat} (h1 : w.heap[b]? = some (.map esA cl)) (h3 : Stamped esA cl) {t k e : TypeId} (ht : Try.prog.underlying t = some (.map k e)) :
    ∃ w', (Instr.range t (.map (some b))).run Try.prog w = .ok (.pointer (some ⟨w.heap.size, 0, none⟩)) w' ∧ Rg w' b w.heap.size esA.toList esA.toList ∧ w.grownBy w' none ∧ w'.heap.size = w.heap.size + 1 := by
  have hlt : b < w.heap.size := (Array.getElem?_eq_some_iff.1 h1).1
  refine ⟨_, run_range_map w t k e b esA cl ht h1, ⟨esA, cl, cl, #[], cl, ((MapKept.heap_alloc w _).2 b hlt).trans h1, rfl, h3, (MapKept.heap_alloc w _).1, h3.1, Nat.le_refl _, Nat.le_refl _, ?_⟩, World.grownBy_alloc w _ none, by simp⟩
  simp [leftOf]
theorem filter_one {l : List MapEntry} (hn : (l.map (·.born)).Nodup) {e : MapEntry} (he : e ∈ l) : l.Perm (e :: l.filter (fun x => x.born != e.born)) := by
  induction l with
  | nil => cases he
  | cons a t ih =>
    simp only [List.map_cons, List.nodup_cons] at hn
    obtain ⟨h1, h2⟩ := hn
    rcases List.mem_cons.1 he with rfl | he'
    · have : t.filter (fun x => x.born != e.born) = t := List.filter_eq_self.2 (fun x hx => by
        simp only [bne_iff_ne, ne_eq]
        intro hh
        exact h1 (List.mem_map.2 ⟨x, hx, hh⟩))
      rw [List.filter_cons_of_neg (by simp), this]
    · have hne : a.born ≠ e.born := fun hh => h1 (List.mem_map.2 ⟨e, he', hh.symm⟩)
      rw [List.filter_cons_of_pos (by simpa using hne)]
      exact ((ih h2 he').cons a).trans (List.Perm.swap e a _)
theorem Rg.next (h : Rg w b r es todo) (ty : TypeId) :
    (todo = [] ∧ (Instr.next (.pointer (some ⟨r, 0, none⟩)) false ty).run Try.prog w = .ok (.tuple #[.bool false]) w) ∨
    ∃ e w' todo', e ∈ todo ∧ (Instr.next (.pointer (some ⟨r, 0, none⟩)) false ty).run Try.prog w = .ok (.tuple #[.bool true, e.key, e.val]) w' ∧ Rg w' b r es todo' ∧ todo.Perm (e :: todo') ∧ w.grownBy w' (some r) ∧ w'.heap.size = w.heap.size ∧ (Instr.entry (.pointer (some ⟨r, 0, none⟩))).run Try.prog w' = .ok (.tuple #[e.key, e.val]) w' := by
  obtain ⟨esA, cl, si, se, c0, h1, h2, h3, h4, h5, h6, h7, h8⟩ := h
  have hne : r ≠ b := by
    intro e
    rw [e, h1] at h4
    cases h4
  rcases run_next_at (P := Try.prog) w ty r b si c0 se esA cl h4 h1 h5 h6 with ⟨h0, hrun⟩ | ⟨e, he, w1, hal, hrun⟩
  · exact .inl ⟨by rw [← h8]; exact List.eq_nil_of_length_eq_zero (by simpa using h0), hrun⟩
  · obtain ⟨hem, hes⟩ := mem_left he
    have hr1 : w1.heap[r]? = some (.mapIter (some b) si se c0) := by rcases hal with rfl | rfl <;> exact h4
    have hb1 : w1.heap[b]? = some (.map esA cl) := by rcases hal with rfl | rfl <;> exact h1
    have hset := heap_set (o' := .mapIter (some b) si (se.push e.born) cl) hr1
    have hb' : (setBlock w1 r (.mapIter (some b) si (se.push e.born) cl)).heap[b]? = some (.map esA cl) := (hset.2 b (fun e1 => hne e1.symm)).trans hb1
    refine .inr ⟨e, _, _, by rw [← h8]; exact he, hrun, ⟨esA, cl, si, se.push e.born, cl, hb', h2, h3, hset.1, h5, h7, h7, rfl⟩, ?_, ?_, ?_, run_entry_at _ r b si se esA cl e hset.1 hb' hem h3.2.1⟩
    · have hf : (leftOf esA (se.push e.born)).toList = todo.filter (fun x => x.born != e.born) := by
        rw [← h8]
        unfold leftOf
        simp only [Array.toList_filter, List.filter_filter]
        refine List.filter_congr (fun x _ => ?_)
        rw [contains_push]
        cases se.contains x.born <;> cases hx : (x.born == e.born) <;> simp_all
      rw [hf]
      refine filter_one ?_ (by rw [← h8]; exact he)
      rw [← h8]
      unfold leftOf
      rw [Array.toList_filter]
      exact (List.Sublist.map _ List.filter_sublist).nodup h3.2.1
    · rcases hal with rfl | rfl <;> exact ⟨rfl, rfl, rfl, by simp [setBlock], fun i _ hi => hset.2 i (fun e1 => hi (by rw [e1]))⟩
    · rcases hal with rfl | rfl <;> simp [setBlock]
end
end Go.Proofs.Ytfcpjckecjjmjaa.SoG
