/- A map block read as a function from keys to values: look-up, store, delete, len. Plain. -/
import Derived.WalkKit
import Derived.ProofKit
import Derived.Below
import Derived.Deep.Quiet
import Derived.MapKept
import Derived.Maps.OwnSet
import Derived.Laws.AppendOwn
namespace Go.Proofs.YtfljkbfacncdgaaDoor.Map
open Go.RowKit Go.MapKept

/-- Block b is a map of n entries with keys of kind d; the key k holds f k. -/
def MapF (w : World) (b : Nat) (d : TypeDesc) (n : Nat) (f : Value → Option Value) : Prop :=
  ∃ es clock, w.heap[b]? = some (.map es clock) ∧ es.size = n ∧ (∀ x ∈ es.toList, IsKey d x.key) ∧ (es.toList.map (·.key)).Nodup ∧ ∀ k v, f k = some v ↔ ∃ x ∈ es.toList, x.key = k ∧ x.val = v
noncomputable def put (f : Value → Option Value) (k v : Value) : Value → Option Value := fun x => @ite _ (x = k) (Classical.propDecidable _) (some v) (f x)
noncomputable def del (f : Value → Option Value) (k : Value) : Value → Option Value := fun x => @ite _ (x = k) (Classical.propDecidable _) none (f x)
theorem put_self (f : Value → Option Value) (k v : Value) : put f k v k = some v := by unfold put; rw [if_pos rfl]
theorem put_other (f : Value → Option Value) {k x : Value} (v : Value) (h : x ≠ k) : put f k v x = f x := by unfold put; rw [if_neg h]
theorem del_self (f : Value → Option Value) (k : Value) : del f k k = none := by unfold del; rw [if_pos rfl]
theorem del_other (f : Value → Option Value) {k x : Value} (h : x ≠ k) : del f k x = f x := by unfold del; rw [if_neg h]
section
variable {P : Program} {w w' : World} {b n : Nat} {d : TypeDesc} {f : Value → Option Value} {t kt et : TypeId}
theorem MapF.lt (h : MapF w b d n f) : b < w.heap.size := by
  obtain ⟨es, c, hb, _⟩ := h
  exact (Array.getElem?_eq_some_iff.1 hb).1
theorem MapF.drewN (h : MapF w b d n f) (q : Nat) : MapF (w.drewN q) b d n f := h
theorem MapF.drew (h : MapF w b d n f) : MapF w.drew b d n f := h
theorem MapF.below {B : Nat} (h : MapF w b d n f) (hb : Below B w w') (hB : b < B) : MapF w' b d n f := by
  obtain ⟨es, c, h1, h2⟩ := h
  exact ⟨es, c, (hb.block b hB).trans h1, h2⟩
theorem MapF.kept {row : Option Nat} (h : MapF w b d n f) (hg : w.grownBy w' row) (hne : some b ≠ row) : MapF w' b d n f := by
  have hlt := h.lt
  obtain ⟨es, c, h1, h2⟩ := h
  exact ⟨es, c, (hg.block b hlt hne).trans h1, h2⟩
theorem MapF.set (h : MapF w b d n f) {p : Addr} (hp : b ≠ p.block) (u : Value) : MapF (w.setCell p u) b d n f := by
  obtain ⟨es, c, h1, h2⟩ := h
  exact ⟨es, c, (Below.heap_setCell w p u b hp).trans h1, h2⟩
theorem MapF.alloc (h : MapF w b d n f) (o : Obj) : MapF (w.alloc o) b d n f := by
  have hlt := h.lt
  obtain ⟨es, c, h1, h2⟩ := h
  exact ⟨es, c, (Below.heap_alloc w o b hlt).trans h1, h2⟩
theorem MapF.congr (h : MapF w b d n f) {g : Value → Option Value} (e : ∀ k, f k = g k) : MapF w b d n g := by
  obtain rfl : f = g := funext e
  exact h
theorem mapF_made (w : World) (d : TypeDesc) : MapF (w.alloc (.map #[] 0)) w.heap.size d 0 (fun _ => none) :=
  ⟨#[], 0, heap_alloc_new w _, rfl, by simp, by simp, by simp⟩
theorem find_map (h : MapF w b d n f) {k : Value} (hk : IsKey d k) : ∃ es clock, w.heap[b]? = some (.map es clock) ∧ es.size = n ∧
    ((Instr.findNow d k es.toList 0 = some none ∧ f k = none ∧ ∀ x ∈ es.toList, x.key ≠ k) ∨ ∃ j e, Instr.findNow d k es.toList 0 = some (some (j, e.val)) ∧ es[j]? = some e ∧ e.key = k ∧ f k = some e.val) := by
  obtain ⟨es, c, h1, h2, h3, h4, h5⟩ := h
  refine ⟨es, c, h1, h2, ?_⟩
  rcases findNow_spec hk es.toList 0 h3 with ⟨a, b⟩ | ⟨j, e, a, b, c⟩
  · refine .inl ⟨a, ?_, b⟩
    cases hf : f k with
    | none => rfl
    | some v =>
      obtain ⟨x, hx, hxk, _⟩ := (h5 k v).1 hf
      exact absurd hxk (b x hx)
  · exact .inr ⟨j, e, by simpa using a, by simpa using b, c, (h5 k e.val).2 ⟨e, List.mem_of_getElem? b, c, rfl⟩⟩
theorem MapF.look_ok (h : MapF w b d n f) (ht : P.underlying t = some (.map kt et)) (hd : P.underlying kt = some d) {k z : Value} (hk : IsKey d k) (hz : (zeroValue et).run P w = .ok z w) :
    (Instr.lookup t (.map (some b)) k true).run P w = .ok (.tuple #[(f k).getD z, .bool (f k).isSome]) w := by
  obtain ⟨es, c, h1, h2, h3⟩ := find_map h hk
  rcases h3 with ⟨a, b, _⟩ | ⟨j, e, a, b, _, c⟩
  · simp [Instr.lookup, run_underlying ht, MapKept.run_getObj_map h1, run_checkKey hd hk, run_findKey hd a, hz, b, Result.andThen]
  · simp [Instr.lookup, run_underlying ht, MapKept.run_getObj_map h1, run_checkKey hd hk, run_findKey hd a, c, Result.andThen]
theorem MapF.look (h : MapF w b d n f) (ht : P.underlying t = some (.map kt et)) (hd : P.underlying kt = some d) {k z : Value} (hk : IsKey d k) (hz : (zeroValue et).run P w = .ok z w) :
    (Instr.lookup t (.map (some b)) k false).run P w = .ok ((f k).getD z) w := by
  obtain ⟨es, c, h1, h2, h3⟩ := find_map h hk
  rcases h3 with ⟨a, b, _⟩ | ⟨j, e, a, b, _, c⟩
  · simp [Instr.lookup, run_underlying ht, MapKept.run_getObj_map h1, run_checkKey hd hk, run_findKey hd a, hz, b, Result.andThen]
  · simp [Instr.lookup, run_underlying ht, MapKept.run_getObj_map h1, run_checkKey hd hk, run_findKey hd a, c, Result.andThen]
theorem MapF.len (h : MapF w b d n f) (ht : P.underlying t = some (.map kt et)) (ty : TypeId) : (Builtin.len_ #[t] ty #[.map (some b)]).run P w = .ok (.int .i64 n) w := by
  obtain ⟨es, c, h1, h2, _⟩ := h
  simp [Builtin.len_, run_underlying ht, MapKept.run_getObj_map h1, Result.andThen, h2, goInt]
theorem set_grown {o o' : Obj} (_hb : w.heap[b]? = some o) : w.grownBy { w with heap := w.heap.setIfInBounds b o' } (some b) :=
  ⟨rfl, rfl, rfl, by simp, fun j hj hne => by
    have : b ≠ j := fun e => hne (by rw [e])
    simp [this]⟩
theorem nodup_modify {es : Array MapEntry} {j : Nat} {k v : Value} {e : MapEntry} (hj : es[j]? = some e) (hk : e.key = k) : (es.modify j fun e => { e with key := k, val := v }).toList.map (·.key) = es.toList.map (·.key) :=
  modify_keys j _ (fun e' he' => by rw [hj] at he'; cases he'; exact hk.symm)
theorem MapF.update (h : MapF w b d n f) (ht : P.underlying t = some (.map kt et)) (hd : P.underlying kt = some d) {k : Value} (hk : IsKey d k) (v : Value) :
    ∃ w', (Instr.mapUpdate t (.map (some b)) k v).run P w = .ok () w' ∧ MapF w' b d (if (f k).isSome then n else n + 1) (put f k v) ∧ w.grownBy w' (some b) ∧ w'.heap.size = w.heap.size := by
  obtain ⟨es0, c0, g1, g2, g3, g4, g5⟩ := h
  have h : MapF w b d n f := ⟨es0, c0, g1, g2, g3, g4, g5⟩
  obtain ⟨es, c, h1, h2, h3⟩ := find_map h hk
  rw [g1] at h1
  injection h1 with h1
  injection h1 with e1 e2
  subst e1 e2
  rcases h3 with ⟨a, b', hno⟩ | ⟨j, e, a, hj, hek, hfv⟩
  · refine ⟨{ w with heap := w.heap.setIfInBounds b (.map (es0.push { key := k, val := v, born := c0 }) (c0 + 1)) }, ?_, ⟨_, _, (heap_set g1).1, ?_, ?_, ?_, ?_⟩, set_grown g1, by simp⟩
    · simp [Instr.mapUpdate, run_underlying ht, MapKept.run_getObj_map g1, run_checkKey hd hk, run_findKey hd a, MapKept.run_setObj_map _ g1, Result.andThen]
    · simp [b', h2]
    · intro x hx
      simp only [Array.toList_push, List.mem_append, List.mem_singleton] at hx
      rcases hx with hx | rfl
      · exact g3 x hx
      · exact hk
    · simp only [Array.toList_push, List.map_append, List.map_cons, List.map_nil]
      refine List.nodup_append.2 ⟨g4, by simp, ?_⟩
      intro x hx y hy
      simp at hy
      subst hy
      obtain ⟨x', hx', rfl⟩ := List.mem_map.1 hx
      exact hno x' hx'
    · intro k' v'
      simp only [Array.toList_push, List.mem_append, List.mem_singleton]
      by_cases e : k' = k
      · subst e
        rw [put_self]
        constructor
        · intro hv; injection hv with hv; exact ⟨_, .inr rfl, rfl, hv⟩
        · rintro ⟨x, hx | rfl, hxk, hxv⟩
          · exact absurd hxk (hno x hx)
          · exact congrArg some hxv
      · rw [put_other f v e, g5]
        constructor
        · rintro ⟨x, hx, r⟩; exact ⟨x, .inl hx, r⟩
        · rintro ⟨x, hx | rfl, hxk, hxv⟩
          · exact ⟨x, hx, hxk, hxv⟩
          · exact absurd hxk.symm e
  · have hkeys := nodup_modify (v := v) hj hek
    have hlt : j < es0.size := (Array.getElem?_eq_some_iff.1 hj).1
    refine ⟨{ w with heap := w.heap.setIfInBounds b (.map (es0.modify j fun e => { e with key := k, val := v }) c0) }, ?_, ⟨_, _, (heap_set g1).1, ?_, ?_, ?_, ?_⟩, set_grown g1, by simp⟩
    · simp [Instr.mapUpdate, run_underlying ht, MapKept.run_getObj_map g1, run_checkKey hd hk, run_findKey hd a, hj, hek, run_keyThatStays hk, MapKept.run_setObj_map _ g1, Result.andThen]
    · simp [hfv, h2]
    · exact isKey_modify g3 _ _ (fun e' he' => by rw [hj] at he'; cases he'; exact hek.symm)
    · rw [hkeys]; exact g4
    · intro k' v'
      have hmem : ∀ x : MapEntry, x ∈ (es0.modify j fun e => { e with key := k, val := v }).toList ↔ (∃ i, i ≠ j ∧ es0[i]? = some x) ∨ x = { e with key := k, val := v } := by
        intro x
        rw [List.mem_iff_getElem?]
        simp only [Array.getElem?_toList, Array.getElem?_modify]
        constructor
        · rintro ⟨i, hi⟩
          by_cases hij : j = i
          · subst hij
            rw [if_pos rfl, hj] at hi
            exact .inr (Option.some.inj hi).symm
          · rw [if_neg hij] at hi; exact .inl ⟨i, fun e => hij e.symm, hi⟩
        · rintro (⟨i, hi, hx⟩ | rfl)
          · exact ⟨i, by rw [if_neg (fun e => hi e.symm)]; exact hx⟩
          · exact ⟨j, by rw [if_pos rfl, hj]; rfl⟩
      have huniq : ∀ (i : Nat) (x : MapEntry), es0[i]? = some x → x.key = k → i = j := by
        intro i x hx hxk
        have hi : i < es0.size := (Array.getElem?_eq_some_iff.1 hx).1
        have h1 : (es0.toList.map (·.key))[i]? = some k := by simp [hx, hxk]
        have h2 : (es0.toList.map (·.key))[j]? = some k := by simp [hj, hek]
        exact (List.getElem?_inj (by simpa using hi) g4).1 (h1.trans h2.symm)
      by_cases e' : k' = k
      · subst e'
        rw [put_self]
        constructor
        · intro hv; injection hv with hv; exact ⟨_, (hmem _).2 (.inr rfl), rfl, hv⟩
        · rintro ⟨x, hx, hxk, hxv⟩
          rcases (hmem x).1 hx with ⟨i, hi, hxi⟩ | rfl
          · exact absurd (huniq i x hxi hxk) hi
          · exact congrArg some hxv
      · rw [put_other f v e', g5]
        constructor
        · rintro ⟨x, hx, hxk, hxv⟩
          obtain ⟨i, hi⟩ := List.mem_iff_getElem?.1 hx
          have hij : i ≠ j := by
            rintro rfl
            have : x = e := by simpa [hj] using hi.symm
            subst this
            exact e' (hxk.symm.trans hek)
          exact ⟨x, (hmem x).2 (.inl ⟨i, hij, by simpa using hi⟩), hxk, hxv⟩
        · rintro ⟨x, hx, hxk, hxv⟩
          rcases (hmem x).1 hx with ⟨i, hi, hxi⟩ | rfl
          · exact ⟨x, List.mem_iff_getElem?.2 ⟨i, by simpa using hxi⟩, hxk, hxv⟩
          · exact absurd hxk.symm e'
theorem erase_mem {es : Array MapEntry} {j : Nat} {e : MapEntry} (hj : es[j]? = some e) (hn : (es.toList.map (·.key)).Nodup) (x : MapEntry) : x ∈ (es.eraseIdxIfInBounds j).toList ↔ x ∈ es.toList ∧ x.key ≠ e.key := by
  have hlt : j < es.size := (Array.getElem?_eq_some_iff.1 hj).1
  have he : (es.eraseIdxIfInBounds j).toList = es.toList.eraseIdx j := by simp [Array.eraseIdxIfInBounds, hlt]
  rw [he]
  have hj' : es.toList[j]? = some e := by simpa using hj
  generalize es.toList = l at hn hj'
  clear he hlt hj es
  induction l generalizing j with
  | nil => simp at hj'
  | cons y l ih =>
    simp only [List.map_cons, List.nodup_cons, List.mem_map, not_exists, not_and] at hn
    cases j with
    | zero =>
      simp at hj'
      subst hj'
      simp only [List.eraseIdx_cons_zero, List.mem_cons]
      constructor
      · intro hx; exact ⟨.inr hx, fun e => hn.1 x hx e⟩
      · rintro ⟨rfl | hx, hne⟩
        · exact absurd rfl hne
        · exact hx
    | succ j =>
      simp at hj'
      simp only [List.eraseIdx_cons_succ, List.mem_cons, ih hn.2 hj']
      constructor
      · rintro (rfl | ⟨hx, hne⟩)
        · exact ⟨.inl rfl, fun hk => hn.1 e (List.mem_of_getElem? hj') hk.symm⟩
        · exact ⟨.inr hx, hne⟩
      · rintro ⟨rfl | hx, hne⟩
        · exact .inl rfl
        · exact .inr ⟨hx, hne⟩
theorem MapF.delete (h : MapF w b d n f) (ht : P.underlying t = some (.map kt et)) (hd : P.underlying kt = some d) {k : Value} (hk : IsKey d k) (ty : TypeId) :
    ∃ w', (Builtin.delete_ #[t, kt] ty #[.map (some b), k]).run P w = .ok (.tuple #[]) w' ∧ MapF w' b d (if (f k).isSome then n - 1 else n) (del f k) ∧ w.grownBy w' (some b) ∧ w'.heap.size = w.heap.size := by
  obtain ⟨es0, c0, g1, g2, g3, g4, g5⟩ := h
  have h : MapF w b d n f := ⟨es0, c0, g1, g2, g3, g4, g5⟩
  obtain ⟨es, c, h1, h2, h3⟩ := find_map h hk
  rw [g1] at h1
  injection h1 with h1
  injection h1 with e1 e2
  subst e1 e2
  rcases h3 with ⟨a, b', hno⟩ | ⟨j, e, a, hj, hek, hfv⟩
  · refine ⟨{ w with heap := w.heap.setIfInBounds b (.map es0 c0) }, ?_, ⟨_, _, (heap_set g1).1, ?_, g3, g4, ?_⟩, set_grown g1, by simp⟩
    · simp [Builtin.delete_, run_underlying ht, MapKept.run_getObj_map g1, run_checkKey hd hk, run_findKey hd a, MapKept.run_setObj_map _ g1, Result.andThen]
    · simp [b', h2]
    · intro k' v'
      by_cases e : k' = k
      · subst e
        rw [del_self]
        constructor
        · intro hv; cases hv
        · rintro ⟨x, hx, hxk, hxv⟩; exact absurd hxk (hno x hx)
      · rw [del_other f e, g5]
  · have hlt : j < es0.size := (Array.getElem?_eq_some_iff.1 hj).1
    have hmem := erase_mem hj g4
    have he0 : (es0.eraseIdxIfInBounds j).toList = es0.toList.eraseIdx j := by simp [Array.eraseIdxIfInBounds, hlt]
    refine ⟨{ w with heap := w.heap.setIfInBounds b (.map (es0.eraseIdxIfInBounds j) c0) }, ?_, ⟨_, _, (heap_set g1).1, ?_, ?_, ?_, ?_⟩, set_grown g1, by simp⟩
    · simp [Builtin.delete_, run_underlying ht, MapKept.run_getObj_map g1, run_checkKey hd hk, run_findKey hd a, MapKept.run_setObj_map _ g1, Result.andThen]
    · have he : (es0.eraseIdxIfInBounds j).size = (es0.toList.eraseIdx j).length := by rw [← he0]; exact Array.length_toList.symm
      rw [he, List.length_eraseIdx, if_pos (by simpa using hlt)]
      simp [hfv, h2]
    · intro x hx; exact g3 x ((hmem x).1 hx).1
    · rw [he0]; exact ((List.eraseIdx_sublist _ _).map _).nodup g4
    · intro k' v'
      by_cases e' : k' = k
      · subst e'
        rw [del_self]
        constructor
        · intro hv; cases hv
        · rintro ⟨x, hx, hxk, hxv⟩; exact absurd (hxk.trans hek.symm) ((hmem x).1 hx).2
      · rw [del_other f e', g5]
        constructor
        · rintro ⟨x, hx, hxk, hxv⟩; exact ⟨x, (hmem x).2 ⟨hx, fun q => e' (hxk.symm.trans (q.trans hek))⟩, hxk, hxv⟩
        · rintro ⟨x, hx, hxk, hxv⟩; exact ⟨x, ((hmem x).1 hx).1, hxk, hxv⟩
end
section
variable {P : Program} (w : World) {ops : Array Oper} {rest : List Oper} {o : Oper} {a : Act} {Q : Exit → Act → World → Prop}
theorem wpList_mapUpdate_f (hg : o.guard = none) (m x v : Operand) (t : TypeId) (hop : o.op = Op.mapUpdate t m x v) (kt et : TypeId) (d : TypeDesc) (ht : P.underlying t = some (.map kt et)) (hd : P.underlying kt = some d)
    (b n : Nat) (f : Value → Option Value) (hm : a.eval m = .map (some b)) (h : MapF w b d n f) (key val : Value) (hx : a.eval x = key) (hv : a.eval v = val) (hk : IsKey d key)
    (hK : ∀ w', MapF w' b d (if (f key).isSome then n else n + 1) (put f key val) → w.grownBy w' (some b) → w'.heap.size = w.heap.size → wpList P ops Q rest (a.put o.dst undef) w') :
    wpList P ops Q (o :: rest) a w := by
  refine wpList_plain hg fun K' hK' => ?_
  obtain ⟨w', hrun, r1, r2, r3⟩ := h.update ht hd hk val
  unfold Oper.wp
  simp [execOp, hop, hm, hx, hv, hrun, Result.andThen]
  exact hK' _ _ (hK w' r1 r2 r3)
theorem wpList_delete_f (hg : o.guard = none) (m x : Operand) (t kt : TypeId) (hop : o.op = Op.call { callee := Callee.builtin Builtin.delete, args := #[m, x], argTypes := #[t, kt] }) (et : TypeId) (d : TypeDesc) (ht : P.underlying t = some (.map kt et)) (hd : P.underlying kt = some d)
    (b n : Nat) (f : Value → Option Value) (hm : a.eval m = .map (some b)) (h : MapF w b d n f) (key : Value) (hx : a.eval x = key) (hk : IsKey d key)
    (hK : ∀ w', MapF w' b d (if (f key).isSome then n - 1 else n) (del f key) → w.grownBy w' (some b) → w'.heap.size = w.heap.size → wpList P ops Q rest (a.put o.dst (.tuple #[])) w') :
    wpList P ops Q (o :: rest) a w := by
  refine wpList_plain hg fun K' hK' => ?_
  obtain ⟨w', hrun, r1, r2, r3⟩ := h.delete ht hd hk o.type
  unfold Oper.wp
  simp [execOp, hop, resolve, invoke, builtin, hm, hx, hrun, Result.andThen]
  exact hK' _ _ (hK w' r1 r2 r3)
end
end Go.Proofs.YtfljkbfacncdgaaDoor.Map
