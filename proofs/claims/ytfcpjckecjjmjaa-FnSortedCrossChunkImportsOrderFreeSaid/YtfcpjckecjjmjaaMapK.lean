/- A map block read as a function from keys to values, its keys of whatever kind the reader reads: look-up, store, len. Plain. -/
import Derived.WalkKit
import Derived.ProofKit
import Derived.Below
import Derived.Deep.Quiet
import Derived.MapKept
import Derived.Maps.OwnSet
import Derived.Laws.AppendOwn
import Derived.Maps.Keyed
import Derived.DeepKeys4
namespace Go.Proofs.Ytfcpjckecjjmjaa.MapK
open Go.RowKit Go.MapKept Go.Maps Go.WideShapes

/-- A value that reads as a key. -/
def KeyV (P : Program) (d : TypeId) (v : Value) : Prop := ∃ l, keyOf P d v = some l
/-- Block b is a map of n entries with keys of type d; the key k holds f k. -/
def MapF (P : Program) (w : World) (b : Nat) (d : TypeId) (n : Nat) (f : Value → Option Value) : Prop :=
  ∃ es clock, w.heap[b]? = some (.map es clock) ∧ es.size = n ∧ (∀ x ∈ es.toList, KeyV P d x.key) ∧ (es.toList.map (·.key)).Nodup ∧ ∀ k v, f k = some v ↔ ∃ x ∈ es.toList, x.key = k ∧ x.val = v
noncomputable def put (f : Value → Option Value) (k v : Value) : Value → Option Value := fun x => @ite _ (x = k) (Classical.propDecidable _) (some v) (f x)
noncomputable def del (f : Value → Option Value) (k : Value) : Value → Option Value := fun x => @ite _ (x = k) (Classical.propDecidable _) none (f x)
theorem put_self (f : Value → Option Value) (k v : Value) : put f k v k = some v := by unfold put; rw [if_pos rfl]
theorem put_other (f : Value → Option Value) {k x : Value} (v : Value) (h : x ≠ k) : put f k v x = f x := by unfold put; rw [if_neg h]
theorem del_self (f : Value → Option Value) (k : Value) : del f k k = none := by unfold del; rw [if_pos rfl]
theorem del_other (f : Value → Option Value) {k x : Value} (h : x ≠ k) : del f k x = f x := by unfold del; rw [if_neg h]
section
variable {P : Program} {w w' : World} {b n : Nat} {d : TypeId} {f : Value → Option Value} {t et : TypeId}
theorem MapF.lt (h : MapF P w b d n f) : b < w.heap.size := by
  obtain ⟨es, c, hb, _⟩ := h
  exact (Array.getElem?_eq_some_iff.1 hb).1
theorem MapF.drewN (h : MapF P w b d n f) (q : Nat) : MapF P (w.drewN q) b d n f := h
theorem MapF.drew (h : MapF P w b d n f) : MapF P w.drew b d n f := h
theorem MapF.below {B : Nat} (h : MapF P w b d n f) (hb : Below B w w') (hB : b < B) : MapF P w' b d n f := by
  obtain ⟨es, c, h1, h2⟩ := h
  exact ⟨es, c, (hb.block b hB).trans h1, h2⟩
theorem MapF.kept {row : Option Nat} (h : MapF P w b d n f) (hg : w.grownBy w' row) (hne : some b ≠ row) : MapF P w' b d n f := by
  have hlt := h.lt
  obtain ⟨es, c, h1, h2⟩ := h
  exact ⟨es, c, (hg.block b hlt hne).trans h1, h2⟩
theorem MapF.set (h : MapF P w b d n f) {p : Addr} (hp : b ≠ p.block) (u : Value) : MapF P (w.setCell p u) b d n f := by
  obtain ⟨es, c, h1, h2⟩ := h
  exact ⟨es, c, (Below.heap_setCell w p u b hp).trans h1, h2⟩
theorem MapF.alloc (h : MapF P w b d n f) (o : Obj) : MapF P (w.alloc o) b d n f := by
  have hlt := h.lt
  obtain ⟨es, c, h1, h2⟩ := h
  exact ⟨es, c, (Below.heap_alloc w o b hlt).trans h1, h2⟩
theorem MapF.congr (h : MapF P w b d n f) {g : Value → Option Value} (e : ∀ k, f k = g k) : MapF P w b d n g := by
  obtain rfl : f = g := funext e
  exact h
theorem mapF_made (w : World) (d : TypeId) : MapF P (w.alloc (.map #[] 0)) w.heap.size d 0 (fun _ => none) :=
  ⟨#[], 0, heap_alloc_new w _, rfl, by simp, by simp, by simp⟩
theorem find_map (K : Keyed P d) (h : MapF P w b d n f) {k : Value} (hk : KeyV P d k) : ∃ es clock, w.heap[b]? = some (.map es clock) ∧ es.size = n ∧
    (((Instr.findKey d k es.toList).run P w = .ok none w ∧ f k = none ∧ ∀ x ∈ es.toList, x.key ≠ k) ∨ ∃ j e, (Instr.findKey d k es.toList).run P w = .ok (some (j, e.val)) w ∧ es[j]? = some e ∧ e.key = k ∧ f k = some e.val) := by
  obtain ⟨es, c, h1, h2, h3, h4, h5⟩ := h
  refine ⟨es, c, h1, h2, ?_⟩
  obtain ⟨lk, hlk⟩ := hk
  rcases K.find w hlk es.toList h3 with ⟨a, b⟩ | ⟨j, e, a, b, c⟩
  · refine .inl ⟨a, ?_, b⟩
    cases hf : f k with
    | none => rfl
    | some v =>
      obtain ⟨x, hx, hxk, _⟩ := (h5 k v).1 hf
      exact absurd hxk (b x hx)
  · exact .inr ⟨j, e, a, by simpa using b, c, (h5 k e.val).2 ⟨e, List.mem_of_getElem? b, c, rfl⟩⟩
theorem MapF.look_ok (h : MapF P w b d n f) (ht : P.underlying t = some (.map d et)) (K : Keyed P d) {k z : Value} (hk : KeyV P d k) (hz : (zeroValue et).run P w = .ok z w) :
    (Instr.lookup t (.map (some b)) k true).run P w = .ok (.tuple #[(f k).getD z, .bool (f k).isSome]) w := by
  obtain ⟨es, c, h1, h2, h3⟩ := find_map K h hk
  rcases h3 with ⟨a, b, _⟩ | ⟨j, e, a, b, _, c⟩
  · simp [Instr.lookup, run_underlying ht, MapKept.run_getObj_map h1, K.check w _ hk.choose_spec, a, hz, b, Result.andThen]
  · simp [Instr.lookup, run_underlying ht, MapKept.run_getObj_map h1, K.check w _ hk.choose_spec, a, c, Result.andThen]
theorem MapF.look (h : MapF P w b d n f) (ht : P.underlying t = some (.map d et)) (K : Keyed P d) {k z : Value} (hk : KeyV P d k) (hz : (zeroValue et).run P w = .ok z w) :
    (Instr.lookup t (.map (some b)) k false).run P w = .ok ((f k).getD z) w := by
  obtain ⟨es, c, h1, h2, h3⟩ := find_map K h hk
  rcases h3 with ⟨a, b, _⟩ | ⟨j, e, a, b, _, c⟩
  · simp [Instr.lookup, run_underlying ht, MapKept.run_getObj_map h1, K.check w _ hk.choose_spec, a, hz, b, Result.andThen]
  · simp [Instr.lookup, run_underlying ht, MapKept.run_getObj_map h1, K.check w _ hk.choose_spec, a, c, Result.andThen]
theorem MapF.len (h : MapF P w b d n f) (ht : P.underlying t = some (.map d et)) (ty : TypeId) : (Builtin.len_ #[t] ty #[.map (some b)]).run P w = .ok (.int .i64 n) w := by
  obtain ⟨es, c, h1, h2, _⟩ := h
  simp [Builtin.len_, run_underlying ht, MapKept.run_getObj_map h1, Result.andThen, h2, goInt]
theorem set_grown {o o' : Obj} (_hb : w.heap[b]? = some o) : w.grownBy { w with heap := w.heap.setIfInBounds b o' } (some b) :=
  ⟨rfl, rfl, rfl, by simp, fun j hj hne => by
    have : b ≠ j := fun e => hne (by rw [e])
    simp [this]⟩
theorem nodup_modify {es : Array MapEntry} {j : Nat} {k v : Value} {e : MapEntry} (hj : es[j]? = some e) (hk : e.key = k) : (es.modify j fun e => { e with key := k, val := v }).toList.map (·.key) = es.toList.map (·.key) :=
  modify_keys j _ (fun e' he' => by rw [hj] at he'; cases he'; exact hk.symm)
theorem MapF.update (h : MapF P w b d n f) (ht : P.underlying t = some (.map d et)) (K : Keyed P d) {k : Value} (hk : KeyV P d k) (v : Value) :
    ∃ w', (Instr.mapUpdate t (.map (some b)) k v).run P w = .ok () w' ∧ MapF P w' b d (if (f k).isSome then n else n + 1) (put f k v) ∧ w.grownBy w' (some b) ∧ w'.heap.size = w.heap.size := by
  obtain ⟨es0, c0, g1, g2, g3, g4, g5⟩ := h
  have h : MapF P w b d n f := ⟨es0, c0, g1, g2, g3, g4, g5⟩
  obtain ⟨es, c, h1, h2, h3⟩ := find_map K h hk
  rw [g1] at h1
  injection h1 with h1
  injection h1 with e1 e2
  subst e1 e2
  rcases h3 with ⟨a, b', hno⟩ | ⟨j, e, a, hj, hek, hfv⟩
  · refine ⟨{ w with heap := w.heap.setIfInBounds b (.map (es0.push { key := k, val := v, born := c0 }) (c0 + 1)) }, ?_, ⟨_, _, (heap_set g1).1, ?_, ?_, ?_, ?_⟩, set_grown g1, by simp⟩
    · simp [Instr.mapUpdate, run_underlying ht, MapKept.run_getObj_map g1, K.check w _ hk.choose_spec, a, MapKept.run_setObj_map _ g1, Result.andThen]
    · simp [b', h2]
    · intro x hx
      simp only [Array.toList_push, List.mem_append, List.mem_singleton] at hx
      rcases hx with hx | rfl
      · exact g3 x hx
      · exact hk
    · simp only [Array.toList_push, List.map_append, List.map_cons, List.map_nil]
      refine List.nodup_append.2 ⟨g4, by simp, ?_⟩
      intro x hx y hy
      simp at hy
      subst hy
      obtain ⟨x', hx', rfl⟩ := List.mem_map.1 hx
      exact hno x' hx'
    · intro k' v'
      simp only [Array.toList_push, List.mem_append, List.mem_singleton]
      by_cases e : k' = k
      · subst e
        rw [put_self]
        constructor
        · intro hv; injection hv with hv; exact ⟨_, .inr rfl, rfl, hv⟩
        · rintro ⟨x, hx | rfl, hxk, hxv⟩
          · exact absurd hxk (hno x hx)
          · exact congrArg some hxv
      · rw [put_other f v e, g5]
        constructor
        · rintro ⟨x, hx, r⟩; exact ⟨x, .inl hx, r⟩
        · rintro ⟨x, hx | rfl, hxk, hxv⟩
          · exact ⟨x, hx, hxk, hxv⟩
          · exact absurd hxk.symm e
  · have hkeys := nodup_modify (v := v) hj hek
    have hlt : j < es0.size := (Array.getElem?_eq_some_iff.1 hj).1
    refine ⟨{ w with heap := w.heap.setIfInBounds b (.map (es0.modify j fun e => { e with key := k, val := v }) c0) }, ?_, ⟨_, _, (heap_set g1).1, ?_, ?_, ?_, ?_⟩, set_grown g1, by simp⟩
    · simp [Instr.mapUpdate, run_underlying ht, MapKept.run_getObj_map g1, K.check w _ hk.choose_spec, a, hj, hek, K.stays w hk.choose_spec, MapKept.run_setObj_map _ g1, Result.andThen]
    · simp [hfv, h2]
    · exact fun x hx => by
        have hx' : x.key ∈ (es0.modify j fun e => { e with key := k, val := v }).toList.map (·.key) := List.mem_map.2 ⟨x, hx, rfl⟩
        rw [hkeys] at hx'
        obtain ⟨y, hy, e'⟩ := List.mem_map.1 hx'
        rw [← e']
        exact g3 y hy
    · rw [hkeys]; exact g4
    · intro k' v'
      have hmem : ∀ x : MapEntry, x ∈ (es0.modify j fun e => { e with key := k, val := v }).toList ↔ (∃ i, i ≠ j ∧ es0[i]? = some x) ∨ x = { e with key := k, val := v } := by
        intro x
        rw [List.mem_iff_getElem?]
        simp only [Array.getElem?_toList, Array.getElem?_modify]
        constructor
        · rintro ⟨i, hi⟩
          by_cases hij : j = i
          · subst hij
            rw [if_pos rfl, hj] at hi
            exact .inr (Option.some.inj hi).symm
          · rw [if_neg hij] at hi; exact .inl ⟨i, fun e => hij e.symm, hi⟩
        · rintro (⟨i, hi, hx⟩ | rfl)
          · exact ⟨i, by rw [if_neg (fun e => hi e.symm)]; exact hx⟩
          · exact ⟨j, by rw [if_pos rfl, hj]; rfl⟩
      have huniq : ∀ (i : Nat) (x : MapEntry), es0[i]? = some x → x.key = k → i = j := by
        intro i x hx hxk
        have hi : i < es0.size := (Array.getElem?_eq_some_iff.1 hx).1
        have h1 : (es0.toList.map (·.key))[i]? = some k := by simp [hx, hxk]
        have h2 : (es0.toList.map (·.key))[j]? = some k := by simp [hj, hek]
        exact (List.getElem?_inj (by simpa using hi) g4).1 (h1.trans h2.symm)
      by_cases e' : k' = k
      · subst e'
        rw [put_self]
        constructor
        · intro hv; injection hv with hv; exact ⟨_, (hmem _).2 (.inr rfl), rfl, hv⟩
        · rintro ⟨x, hx, hxk, hxv⟩
          rcases (hmem x).1 hx with ⟨i, hi, hxi⟩ | rfl
          · exact absurd (huniq i x hxi hxk) hi
          · exact congrArg some hxv
      · rw [put_other f v e', g5]
        constructor
        · rintro ⟨x, hx, hxk, hxv⟩
          obtain ⟨i, hi⟩ := List.mem_iff_getElem?.1 hx
          have hij : i ≠ j := by
            rintro rfl
            have : x = e := by simpa [hj] using hi.symm
            subst this
            exact e' (hxk.symm.trans hek)
          exact ⟨x, (hmem x).2 (.inl ⟨i, hij, by simpa using hi⟩), hxk, hxv⟩
        · rintro ⟨x, hx, hxk, hxv⟩
          rcases (hmem x).1 hx with ⟨i, hi, hxi⟩ | rfl
          · exact ⟨x, List.mem_iff_getElem?.2 ⟨i, by simpa using hxi⟩, hxk, hxv⟩
          · exact absurd hxk.symm e'
section
variable {P : Program} (w : World) {ops : Array Oper} {rest : List Oper} {o : Oper} {a : Act} {Q : Exit → Act → World → Prop}
theorem wpList_mapUpdate_f (hg : o.guard = none) (m x v : Operand) (t : TypeId) (hop : o.op = Op.mapUpdate t m x v) (et : TypeId) (d : TypeId) (ht : P.underlying t = some (.map d et)) (K : Keyed P d)
    (b n : Nat) (f : Value → Option Value) (hm : a.eval m = .map (some b)) (h : MapF P w b d n f) (key val : Value) (hx : a.eval x = key) (hv : a.eval v = val) (hk : KeyV P d key)
    (hK : ∀ w', MapF P w' b d (if (f key).isSome then n else n + 1) (put f key val) → w.grownBy w' (some b) → w'.heap.size = w.heap.size → wpList P ops Q rest (a.put o.dst undef) w') :
    wpList P ops Q (o :: rest) a w := by
  refine wpList_plain hg fun K' hK' => ?_
  obtain ⟨w', hrun, r1, r2, r3⟩ := h.update ht K hk val
  unfold Oper.wp
  simp [execOp, hop, hm, hx, hv, hrun, Result.andThen]
  exact hK' _ _ (hK w' r1 r2 r3)
end
end
end Go.Proofs.Ytfcpjckecjjmjaa.MapK
