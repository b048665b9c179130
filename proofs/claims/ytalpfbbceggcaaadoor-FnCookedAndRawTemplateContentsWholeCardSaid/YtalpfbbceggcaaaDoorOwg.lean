/- An append onto an own slice, with what became of every other block; own slices beside other blocks. Plain. -/
import Derived.Test.YtalpfbbceggcaaaDoorOwn
import Derived.Maps.AppendAt
namespace Go.Proofs.YtalpfbbceggcaaaDoor.Owg
open Go.RowKit Mem Args Own
section
variable {w w' : World} {B : Nat} {E : TypeId} {k : IntKind} {v : Value} {zs : List Int}
theorem own_cur (h : Own w B E k v zs) : ∀ g, v.ownBlock = some g → B ≤ g ∧ ∃ cur, w.heap[g]? = some (.cells cur E (0, 0)) := by
  intro g hg
  rcases h.2 with ⟨rfl, _⟩ | ⟨g', cap, cur, rfl, hb, hh, _⟩
  · simp [Value.ownBlock] at hg
  · have : g' = g := by simpa [Value.ownBlock] using hg
    subst this
    exact ⟨hb, cur, hh⟩
theorem own_other (h : Own w B E k v zs) {b : Nat} (hg : w.grownBy w' (some b)) (hv : v.ownBlock ≠ some b) : Own w' B E k v zs := by
  refine ⟨h.1, ?_⟩
  rcases h.2 with h0 | ⟨g, cap, cur, rfl, a, hh, r⟩
  · exact .inl h0
  · exact .inr ⟨g, cap, cur, rfl, a, (hg.block g (Array.getElem?_eq_some_iff.1 hh).1 (by intro e; injection e with e; subst e; exact hv rfl)).trans hh, r⟩
theorem own_not_iter (h : Own w B E k v zs) {b : Nat} {s : ByteArray} {j : Nat} (hi : w.heap[b]? = some (.stringIter s j)) : v.ownBlock ≠ some b := by
  intro e
  obtain ⟨_, cur, hc⟩ := own_cur h b e
  rw [hi] at hc
  cases hc
theorem grown_below' {row : Option Nat} (h : w.grownBy w' row) (hr : ∀ g, row = some g → B ≤ g) (hB : B ≤ w.heap.size) : Below B w w' :=
  ⟨h.os, h.tape, h.output, h.size, fun i hi => h.block i (by omega) (fun e => by have := hr i e.symm; omega)⟩
end
section
variable {P : Program} (w : World)
/-- append(v, u...) of numbers that are read. -/
theorem wpList_own_g {ops : Array Oper} {rest : List Oper} {o : Oper} {a : Act} {Q : Exit → Act → World → Prop} (hgd : o.guard = none) (s x : Operand) (t : TypeId)
    (ho : o.op = .call { callee := .builtin .append, args := #[s, x], argTypes := #[t, t] })
    (B : Nat) (E : TypeId) (k : IntKind) (bytes : Nat) (ht : P.underlying t = some (.slice E)) (hinfo : (P.info? E).map (fun i => (i.zero, i.size, i.bytes)) = some (some (.int k 0), 1, bytes)) (hby : bytes ≤ 8)
    (v : Value) (zs : List Int) (hs : a.eval s = v) (hown : Own w B E k v zs) (b off n c : Nat) (ys : List Int) (hx : a.eval x = .slice (some ⟨b, off, none⟩) n c) (hn : ys.length = n) (hcell : ∀ i, i < n → w.cell? ⟨b, off + i, none⟩ = some (.int k (ys.getD i 0)))
    (hlen : zs.length + n ≤ 1000000000) (hB : B ≤ w.heap.size)
    (h : ∀ A' n' c' w', Own w' B E k (.slice A' n' c') (zs ++ ys) → w.grownBy w' v.ownBlock → (Value.ownBlock (.slice A' n' c') = v.ownBlock ∨ Value.ownBlock (.slice A' n' c') = some w.heap.size) → wpList P ops Q rest (a.put o.dst (.slice A' n' c')) w') : wpList P ops Q (o :: rest) a w := by
  obtain ⟨i, hi, hzz⟩ := Option.map_eq_some_iff.1 hinfo
  simp only [Prod.mk.injEq] at hzz
  obtain ⟨hz, hsz, hb⟩ := hzz
  subst hn
  refine wpList_append_own_at w hgd s x t ho B E i (.int k 0) 1 bytes ht hi hz hsz hb rfl (by decide) v zs.length (iv k zs) hs hown ⟨b, off, none⟩ ys.length c (iv k ys) hx (by simp [iv]) ?_ ?_ (by unfold maxLen; omega) ?_ hB ?_
  · intro j u hu
    have hj : j < ys.length := by
      have := (List.getElem?_eq_some_iff.1 hu).1
      simpa [iv] using this
    have hadd : (⟨b, off, none⟩ : Addr).add j = ⟨b, off + j, none⟩ := by unfold Addr.add; split <;> simp_all
    rw [hadd, hcell j hj, ← iv_at k ys j hj]
    exact hu
  · intro u hu
    simp only [iv, List.mem_map] at hu
    obtain ⟨z, _, rfl⟩ := hu
    rfl
  · have : (zs.length + ys.length) * bytes ≤ (zs.length + ys.length) * 8 := Nat.mul_le_mul_left _ hby
    omega
  · intro v' w' h2 h3 _ h5
    have h2' : Own w' B E k v' (zs ++ ys) := by
      unfold Own
      rw [List.length_append, show iv k (zs ++ ys) = iv k zs ++ iv k ys by simp [iv]]
      exact h2
    obtain ⟨A', c', rfl⟩ := h2'.form
    exact h _ _ _ w' h2' h3 h5
end
/-- The text's iterator: a step, and the end. -/
theorem next_at {P : Program} {W : World} {b pos : Nat} {s : ByteArray} (h : W.heap[b]? = some (.stringIter s pos)) (hlt : pos < s.size) :
    ∃ W', (∀ ty, (Instr.next (.pointer (some ⟨b, 0, none⟩)) true ty).run P W = .ok (.tuple #[.bool true, .int .i64 pos, .int .i32 (Utf8.decode s pos).1]) W') ∧ W'.heap[b]? = some (.stringIter s (pos + (Utf8.decode s pos).2)) ∧ W.grownBy W' (some b) ∧ W'.heap.size = W.heap.size := by
  have hb : b < W.heap.size := (Array.getElem?_eq_some_iff.1 h).1
  refine ⟨{ W with heap := W.heap.setIfInBounds b (.stringIter s (pos + (Utf8.decode s pos).2)) }, fun ty => ?_, by simp [hb], ?_, by simp⟩
  · simp only [Instr.next, getObj, setObj, Sem.run_bind, Sem.run, h, Result.andThen, hlt, if_true]
    simp [goInt]
  · exact ⟨rfl, rfl, rfl, by simp, fun j hj hne => by
      have : b ≠ j := fun e => hne (by rw [e])
      simp [this]⟩
theorem next_end {P : Program} {W : World} {b pos : Nat} {s : ByteArray} (h : W.heap[b]? = some (.stringIter s pos)) (hlt : ¬ pos < s.size) (ty : TypeId) :
    (Instr.next (.pointer (some ⟨b, 0, none⟩)) true ty).run P W = .ok (.tuple #[.bool false]) W := by
  simp [Instr.next, getObj, Sem.run, h, hlt]
end Go.Proofs.YtalpfbbceggcaaaDoor.Owg
