/- A slice of integers of the call's own, all in blocks from B on: append of one element, of a whole slice; reading it. Plain. -/
import Derived.Test.YtalpfbbceggcaaaDoorSl
import Derived.Laws.AppendOwn
import Derived.Laws.MakeOwn
namespace Go.Proofs.YtalpfbbceggcaaaDoor.Own
open Go.RowKit Mem Args

/-- v is nil or a slice at the head of a block from B on; its numbers are zs. -/
def Own (w : World) (B : Nat) (E : TypeId) (k : IntKind) (v : Value) (zs : List Int) : Prop := w.ownsRow B E 1 v zs.length (iv k zs)
section
variable {w w' : World} {B : Nat} {E : TypeId} {k : IntKind} {v : Value} {zs : List Int}
theorem own_nil (w : World) (B : Nat) (E : TypeId) (k : IntKind) : Own w B E k (.slice none 0 0) [] := World.ownsRow_nil w B E 1
theorem Own.lt (h : Own w B E k v zs) : ∀ g, v.ownBlock = some g → B ≤ g ∧ g < w.heap.size := by
  intro g hg
  rcases h.2 with ⟨rfl, _⟩ | ⟨g', cap, cur, rfl, hb, hh, _⟩
  · simp [Value.ownBlock] at hg
  · have : g' = g := by simpa [Value.ownBlock] using hg
    subst this
    exact ⟨hb, (Array.getElem?_eq_some_iff.1 hh).1⟩
theorem Own.form (h : Own w B E k v zs) : ∃ A c, v = .slice A zs.length c := by
  rcases h.2 with ⟨rfl, h0⟩ | ⟨g, cap, cur, rfl, _⟩
  · rw [h0]; exact ⟨none, 0, rfl⟩
  · exact ⟨_, _, rfl⟩
theorem Own.drewN (h : Own w B E k v zs) (n : Nat) : Own (w.drewN n) B E k v zs := h
theorem Own.drew (h : Own w B E k v zs) : Own w.drew B E k v zs := h
theorem Own.alloc (h : Own w B E k v zs) (o : Obj) : Own (w.alloc o) B E k v zs := by
  refine ⟨h.1, ?_⟩
  rcases h.2 with h0 | ⟨g, cap, cur, rfl, a, hh, b⟩
  · exact .inl h0
  · exact .inr ⟨g, cap, cur, rfl, a, (Below.heap_alloc w o g (Array.getElem?_eq_some_iff.1 hh).1).trans hh, b⟩
theorem Own.later (h : Own w B E k v zs) {C : Nat} (hb : Below C w w') (hC : w.heap.size ≤ C) : Own w' B E k v zs := by
  refine ⟨h.1, ?_⟩
  rcases h.2 with h0 | ⟨g, cap, cur, rfl, a, hh, b⟩
  · exact .inl h0
  · exact .inr ⟨g, cap, cur, rfl, a, (hb.block g (Nat.lt_of_lt_of_le (Array.getElem?_eq_some_iff.1 hh).1 hC)).trans hh, b⟩
theorem Own.grown (h : Own w B E k v zs) (hg : w.grownBy w' v.ownBlock) (hB : B ≤ w.heap.size) : Below B w w' :=
  ⟨hg.os, hg.tape, hg.output, hg.size, fun i hi => hg.block i (by omega) (fun e => by have := (h.lt i e.symm).1; omega)⟩
theorem Own.ints (h : Own w B E k v zs) (hwf : ∀ z ∈ zs, (Lit.int k z).wf = true) : ∃ A c, v = .slice A zs.length c ∧ IsInts k w A zs.length c zs := by
  rcases h.2 with ⟨rfl, h0⟩ | ⟨g, cap, cur, rfl, hb, hh, hn, hcm, hcs, htk⟩
  · have hz : zs = [] := List.eq_nil_of_length_eq_zero h0
    subst hz
    exact ⟨none, 0, rfl, ⟨Nat.le_refl _, Nat.zero_le _, rfl, by simp, fun _ => rfl, fun h => absurd h (by omega)⟩⟩
  · refine ⟨_, _, rfl, ⟨hn, hcm, rfl, hwf, (fun h => by cases h), fun _ => ⟨g, 0, rfl, (Array.getElem?_eq_some_iff.1 hh).1, fun i hi => ?_⟩⟩⟩
    rw [Nat.zero_add, cell_of_row w g i cur E (0, 0) hh]
    have h1 : (cur.toList.take (zs.length * 1))[i]? = (iv k zs)[i]? := by rw [htk]
    rw [iv_at k zs i hi, List.getElem?_take, if_pos (by omega)] at h1
    simpa using h1
theorem own_made (w : World) (B : Nat) (E : TypeId) (k : IntKind) (c : Nat) (hB : B ≤ w.heap.size) (hc : c ≤ maxLen) : Own (w.alloc (.cells (madeCells #[.int k 0] c) E)) B E k (.slice (some ⟨w.heap.size, 0, none⟩) 0 c) [] :=
  ⟨by simp [iv], .inr ⟨w.heap.size, c, _, rfl, hB, heap_alloc_new w _, Nat.zero_le _, hc, by simp [madeCells], by simp [iv]⟩⟩
theorem Own.le (h : Own w B E k v zs) : zs.length ≤ maxLen := by
  rcases h.2 with ⟨rfl, h0⟩ | ⟨g, cap, cur, rfl, hb, hh, hn, hcm, hcs, htk⟩
  · rw [h0]; exact Nat.zero_le _
  · exact Nat.le_trans hn hcm
end
section
variable {P : Program} (w : World)
/-- append(v, z) of one number that lies in a block of its own. -/
theorem wpList_push {ops : Array Oper} {rest : List Oper} {o : Oper} {a : Act} {Q : Exit → Act → World → Prop} (hgd : o.guard = none) (s x : Operand) (t : TypeId)
    (ho : o.op = .call { callee := .builtin .append, args := #[s, x], argTypes := #[t, t] })
    (B : Nat) (E : TypeId) (k : IntKind) (bytes : Nat) (ht : P.underlying t = some (.slice E)) (hinfo : (P.info? E).map (fun i => (i.zero, i.size, i.bytes)) = some (some (.int k 0), 1, bytes)) (hby : bytes ≤ 8)
    (v : Value) (zs : List Int) (hs : a.eval s = v) (hown : Own w B E k v zs) (g : Nat) (z : Int) (hx : a.eval x = .slice (some ⟨g, 0, none⟩) 1 1) (hcell : w.cell? ⟨g, 0, none⟩ = some (.int k z))
    (hlen : zs.length ≤ 1000000000) (hB : B ≤ w.heap.size)
    (h : ∀ v' w', Own w' B E k v' (zs ++ [z]) → Below B w w' → wpList P ops Q rest (a.put o.dst v') w') : wpList P ops Q (o :: rest) a w := by
  obtain ⟨i, hi, hzz⟩ := Option.map_eq_some_iff.1 hinfo
  simp only [Prod.mk.injEq] at hzz
  obtain ⟨hz, hsz, hb⟩ := hzz
  refine wpList_append_own w hgd s x t ho B E i (.int k 0) 1 bytes ht hi hz hsz hb rfl (by decide) v zs.length (iv k zs) hs hown ⟨g, 0, none⟩ 1 1 [.int k z] hx rfl ?_ (by simp [Value.oneCell']) (by unfold maxLen; omega) ?_ hB ?_
  · intro j u hu
    cases j with
    | zero => simp at hu; subst hu; simpa [Addr.add] using hcell
    | succ j => simp at hu
  · have : (zs.length + 1) * bytes ≤ (zs.length + 1) * 8 := Nat.mul_le_mul_left _ hby
    omega
  · intro v' w' h2 h3 _
    refine h v' w' ?_ (hown.grown h3 hB)
    unfold Own
    rw [List.length_append, show iv k (zs ++ [z]) = iv k zs ++ [.int k z] by simp [iv]]
    exact h2
/-- append(v, u...) of a slice that is read. -/
theorem wpList_append_ints {ops : Array Oper} {rest : List Oper} {o : Oper} {a : Act} {Q : Exit → Act → World → Prop} (hgd : o.guard = none) (s x : Operand) (t : TypeId)
    (ho : o.op = .call { callee := .builtin .append, args := #[s, x], argTypes := #[t, t] })
    (B : Nat) (E : TypeId) (k : IntKind) (bytes : Nat) (ht : P.underlying t = some (.slice E)) (hinfo : (P.info? E).map (fun i => (i.zero, i.size, i.bytes)) = some (some (.int k 0), 1, bytes)) (hby : bytes ≤ 8)
    (v : Value) (zs : List Int) (hs : a.eval s = v) (hown : Own w B E k v zs) (b off n c : Nat) (ys : List Int) (hx : a.eval x = .slice (some ⟨b, off, none⟩) n c) (hn : ys.length = n) (hcell : ∀ i, i < n → w.cell? ⟨b, off + i, none⟩ = some (.int k (ys.getD i 0)))
    (hlen : zs.length + n ≤ 1000000000) (hB : B ≤ w.heap.size)
    (h : ∀ v' w', Own w' B E k v' (zs ++ ys) → Below B w w' → wpList P ops Q rest (a.put o.dst v') w') : wpList P ops Q (o :: rest) a w := by
  obtain ⟨i, hi, hzz⟩ := Option.map_eq_some_iff.1 hinfo
  simp only [Prod.mk.injEq] at hzz
  obtain ⟨hz, hsz, hb⟩ := hzz
  subst hn
  refine wpList_append_own w hgd s x t ho B E i (.int k 0) 1 bytes ht hi hz hsz hb rfl (by decide) v zs.length (iv k zs) hs hown ⟨b, off, none⟩ ys.length c (iv k ys) hx (by simp [iv]) ?_ ?_ (by unfold maxLen; omega) ?_ hB ?_
  · intro j u hu
    have hj : j < ys.length := by
      have := (List.getElem?_eq_some_iff.1 hu).1
      simpa [iv] using this
    have hadd : (⟨b, off, none⟩ : Addr).add j = ⟨b, off + j, none⟩ := by unfold Addr.add; split <;> simp_all
    rw [hadd, hcell j hj, ← iv_at k ys j hj]
    exact hu
  · intro u hu
    simp only [iv, List.mem_map] at hu
    obtain ⟨z, _, rfl⟩ := hu
    rfl
  · have : (zs.length + ys.length) * bytes ≤ (zs.length + ys.length) * 8 := Nat.mul_le_mul_left _ hby
    omega
  · intro v' w' h2 h3 _
    refine h v' w' ?_ (hown.grown h3 hB)
    unfold Own
    rw [List.length_append, show iv k (zs ++ ys) = iv k zs ++ iv k ys by simp [iv]]
    exact h2
end
end Go.Proofs.YtalpfbbceggcaaaDoor.Own
