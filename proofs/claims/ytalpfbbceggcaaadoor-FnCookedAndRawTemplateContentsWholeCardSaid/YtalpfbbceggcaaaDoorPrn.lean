/- A printer: a struct in one block p whose field o holds a byte buffer that is its own. How append and the store back keep it. Plain. -/
import Derived.Test.YtalpfbbceggcaaaDoorSl
import Derived.Lib.AppendStr
import Derived.Maps.AppendAt
namespace Go.Proofs.YtalpfbbceggcaaaDoor.Prn
open Go.RowKit Mem Args

/-- v is nil or a byte slice at the head of a block of its own; its numbers are zs. -/
def Buf (w : World) (E : TypeId) (v : Value) (zs : List Int) : Prop := w.ownsRow 0 E 1 v zs.length (iv .u8 zs)

/-- From w to w' only block p, v's own block and new blocks were touched; v' lies where v lay or in a new block. -/
structure Step (p : Nat) (w : World) (v : Value) (w' : World) (v' : Value) : Prop where
  os : w'.os = w.os
  tape : w'.tape = w.tape
  output : w'.output = w.output
  size : w.heap.size ≤ w'.heap.size
  block : ∀ j, j < w.heap.size → j ≠ p → some j ≠ v.ownBlock → w'.heap[j]? = w.heap[j]?
  at_ : v'.ownBlock = v.ownBlock ∨ ∃ g, v'.ownBlock = some g ∧ w.heap.size ≤ g

section
variable {p : Nat} {w w' w'' : World} {v v' v'' : Value}
theorem Step.refl (p : Nat) (w : World) (v : Value) : Step p w v w v := ⟨rfl, rfl, rfl, Nat.le_refl _, fun _ _ _ _ => rfl, .inl rfl⟩
theorem Step.trans (h : Step p w v w' v') (k : Step p w' v' w'' v'') : Step p w v w'' v'' := by
  refine ⟨k.os.trans h.os, k.tape.trans h.tape, k.output.trans h.output, Nat.le_trans h.size k.size, fun j hj hp hv => ?_, ?_⟩
  · refine (k.block j (Nat.lt_of_lt_of_le hj h.size) hp ?_).trans (h.block j hj hp hv)
    rcases h.at_ with e | ⟨g, e, hg⟩
    · rw [e]; exact hv
    · rw [e]; intro he; injection he with he; omega
  · rcases k.at_ with e | ⟨g, e, hg⟩
    · rw [e]; exact h.at_
    · exact .inr ⟨g, e, Nat.le_trans h.size hg⟩
theorem Step.drewN (h : Step p w v w' v') (n : Nat) : Step p w v (w'.drewN n) v' := ⟨h.os, h.tape, h.output, h.size, h.block, h.at_⟩
theorem Step.drew (h : Step p w v w' v') : Step p w v w'.drew v' := ⟨h.os, h.tape, h.output, h.size, h.block, h.at_⟩
theorem Step.set_ (h : Step p w v w' v') (i : Nat) (u : Value) : Step p w v (w'.setCell ⟨p, i, none⟩ u) v' :=
  ⟨h.os, h.tape, h.output, by simpa [World.setCell] using h.size, fun j hj hp hv => (Below.heap_setCell w' ⟨p, i, none⟩ u j hp).trans (h.block j hj hp hv), h.at_⟩
theorem Step.of_grown (h : w.grownBy w' v.ownBlock) (ha : v'.ownBlock = v.ownBlock ∨ v'.ownBlock = some w.heap.size) : Step p w v w' v' :=
  ⟨h.os, h.tape, h.output, h.size, fun j hj _ hv => h.block j hj hv, ha.elim .inl fun e => .inr ⟨_, e, Nat.le_refl _⟩⟩
theorem Step.of_below {B : Nat} (h : Below B w w') (hB : w.heap.size ≤ B) : Step p w v w' v := ⟨h.os, h.tape, h.output, h.size, fun j hj _ _ => h.block j (by omega), .inl rfl⟩
theorem Step.below {B : Nat} (h : Step p w v w' v') (hp : B ≤ p) (hv : ∀ g, v.ownBlock = some g → B ≤ g) (hB : B ≤ w.heap.size) : Below B w w' :=
  ⟨h.os, h.tape, h.output, h.size, fun i hi => h.block i (by omega) (by omega) (fun e => by have := hv i e.symm; omega)⟩
theorem Step.row {g : Nat} {t : TypeId} {xs : List Value} (h : Step p w v w' v') (hr : Row w g t xs) (hp : g ≠ p) (hv : some g ≠ v.ownBlock) : Row w' g t xs := (h.block g hr.lt hp hv).trans hr
theorem Step.low {B : Nat} (h : Step p w v w' v') (hB : B ≤ w.heap.size) (hv : ∀ g, v.ownBlock = some g → B ≤ g) : ∀ g, v'.ownBlock = some g → B ≤ g := by
  intro g hg
  rcases h.at_ with e | ⟨g', e, hg'⟩
  · exact hv g (e ▸ hg)
  · rw [e] at hg; injection hg with hg; omega
theorem Step.ints {k : IntKind} {A : Option Addr} {n c : Nat} {zs : List Int} (h : Step p w v w' v') (hi : IsInts k w A n c zs) (hne : ∀ b off, A = some ⟨b, off, none⟩ → b ≠ p ∧ some b ≠ v.ownBlock) : IsInts k w' A n c zs := by
  obtain ⟨h1, h2, h3, h4, h5, h6⟩ := hi
  refine ⟨h1, h2, h3, h4, h5, fun hp => ?_⟩
  obtain ⟨b, off, ha, hlt, hc⟩ := h6 hp
  obtain ⟨n1, n2⟩ := hne b off ha
  exact ⟨b, off, ha, Nat.lt_of_lt_of_le hlt h.size, fun i hi => (World.cell?_of_block (a := ⟨b, off + i, none⟩) (h.block b hlt n1 n2)).trans (hc i hi)⟩

theorem Buf.ne {E t : TypeId} {zs : List Int} {cs : List Value} (h : Buf w E v zs) (hr : Row w p t cs) (hne : E ≠ t) : v.ownBlock ≠ some p := by
  rcases h.2 with ⟨rfl, _⟩ | ⟨g, cap, cur, rfl, _, hh, _⟩
  · simp [Value.ownBlock]
  · intro he
    have he' : g = p := by simpa [Value.ownBlock] using he
    subst he'
    unfold Row at hr
    rw [hh] at hr
    injection hr with hr
    injection hr with _ ht
    exact hne ht
theorem Buf.lt {E : TypeId} {zs : List Int} (h : Buf w E v zs) : ∀ g, v.ownBlock = some g → g < w.heap.size := by
  intro g hg
  rcases h.2 with ⟨rfl, _⟩ | ⟨g', cap, cur, rfl, _, hh, _⟩
  · simp [Value.ownBlock] at hg
  · have : g' = g := by simpa [Value.ownBlock] using hg
    subst this
    exact (Array.getElem?_eq_some_iff.1 hh).1
theorem Buf.set_ {E : TypeId} {zs : List Int} (h : Buf w E v zs) (hne : v.ownBlock ≠ some p) (i : Nat) (u : Value) : Buf (w.setCell ⟨p, i, none⟩ u) E v zs := by
  refine ⟨h.1, ?_⟩
  rcases h.2 with h0 | ⟨g, cap, cur, rfl, a, hh, b⟩
  · exact .inl h0
  · exact .inr ⟨g, cap, cur, rfl, a, (Below.heap_setCell w ⟨p, i, none⟩ u g (by intro e; apply hne; simp [Value.ownBlock]; exact e)).trans hh, b⟩
theorem Buf.drewN {E : TypeId} {zs : List Int} (h : Buf w E v zs) (n : Nat) : Buf (w.drewN n) E v zs := h
theorem Buf.below {B : Nat} {E : TypeId} {zs : List Int} (h : Buf w E v zs) (hb : Below B w w') (hB : w.heap.size ≤ B) : Buf w' E v zs := by
  refine ⟨h.1, ?_⟩
  rcases h.2 with h0 | ⟨g, cap, cur, rfl, a, hh, b⟩
  · exact .inl h0
  · exact .inr ⟨g, cap, cur, rfl, a, (hb.block g (Nat.lt_of_lt_of_le (Array.getElem?_eq_some_iff.1 hh).1 hB)).trans hh, b⟩
theorem Buf.form {E : TypeId} {zs : List Int} (h : Buf w E v zs) : ∃ A c, v = .slice A zs.length c := by
  rcases h.2 with ⟨rfl, h0⟩ | ⟨g, cap, cur, rfl, _⟩
  · rw [h0]; exact ⟨none, 0, rfl⟩
  · exact ⟨_, _, rfl⟩
theorem Buf.ints {E : TypeId} {zs : List Int} (h : Buf w E v zs) (hm : zs.length ≤ maxLen) (hwf : ∀ z ∈ zs, (Lit.int .u8 z).wf = true) : ∃ A c, v = .slice A zs.length c ∧ IsInts .u8 w A zs.length c zs ∧ (∀ b off, A = some ⟨b, off, none⟩ → v.ownBlock = some b ∧ off = 0) := by
  rcases h.2 with ⟨rfl, h0⟩ | ⟨g, cap, cur, rfl, hb, hh, hn, hcm, hcs, htk⟩
  · have hz : zs = [] := List.eq_nil_of_length_eq_zero h0
    subst hz
    exact ⟨none, 0, rfl, ⟨Nat.le_refl _, Nat.zero_le _, rfl, by simp, fun _ => rfl, fun h => absurd h (by omega)⟩, fun b off h => by cases h⟩
  · refine ⟨_, _, rfl, ⟨hn, hcm, rfl, hwf, (fun h => by cases h), fun _ => ⟨g, 0, rfl, (Array.getElem?_eq_some_iff.1 hh).1, fun i hi => ?_⟩⟩, fun b off h => by injection h with h; injection h with h1 h2; exact ⟨by simp [Value.ownBlock, h1], h2.symm⟩⟩
    rw [Nat.zero_add, cell_of_row w g i cur E (0, 0) hh]
    have h1 : (cur.toList.take (zs.length * 1))[i]? = (iv .u8 zs)[i]? := by rw [htk]
    rw [iv_at .u8 zs i hi, List.getElem?_take, if_pos (by omega)] at h1
    simpa using h1
theorem buf_of_row {E : TypeId} {g : Nat} {zs : List Int} (h : Row w g E (iv .u8 zs)) (hm : zs.length ≤ maxLen) : Buf w E (.slice (some ⟨g, 0, none⟩) zs.length zs.length) zs := by
  have h1 := h.owns (base := 0) (Nat.zero_le _) (by rw [iv_length]; exact hm)
  rw [iv_length] at h1
  exact h1
theorem buf_nil (w : World) (E : TypeId) : Buf w E (.slice none 0 0) [] := World.ownsRow_nil w 0 E 1
end

/-- A string's bytes as numbers. -/
def nums (s : ByteArray) : List Int := s.data.toList.map fun b => (b.toNat : Int)
theorem nums_length (s : ByteArray) : (nums s).length = s.size := by
  rw [nums, List.length_map, Array.length_toList]; rfl
theorem nums_wf (s : ByteArray) : ∀ z ∈ nums s, (Lit.int .u8 z).wf = true := by
  intro z hz
  simp only [nums, List.mem_map] at hz
  obtain ⟨b, _, rfl⟩ := hz
  have := b.toNat_lt
  exact WalkArith.wf_u8 (by omega)
theorem strCells_nums (s : ByteArray) : Lib.strCells s = iv .u8 (nums s) := by simp [Lib.strCells, iv, nums]
theorem nums_data (l : List UInt8) : nums ⟨l.toArray⟩ = l.map fun b => (b.toNat : Int) := by simp [nums]

section
variable {P : Program} (w : World)
/-- append(v, s...) onto a buffer: the bytes are added; where the new buffer lies. -/
theorem run_append_str_at (t u ty e : TypeId) (i : TypeInfo) (ht : P.underlying t = some (.slice e)) (hu : P.underlying u = some .string) (hi : P.info? e = some i) (hz : i.zero = some (.int .u8 0))
    (hsize : i.size = 1) (hby : i.bytes = 1) (v : Value) (zs : List Int) (hown : Buf w e v zs) (s : ByteArray) (hb : zs.length + s.size ≤ 1000000000) :
    ∃ v' w', (Builtin.append_ #[t, u] ty #[v, .string s]).run P w = .ok v' w' ∧ Buf w' e v' (zs ++ nums s) ∧ w.grownBy w' v.ownBlock ∧ (v'.ownBlock = v.ownBlock ∨ v'.ownBlock = some w.heap.size) := by
  obtain ⟨v', w', hr, h1, h2, h3⟩ := Lib.run_append_own_string (P := P) w 0 t u ty e i ht hu hi hz hsize hby v zs.length (iv .u8 zs) hown s (by unfold maxLen; omega) (by omega) (Nat.zero_le _)
  refine ⟨v', w', hr, ?_, h2, ?_⟩
  · unfold Buf
    rw [List.length_append, nums_length, show iv .u8 (zs ++ nums s) = iv .u8 zs ++ iv .u8 (nums s) by simp [iv], ← strCells_nums]
    exact h1
  · have hxl : (iv .u8 zs).length = zs.length := iv_length _ _
    rcases hown.2 with ⟨rfl, h0⟩ | ⟨g, cap, cur, rfl, hbg, hg, hnc, hcm, hcs, htake⟩
    · by_cases hm : s.size = 0
      · rw [h3.2 ⟨rfl, hm⟩]; exact .inl rfl
      · have hr' := run_append_nil_string (P := P) w t u ty e i (.int .u8 0) ht hu hi hz s (by omega) (by omega) (by rw [hby]; omega)
        rw [hr] at hr'
        injection hr' with hv hw
        rw [hv]; exact .inr rfl
    · by_cases hroom : zs.length + s.size ≤ cap
      · have hcs' : cur.size = cap := by simpa using hcs
        have hr' := Lib.run_append_room_string (P := P) w t u ty e i ht hu hi hsize g zs.length cap cur hg s hroom (by omega)
        rw [hr] at hr'
        injection hr' with hv hw
        rw [hv]; exact .inl rfl
      · have holds : ∀ j u, (iv .u8 zs)[j]? = some u → w.cell? ((⟨g, 0, none⟩ : Addr).add j) = some u := hown.cells (g := g) rfl
        have hr' := Lib.run_append_grow_string (P := P) w t u ty e i (.int .u8 0) ht hu hi hz ⟨g, 0, none⟩ zs.length cap (iv .u8 zs) (by rw [hsize]; simpa using hxl) holds s (by omega) (by omega) (by rw [hby]; exact growslice_fits (by omega) (by omega))
        rw [hr] at hr'
        injection hr' with hv hw
        rw [hv]; exact .inr rfl
theorem wpList_append_str {ops : Array Oper} {rest : List Oper} {o : Oper} {a : Act} {Q : Exit → Act → World → Prop} (hgd : o.guard = none) (sl x : Operand) (t u : TypeId)
    (ho : o.op = .call { callee := .builtin .append, args := #[sl, x], argTypes := #[t, u] })
    (e : TypeId) (i : TypeInfo) (ht : P.underlying t = some (.slice e)) (hu : P.underlying u = some .string) (hi : P.info? e = some i) (hz : i.zero = some (.int .u8 0))
    (hsize : i.size = 1) (hby : i.bytes = 1) (v : Value) (zs : List Int) (hs : a.eval sl = v) (hown : Buf w e v zs) (s : ByteArray) (hx : a.eval x = .string s) (hb : zs.length + s.size ≤ 1000000000)
    (h : ∀ A' n' c' w', Buf w' e (.slice A' n' c') (zs ++ nums s) → w.grownBy w' v.ownBlock → (Value.ownBlock (.slice A' n' c') = v.ownBlock ∨ Value.ownBlock (.slice A' n' c') = some w.heap.size) → wpList P ops Q rest (a.put o.dst (.slice A' n' c')) w') : wpList P ops Q (o :: rest) a w := by
  refine wpList_plain hgd fun K hK => ?_
  obtain ⟨v', w', hr, h2, h3, h4⟩ := run_append_str_at (P := P) w t u o.type e i ht hu hi hz hsize hby v zs hown s hb
  obtain ⟨A', c', rfl⟩ := h2.form
  unfold Oper.wp execOp
  simp only [ho, resolve, invoke, builtin, Sem.run_bind, Sem.run_pure, Result.andThen_ok, List.map_toArray, List.map_cons, List.map_nil, hs, hx, hr]
  exact hK _ _ (h _ _ _ w' h2 h3 h4)
end

/-- The printer's block and its buffer. -/
structure Pr (w : World) (p : Nat) (t : TypeId) (o : Nat) (E : TypeId) (cs : List Value) (v : Value) (zs : List Int) : Prop where
  row : Row w p t cs
  at_ : cs[o]? = some v
  buf : Buf w E v zs
theorem Pr.store {w : World} {p o : Nat} {t E : TypeId} {cs : List Value} {v v' : Value} {zs zs' : List Int} {w' : World} (h : Pr w p t o E cs v zs) (hne : E ≠ t) (hb : Buf w' E v' zs') (hs : Step p w v w' v') (hg : w.grownBy w' v.ownBlock) :
    Pr (w'.setCell ⟨p, o, none⟩ v') p t o E (cs.set o v') v' zs' ∧ Step p w v (w'.setCell ⟨p, o, none⟩ v') v' ∧ w'.cell? ⟨p, o, none⟩ = some v ∧ w'.frozen? ⟨p, o, none⟩ = false := by
  have hr : Row w' p t cs := h.row.grown hg (fun e => h.buf.ne h.row hne e.symm)
  have hlt : o < cs.length := (List.getElem?_eq_some_iff.1 h.at_).1
  exact ⟨⟨hr.set o v', by simp [hlt], hb.set_ (hb.ne hr hne) o v'⟩, hs.set_ o v', hr.at_ h.at_, hr.frozen o⟩
/-- What a call that prints leaves: the printer with the new buffer. -/
def Printed (w : World) (p : Nat) (t : TypeId) (o : Nat) (E : TypeId) (cs : List Value) (v : Value) (zs : List Int) (w' : World) : Prop :=
  ∃ v', Pr w' p t o E (cs.set o v') v' zs ∧ Step p w v w' v'
end Go.Proofs.YtalpfbbceggcaaaDoor.Prn
