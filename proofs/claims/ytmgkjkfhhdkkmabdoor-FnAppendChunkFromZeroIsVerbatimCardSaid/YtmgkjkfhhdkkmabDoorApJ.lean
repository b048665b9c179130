/- FnAppendChunkFromZeroIsVerbatim: a joiner in memory. Plain. -/
import Derived.Test.YtmgkjkfhhdkkmabDoorRows
import Derived.Test.YtmgkjkfhhdkkmabDoorMem
import Derived.Test.YtmgkjkfhhdkkmabDoorSl
import Derived.Test.YtmgkjkfhhdkkmabDoorOwn
import Derived.Test.YtmgkjkfhhdkkmabDoorVq
import Derived.Test.YtmgkjkfhhdkkmabDoorVars
import Derived.WalkKit
import Derived.ProofKit
import Derived.OpenShut
import Derived.Below
import Derived.WalkLawsBesides
import Derived.Lib.Hide
import Derived.Outline
import Derived.RegionTactic
import Derived.Deep.QuietTactic
import Derived.BigQuiet
import Derived.WalkSpells
import Derived.Deep.OwnRows
import Derived.IntWalk
import Derived.Deep.DeepMust
namespace Go.Proofs.YtmgkjkfhhdkkmabDoor.ApJ
open Go.RowKit Mem Sl
set_option linter.unusedVariables false
open Own Args

/-- x is a slice of bytes that reads as zs, in a block of bytes. -/
def Pc (w : World) (x : Value) (zs : List Int) : Prop := ∃ A c, x = .slice A zs.length c ∧ zs.length ≤ c ∧ c ≤ maxLen ∧ (∀ z ∈ zs, (Lit.int .u8 z).wf = true) ∧ (A = none → c = 0) ∧
  (0 < c → ∃ g off cur, A = some ⟨g, off, none⟩ ∧ w.heap[g]? = some (.cells cur 5 (0, 0)) ∧ ∀ i, i < zs.length → cur[off + i]? = some (.int .u8 (zs.getD i 0)))
/-- Every block of bytes is as it was. -/
def Keeps (w w' : World) : Prop := ∀ (g : Nat) (cur : Array Value), w.heap[g]? = some (Obj.cells cur 5 (0, 0)) → w'.heap[g]? = some (Obj.cells cur 5 (0, 0))
section
variable {w w' w'' : World} {x v : Value} {zs : List Int} {B : Nat}
theorem Keeps.refl (w : World) : Keeps w w := fun _ _ h => h
theorem Keeps.trans (h : Keeps w w') (h' : Keeps w' w'') : Keeps w w'' := fun g cur hg => h' g cur (h g cur hg)
theorem keeps_below (h : Below w.heap.size w w') : Keeps w w' := fun g _ hg => (h.block g (Array.getElem?_eq_some_iff.1 hg).1).trans hg
theorem keeps_drew (w : World) : Keeps w w.drew := fun _ _ h => h
theorem keeps_alloc (w : World) (o : Obj) : Keeps w (w.alloc o) := fun g _ hg => (Below.heap_alloc w o g (Array.getElem?_eq_some_iff.1 hg).1).trans hg
theorem keeps_set {j : Nat} {t : TypeId} {xs : List Value} (h : Row w j t xs) (ht : t ≠ 5) (i : Nat) (u : Value) : Keeps w (w.setCell ⟨j, i, none⟩ u) := by
  intro g cur hg
  have hne : j ≠ g := by
    rintro rfl
    unfold Row at h
    rw [hg] at h
    injection h with h
    injection h with _ h
    exact ht h.symm
  exact (Below.heap_setCell w ⟨j, i, none⟩ u g (Ne.symm hne)).trans hg
theorem keeps_grown {t : TypeId} {n k : Nat} {xs : List Value} (h : w.ownsRow B t k v n xs) (ht : t ≠ 5) (hg : w.grownBy w' v.ownBlock) : Keeps w w' := by
  intro g cur hgc
  refine (hg.block g (Array.getElem?_eq_some_iff.1 hgc).1 ?_).trans hgc
  intro e
  rcases h.2 with ⟨rfl, _⟩ | ⟨g', cap, cur', rfl, _, hh, _⟩
  · simp [Value.ownBlock] at e
  · have : g' = g := by simpa [Value.ownBlock] using e.symm
    subst this
    rw [hgc] at hh
    injection hh with hh
    injection hh with _ hh
    exact ht hh.symm
theorem Pc.keep (h : Pc w x zs) (hk : Keeps w w') : Pc w' x zs := by
  obtain ⟨A, c, h1, h2, h3, h4, h5, h6⟩ := h
  refine ⟨A, c, h1, h2, h3, h4, h5, fun hc => ?_⟩
  obtain ⟨g, off, cur, a, b, d⟩ := h6 hc
  exact ⟨g, off, cur, a, hk g cur b, d⟩
theorem Pc.ints (h : Pc w x zs) : ∃ A c, x = .slice A zs.length c ∧ IsInts .u8 w A zs.length c zs := by
  obtain ⟨A, c, h1, h2, h3, h4, h5, h6⟩ := h
  refine ⟨A, c, h1, h2, h3, rfl, h4, h5, fun hc => ?_⟩
  obtain ⟨g, off, cur, a, b, d⟩ := h6 hc
  refine ⟨g, off, a, (Array.getElem?_eq_some_iff.1 b).1, fun i hi => ?_⟩
  rw [cell_of_row w g (off + i) cur 5 (0, 0) b]
  exact d i hi
theorem Pc.len (h : Pc w x zs) : zs.length ≤ maxLen := by
  obtain ⟨A, c, h1, h2, h3, _⟩ := h
  exact Nat.le_trans h2 h3
theorem pc_nil (w : World) : Pc w (.slice none 0 0) [] := ⟨none, 0, rfl, Nat.le_refl _, Nat.zero_le _, by simp, fun _ => rfl, fun h => absurd h (by omega)⟩
theorem pc_own (h : Own w B 5 .u8 v zs) (hwf : ∀ z ∈ zs, (Lit.int .u8 z).wf = true) : Pc w v zs := by
  rcases h.2 with ⟨rfl, h0⟩ | ⟨g, cap, cur, rfl, hb, hh, hn, hcm, hcs, htk⟩
  · have hz : zs = [] := List.eq_nil_of_length_eq_zero h0
    subst hz
    exact pc_nil w
  · refine ⟨_, cap, rfl, hn, hcm, hwf, (fun h => by cases h), fun _ => ⟨g, 0, cur, rfl, hh, fun i hi => ?_⟩⟩
    rw [Nat.zero_add]
    have h1 : (cur.toList.take (zs.length * 1))[i]? = (iv .u8 zs)[i]? := by rw [htk]
    rw [iv_at .u8 zs i hi, List.getElem?_take, if_pos (by omega)] at h1
    simpa using h1
/-- A piece of a piece. -/
theorem Pc.sub {g off n c : Nat} (h : Pc w (.slice (some ⟨g, off, none⟩) n c) zs) (i k : Nat) (hik : i ≤ k) (hk : k ≤ zs.length) (hi : i < c) :
    Pc w (.slice (some ⟨g, off + i, none⟩) (k - i) (c - i)) ((zs.drop i).take (k - i)) := by
  obtain ⟨A, c', h1, h2, h3, h4, h5, h6⟩ := h
  injection h1 with e1 e2 e3
  subst e1 e3
  have hl : ((zs.drop i).take (k - i)).length = k - i := by rw [List.length_take, List.length_drop]; omega
  refine ⟨some ⟨g, off + i, none⟩, c - i, by rw [hl], by rw [hl]; omega, by omega, fun z hz => h4 z (List.mem_of_mem_drop (List.mem_of_mem_take hz)), (fun h => by cases h), fun hc => ?_⟩
  obtain ⟨g', off', cur, a, b, d⟩ := h6 (by omega)
  injection a with a
  injection a with a1 a2
  subst a1 a2
  refine ⟨g, off + i, cur, rfl, b, fun j hj => ?_⟩
  rw [hl] at hj
  rw [Nat.add_assoc, d (i + j) (by omega)]
  simp only [List.getD, List.getElem?_take, List.getElem?_drop]
  rw [if_pos hj]
/-- Its cells in the vector of pieces. -/
def cellsOf (segs : List (Value × Nat)) : List Value := segs.flatMap fun s => [s.1, .int .u32 (s.2 : Int)]
theorem cellsOf_len (segs : List (Value × Nat)) : (cellsOf segs).length = segs.length * 2 := by
  induction segs with
  | nil => rfl
  | cons a l ih => simp only [cellsOf, List.flatMap_cons, List.length_append] at ih ⊢; simp at ih ⊢; omega
theorem cellsOf_snoc (segs : List (Value × Nat)) (x : Value) (o : Nat) : cellsOf (segs ++ [(x, o)]) = cellsOf segs ++ [x, .int .u32 (o : Int)] := by simp [cellsOf]
/-- A joiner: its pieces, its length, its last byte. -/
structure Jn (w : World) (B j : Nat) (v : Value) (segs : List (Value × Nat)) (L : Nat) (lb : Int) : Prop where
  row : Row w j 35 [.slice none 0 0, v, .int .u32 (L : Int), .int .u8 lb]
  own : w.ownsRow B 61 2 v segs.length (cellsOf segs)
  hj : B ≤ j
  hB : B ≤ w.heap.size
theorem Jn.ne {j L : Nat} {segs : List (Value × Nat)} {lb : Int} (h : Jn w B j v segs L lb) : v.ownBlock ≠ some j := by
  intro e
  rcases h.own.2 with ⟨rfl, _⟩ | ⟨g, cap, cur, rfl, _, hh, _⟩
  · simp [Value.ownBlock] at e
  · have : g = j := by simpa [Value.ownBlock] using e
    subst this
    have h1 := h.row
    unfold Row at h1
    rw [hh] at h1
    cases h1
theorem own_keep {n k t : Nat} {xs : List Value} (h : w.ownsRow B t k v n xs) (hb : ∀ g, v.ownBlock = some g → w'.heap[g]? = w.heap[g]?) : w'.ownsRow B t k v n xs := by
  refine ⟨h.1, ?_⟩
  rcases h.2 with h0 | ⟨g, cap, cur, rfl, a, hh, b⟩
  · exact .inl h0
  · exact .inr ⟨g, cap, cur, rfl, a, (hb g rfl).trans hh, b⟩
theorem Jn.set {j L : Nat} {segs : List (Value × Nat)} {lb : Int} (h : Jn w B j v segs L lb) (i : Nat) (u : Value) : (w.setCell ⟨j, i, none⟩ u).ownsRow B 61 2 v segs.length (cellsOf segs) :=
  own_keep h.own fun g hg => Below.heap_setCell w ⟨j, i, none⟩ u g (by rintro rfl; exact h.ne hg)
theorem Jn.later {j L : Nat} {segs : List (Value × Nat)} {lb : Int} (h : Jn w B j v segs L lb) (hb : Below w.heap.size w w') : Jn w' B j v segs L lb :=
  ⟨h.row.below hb h.row.lt, own_keep h.own fun g hg => by
    rcases h.own.2 with ⟨rfl, _⟩ | ⟨g', cap, cur, rfl, _, hh, _⟩
    · simp [Value.ownBlock] at hg
    · have : g' = g := by simpa [Value.ownBlock] using hg
      subst this
      exact hb.block g' (Array.getElem?_eq_some_iff.1 hh).1, h.hj, Nat.le_trans h.hB hb.size⟩
end
end Go.Proofs.YtmgkjkfhhdkkmabDoor.ApJ
