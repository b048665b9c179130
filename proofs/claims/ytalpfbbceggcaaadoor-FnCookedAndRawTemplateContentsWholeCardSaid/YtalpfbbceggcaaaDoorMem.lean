/- Words for memory: a block that is known whole as a list of cells; how it is kept, read and written. Plain lemmas, no program. -/
import Derived.WalkKit
import Derived.ProofKit
import Derived.Below
import Derived.WalkSpells
import Derived.WalkSmall
import Derived.Lib.Hide
import Derived.Laws.Rows
import Derived.Laws.MakeOwn
import Derived.Laws.OwnMore
import Derived.Laws.Tables
namespace Go.Proofs.YtalpfbbceggcaaaDoor.Mem
open Go.RowKit

theorem ret_bool {a b : Bool} (h : a = b) : Ending.returned (.bool a) = .returned (.bool b) := by rw [h]
theorem ret_int {k : IntKind} {a b : Int} (h : a = b) : Ending.returned (.int k a) = .returned (.int k b) := by rw [h]

/-- Block g is just the cells xs of element type t, none of them frozen. -/
def Row (w : World) (g : Nat) (t : TypeId) (xs : List Value) : Prop := w.heap[g]? = some (.cells xs.toArray t (0, 0))

section
variable {w w' : World} {g : Nat} {t : TypeId} {xs : List Value}
theorem Row.lt (h : Row w g t xs) : g < w.heap.size := by
  rcases Nat.lt_or_ge g w.heap.size with hlt | hge
  · exact hlt
  · unfold Row at h; rw [Array.getElem?_eq_none hge] at h; cases h
theorem Row.cell (h : Row w g t xs) (i : Nat) : w.cell? ⟨g, i, none⟩ = xs[i]? := by
  rw [cell_of_row w g i xs.toArray t (0, 0) h]; simp
theorem Row.at_ (h : Row w g t xs) {i : Nat} {v : Value} (hv : xs[i]? = some v) : w.cell? ⟨g, i, none⟩ = some v := (h.cell i).trans hv
theorem Row.frozen (h : Row w g t xs) (i : Nat) : w.frozen? ⟨g, i, none⟩ = false := by
  unfold Row at h
  simp [World.frozen?, h]
theorem Row.new (w : World) (t : TypeId) (xs : List Value) : Row (w.alloc (.cells xs.toArray t)) w.heap.size t xs := heap_alloc_new w _
theorem Row.newArr (w : World) (t : TypeId) (cs : Array Value) : Row (w.alloc (.cells cs t)) w.heap.size t cs.toList := by
  unfold Row; exact heap_alloc_new w _
theorem Row.drew (h : Row w g t xs) : Row w.drew g t xs := h
theorem Row.drewN (h : Row w g t xs) (n : Nat) : Row (w.drewN n) g t xs := h
theorem Row.alloc (h : Row w g t xs) (o : Obj) : Row (w.alloc o) g t xs := (Below.heap_alloc w o g h.lt).trans h
theorem Row.below {B : Nat} (h : Row w g t xs) (hb : Below B w w') (hg : g < B) : Row w' g t xs := (hb.block g hg).trans h
theorem Row.set (h : Row w g t xs) (i : Nat) (u : Value) : Row (w.setCell ⟨g, i, none⟩ u) g t (xs.set i u) := by
  unfold Row at h ⊢
  simp [World.setCell, Array.getElem?_modify, h]
theorem Row.far (h : Row w g t xs) {p : Addr} (hp : g ≠ p.block) (u : Value) : Row (w.setCell p u) g t xs := (Below.heap_setCell w p u g hp).trans h
theorem Row.grown {row : Option Nat} (h : Row w g t xs) (hb : w.grownBy w' row) (hg : some g ≠ row) : Row w' g t xs := (hb.block g h.lt hg).trans h
theorem grown_refl (w : World) (row : Option Nat) : w.grownBy w row := World.grownBy.refl w row
theorem grown_set {a w : World} {g : Nat} (h : a.grownBy w (some g)) (i : Nat) (u : Value) : a.grownBy (w.setCell ⟨g, i, none⟩ u) (some g) :=
  ⟨h.os, h.tape, h.output, by simpa [World.setCell] using h.size, fun j hj hne => (Below.heap_setCell w ⟨g, i, none⟩ u j (by rintro rfl; exact hne rfl)).trans (h.block j hj hne)⟩
theorem grown_drewN {a w : World} {row : Option Nat} (h : a.grownBy w row) (n : Nat) : a.grownBy (w.drewN n) row := ⟨h.os, h.tape, h.output, h.size, h.block⟩
theorem grown_below {a w : World} {g B : Nat} (h : a.grownBy w (some g)) (hB : B ≤ g) (hs : B ≤ a.heap.size) : Below B a w :=
  ⟨h.os, h.tape, h.output, h.size, fun i hi => h.block i (by omega) (by intro e; injection e with e; omega)⟩
theorem Row.ne_ {g' : Nat} {t' : TypeId} {ys : List Value} (h : Row w g t xs) (h' : Row w g' t' ys) (hne : t ≠ t') : g ≠ g' := by
  rintro rfl
  unfold Row at h h'
  rw [h] at h'
  injection h' with h'
  injection h' with _ ht
  exact hne ht
theorem Row.owns {base : Nat} (h : Row w g t xs) (hb : base ≤ g) (hm : xs.length ≤ maxLen) : w.ownsRow base t 1 (.slice (some ⟨g, 0, none⟩) xs.length xs.length) xs.length xs := by
  refine ⟨by simp, .inr ⟨g, xs.length, xs.toArray, rfl, hb, h, Nat.le_refl _, hm, by simp, by simp⟩⟩
end

/-- A block laid with its zero cells and then written whole. -/
theorem made_set (w : World) (t : TypeId) (old cs : Array Value) : ∃ W, (w.alloc (.cells old t)).setRow w.heap.size cs = W ∧ Row W w.heap.size t cs.toList ∧ Below w.heap.size w W ∧ W.heap.size = w.heap.size + 1 := by
  refine ⟨_, rfl, ?_, ?_, by simp⟩
  · exact setRow_heap (w.alloc (.cells old t)) w.heap.size old cs t (0, 0) (heap_alloc_new w _)
  · have h1 : Below w.heap.size w (w.alloc (.cells old t)) := (Below.refl _ _).alloc (Nat.le_refl _) _
    exact ⟨h1.os, h1.tape, h1.output, by simp, fun i hi => (setRow_other _ _ _ _ (by omega)).trans (h1.block i hi)⟩
/-- A block laid whole. -/
theorem made_box (w : World) (t : TypeId) (cs : Array Value) : ∃ W, w.alloc (.cells cs t) = W ∧ Row W w.heap.size t cs.toList ∧ Below w.heap.size w W ∧ W.heap.size = w.heap.size + 1 :=
  ⟨_, rfl, Row.newArr w t cs, (Below.refl _ _).alloc (Nat.le_refl _) _, by simp⟩

/-- The numbers of a list as cells. -/
def iv (k : IntKind) (zs : List Int) : List Value := zs.map (Value.int k)
theorem iv_length (k : IntKind) (zs : List Int) : (iv k zs).length = zs.length := by simp [iv]
theorem iv_at (k : IntKind) (zs : List Int) (i : Nat) (h : i < zs.length) : (iv k zs)[i]? = some (.int k (zs.getD i 0)) := by
  simp [iv, List.getD, h]
theorem getD_at (zs : List Int) (i : Nat) (h : i < zs.length) : zs.getD i 0 = zs[i] := by simp [List.getD, h]

/-- A list that is being filled: the first k cells are those of xs, the others hold z. -/
def filled (xs : List Value) (z : Value) (k : Nat) : List Value := xs.take k ++ List.replicate (xs.length - k) z
theorem filled_zero (xs : List Value) (z : Value) : filled xs z 0 = List.replicate xs.length z := by simp [filled]
theorem filled_all (xs : List Value) (z : Value) : filled xs z xs.length = xs := by simp [filled]
theorem filled_length (xs : List Value) (z : Value) (k : Nat) (h : k ≤ xs.length) : (filled xs z k).length = xs.length := by simp [filled]; omega
theorem filled_at (xs : List Value) (z : Value) (k : Nat) (h : k < xs.length) : (filled xs z k)[k]? = some z := by
  unfold filled
  rw [List.getElem?_append_right (by simp; omega), List.length_take, Nat.min_eq_left (Nat.le_of_lt h), Nat.sub_self, List.getElem?_replicate, if_pos (by omega)]
theorem filled_set (xs : List Value) (z : Value) (k : Nat) (h : k < xs.length) (u : Value) (hu : xs[k]? = some u) : (filled xs z k).set k u = filled xs z (k + 1) := by
  unfold filled
  rw [List.set_append_right _ _ (by simp; omega), List.take_add_one, hu]
  have e : xs.length - k = (xs.length - (k + 1)) + 1 := by omega
  rw [e, List.replicate_succ]
  simp [Nat.min_eq_left (Nat.le_of_lt h)]
theorem made_eq (z : Value) (n : Nat) : (madeCells #[z] n).toList = List.replicate n z := by
  apply List.ext_getElem
  · simp [madeCells]
  · intro i h1 h2
    simp [madeCells, Nat.mod_one]
theorem made_row (w : World) (t : TypeId) (z : Value) (n : Nat) : Row (w.alloc (.cells (madeCells #[z] n) t)) w.heap.size t (List.replicate n z) := by
  have h := Row.newArr w t (madeCells #[z] n)
  rwa [made_eq] at h
end Go.Proofs.YtalpfbbceggcaaaDoor.Mem
