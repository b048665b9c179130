/- A row's cells as a function. -/
import Derived.Test.YtfcpjckecjjmjaaRows
import Derived.Test.YtfcpjckecjjmjaaMem
import Derived.Test.YtfcpjckecjjmjaaSl
import Derived.WalkKit
import Derived.ProofKit
import Derived.OpenShut
import Derived.Below
import Derived.WalkLawsBesides
namespace Go.Proofs.Ytfcpjckecjjmjaa.Fvs
open Go.RowKit Mem Sl Args
set_option linter.unusedVariables false
def up {α : Type} (f : Nat → α) (i : Nat) (x : α) : Nat → α := fun j => if j = i then x else f j
theorem up_self {α : Type} (f : Nat → α) (i : Nat) (x : α) : up f i x i = x := if_pos rfl
theorem up_ne {α : Type} (f : Nat → α) {i j : Nat} (x : α) (h : j ≠ i) : up f i x j = f j := if_neg h
theorem cell_self {w : World} {a : Addr} (v : Value) (h : (w.cell? a).isSome = true) : (w.setCell a v).cell? a = some v := by
  obtain ⟨u, hu⟩ := Option.isSome_iff_exists.1 h
  exact World.cell?_setCell_same (h := hu) ..
/-- Block g's first n cells hold V. -/
structure Fv (w : World) (g n : Nat) (V : Nat → Value) : Prop where
  lt : g < w.heap.size
  cell : ∀ i, i < n → w.cell? ⟨g, i, none⟩ = some (V i)
  frozen : ∀ i, w.frozen? ⟨g, i, none⟩ = false
def Fr (w : World) (g n : Nat) (k : IntKind) (f : Nat → Int) : Prop := Fv w g n (fun i => .int k (f i))
section
variable {w w' : World} {g n : Nat} {V V' : Nat → Value} {k : IntKind} {f f' : Nat → Int}
theorem Fv.of_row {t : TypeId} {xs : List Value} (h : Row w g t xs) (hV : ∀ i, i < n → xs[i]? = some (V i)) : Fv w g n V := ⟨h.lt, fun i hi => h.at_ (hV i hi), fun i => h.frozen i⟩
theorem Fv.congr (h : Fv w g n V) (e : ∀ i, i < n → V i = V' i) : Fv w g n V' := ⟨h.lt, fun i hi => by rw [h.cell i hi, e i hi], h.frozen⟩
theorem Fr.congr (h : Fr w g n k f) (e : ∀ i, i < n → f i = f' i) : Fr w g n k f' := Fv.congr h (fun i hi => by rw [e i hi])
theorem Fv.drew (h : Fv w g n V) : Fv w.drew g n V := ⟨h.lt, h.cell, h.frozen⟩
theorem Fv.below {B : Nat} (h : Fv w g n V) (hb : Below B w w') (hg : g < B) : Fv w' g n V := by
  have hb' := hb.block g hg
  refine ⟨Nat.lt_of_lt_of_le h.lt hb.size, fun i hi => ?_, fun o => ?_⟩
  · rw [← h.cell i hi]; simp [World.cell?, hb']
  · rw [← h.frozen o]; simp [World.frozen?, hb']
theorem Fv.far (h : Fv w g n V) {p : Addr} (hp : g ≠ p.block) (u : Value) : Fv (w.setCell p u) g n V := by
  have hb := Below.heap_setCell w p u g hp
  refine ⟨by simpa using h.lt, fun i hi => ?_, fun o => ?_⟩
  · rw [← h.cell i hi]; simp [World.cell?, hb]
  · rw [← h.frozen o]; simp [World.frozen?, hb]
theorem frozen_set (w : World) (a : Addr) (g i : Nat) (u : Value) (h : w.frozen? ⟨g, i, none⟩ = false) : (w.setCell a u).frozen? ⟨g, i, none⟩ = false := by
  by_cases e : g = a.block
  · subst e
    simp [go_sem, h]
  · rw [← h]; simp [World.frozen?, Below.heap_setCell w a u g e]
theorem Fv.set (h : Fv w g n V) {i : Nat} (hi : i < n) (u : Value) : Fv (w.setCell ⟨g, i, none⟩ u) g n (up V i u) := by
  refine ⟨by simpa using h.lt, fun j hj => ?_, fun o => frozen_set w _ g o u (h.frozen o)⟩
  by_cases e : j = i
  · subst e
    rw [up_self]
    exact cell_self u (by rw [h.cell j hj]; rfl)
  · rw [up_ne _ _ e]
    rw [← h.cell j hj]
    simp [go_sem]
theorem Fr.set (h : Fr w g n k f) {i : Nat} (hi : i < n) (x : Int) : Fr (w.setCell ⟨g, i, none⟩ (.int k x)) g n k (up f i x) :=
  Fv.congr (Fv.set h hi (.int k x)) (fun j _ => by unfold up; split <;> rfl)
end

theorem fv_made (w : World) (t : TypeId) (z : Value) (n : Nat) : Fv (w.alloc (.cells (madeCells #[z] n) t)) w.heap.size n (fun _ => z) := Fv.of_row (made_row w t z n) (fun i hi => by simp [hi])
/-- Being filled: the first k cells are V's, the others z. -/
def upto (V : Nat → Value) (z : Value) (k : Nat) : Nat → Value := fun i => if i < k then V i else z
theorem upto_step (V : Nat → Value) (z : Value) (k i : Nat) : up (upto V z k) k (V k) i = upto V z (k + 1) i := by
  unfold up upto
  by_cases e : i = k
  · subst e; simp
  · have : (i < k + 1) = (i < k) := by apply propext; omega
    simp [e, this]
theorem Fv.at_ {w : World} {g n : Nat} {V : Nat → Value} (h : Fv w g n V) {i : Nat} (hi : i < n) {v : Value} (hv : V i = v) : w.cell? ⟨g, i, none⟩ = some v := by rw [h.cell i hi, hv]
/-- A slice that reads as V. -/
def Rs (w : World) (A : Option Addr) (n : Nat) (V : Nat → Value) : Prop := ∀ i, i < n → ∃ b o, A = some ⟨b, o, none⟩ ∧ b < w.heap.size ∧ w.cell? ⟨b, o + i, none⟩ = some (V i)
theorem Rs.later {w w' : World} {A : Option Addr} {n : Nat} {V : Nat → Value} (h : Rs w A n V) (hb : Below w.heap.size w w') : Rs w' A n V := fun i hi => by
  obtain ⟨b, o, ha, hlt, hc⟩ := h i hi
  exact ⟨b, o, ha, Nat.lt_of_lt_of_le hlt hb.size, (hb.cell (p := ⟨b, o + i, none⟩) hlt).trans hc⟩
theorem Rs.of_fv {w : World} {g n : Nat} {V : Nat → Value} (h : Fv w g n V) : Rs w (some ⟨g, 0, none⟩) n V := fun i hi => ⟨g, 0, rfl, h.lt, by rw [Nat.zero_add]; exact h.cell i hi⟩
theorem Rs.of_ints {k : IntKind} {w : World} {A : Option Addr} {n c : Nat} {zs : List Int} (h : Args.IsInts k w A n c zs) : Rs w A n (fun i => .int k (zs.getD i 0)) := fun i hi => h.read i hi
theorem Rs.of_bools {w : World} {A : Option Addr} {n c : Nat} {zs : List Bool} (h : Args.IsBools w A n c zs) : Rs w A n (fun i => .bool (zs.getD i false)) := fun i hi => by
  obtain ⟨h1, h2, h3, h4, h5⟩ := h
  obtain ⟨b, o, ha, hb, hc⟩ := h5 (by omega)
  exact ⟨b, o, ha, hb, hc i hi⟩
/-- What a function that makes a slice of n values gives. -/
def Cl (w : World) (n : Nat) (V : Nat → Value) (e : Ending) (w' : World) : Prop := ∃ A c, e = .returned (.slice A n c) ∧ Rs w' A n V ∧ Below w.heap.size w w'
end Go.Proofs.Ytfcpjckecjjmjaa.Fvs
