/- Slices of small structs. -/
import Derived.Test.YtidcbknnjpecbaaRows
import Derived.Test.YtidcbknnjpecbaaMem
import Derived.Test.YtidcbknnjpecbaaSl
import Derived.WalkKit
import Derived.ProofKit
import Derived.OpenShut
import Derived.Below
import Derived.WalkLawsBesides
import Derived.Lib.Hide
import Derived.Outline
import Derived.RegionTactic
import Derived.Deep.QuietTactic
import Derived.BigQuiet
import Derived.WalkSpells
import Derived.Deep.OwnRows
import Derived.IntWalk
import Derived.Deep.DeepMust
namespace Go.Proofs.Ytidcbknnjpecbaa.Arr
open Go.RowKit Mem Sl
set_option linter.unusedVariables false

/-- Block g holds n structs of s cells each, the j-th cell of the k-th is V j (F k j); none is frozen. -/
structure Arr (w : World) (g n s : Nat) (V : Nat → Int → Value) (F : Nat → Nat → Int) : Prop where
  lt : g < w.heap.size
  cell : ∀ k j, k < n → j < s → w.cell? ⟨g, k * s + j, none⟩ = some (V j (F k j))
  frozen : ∀ i, w.frozen? ⟨g, i, none⟩ = false
def upd (F : Nat → Nat → Int) (i j : Nat) (x : Int) : Nat → Nat → Int := fun k l => if k = i ∧ l = j then x else F k l
def swp (F : Nat → Nat → Int) (i j : Nat) : Nat → Nat → Int := fun k => if k = j then F i else if k = i then F j else F k
def u32s : Nat → Int → Value := fun _ x => .int .u32 x
def cc : Nat → Int → Value := fun j x => if j = 0 then .slice none 0 0 else .int .u32 x
section
variable {w w' : World} {g n s : Nat} {V : Nat → Int → Value} {F F' : Nat → Nat → Int}
theorem Arr.drewN (h : Arr w g n s V F) (q : Nat) : Arr (w.drewN q) g n s V F := ⟨h.lt, h.cell, h.frozen⟩
theorem Arr.drew (h : Arr w g n s V F) : Arr w.drew g n s V F := ⟨h.lt, h.cell, h.frozen⟩
theorem Arr.congr (h : Arr w g n s V F) (e : ∀ k j, k < n → j < s → V j (F k j) = V j (F' k j)) : Arr w g n s V F' :=
  ⟨h.lt, fun k j hk hj => by rw [← e k j hk hj]; exact h.cell k j hk hj, h.frozen⟩
theorem idx_inj {k l i j : Nat} (hl : l < s) (hj : j < s) (e : k * s + l = i * s + j) : k = i ∧ l = j := by
  have h1 : (k * s + l) / s = k := by rw [Nat.add_comm, Nat.add_mul_div_right _ _ (by omega), Nat.div_eq_of_lt hl, Nat.zero_add]
  have h2 : (i * s + j) / s = i := by rw [Nat.add_comm, Nat.add_mul_div_right _ _ (by omega), Nat.div_eq_of_lt hj, Nat.zero_add]
  have h3 : k = i := by rw [← h1, e, h2]
  subst h3
  exact ⟨rfl, by omega⟩
theorem cell_self {a : Addr} (v : Value) (h : (w.cell? a).isSome = true) : (w.setCell a v).cell? a = some v := by
  obtain ⟨u, hu⟩ := Option.isSome_iff_exists.1 h
  exact World.cell?_setCell_same (h := hu) ..
theorem Arr.set (h : Arr w g n s V F) {i j : Nat} (hi : i < n) (hj : j < s) (x : Int) : Arr (w.setCell ⟨g, i * s + j, none⟩ (V j x)) g n s V (upd F i j x) := by
  refine ⟨by simpa [World.setCell] using h.lt, fun k l hk hl => ?_, fun o => by simpa using h.frozen o⟩
  by_cases e : k = i ∧ l = j
  · obtain ⟨rfl, rfl⟩ := e
    rw [cell_self _ (by rw [h.cell k l hi hj]; rfl)]
    simp [upd]
  · have hne : k * s + l ≠ i * s + j := fun he => e (idx_inj hl hj he)
    have : (w.setCell ⟨g, i * s + j, none⟩ (V j x)).cell? ⟨g, k * s + l, none⟩ = w.cell? ⟨g, k * s + l, none⟩ :=
      World.cell?_setCell_other (h := fun he => hne (by injection he with h1 h2; exact h2.symm)) ..
    rw [this, h.cell k l hk hl]
    simp [upd, e]
theorem Arr.grown {row : Option Nat} (h : Arr w g n s V F) (hb : w.grownBy w' row) (hg : some g ≠ row) : Arr w' g n s V F := by
  have hb' := hb.block g h.lt hg
  refine ⟨Nat.lt_of_lt_of_le h.lt hb.size, fun k l hk hl => ?_, fun o => ?_⟩
  · rw [← h.cell k l hk hl]; simp [World.cell?, hb']
  · rw [← h.frozen o]; simp [World.frozen?, hb']
theorem Arr.below {B : Nat} (h : Arr w g n s V F) (hb : Below B w w') (hg : g < B) : Arr w' g n s V F := by
  have hb' := hb.block g hg
  refine ⟨Nat.lt_of_lt_of_le h.lt hb.size, fun k l hk hl => ?_, fun o => ?_⟩
  · rw [← h.cell k l hk hl]; simp [World.cell?, hb']
  · rw [← h.frozen o]; simp [World.frozen?, hb']
end
theorem arr_made (w : World) (e : TypeId) (cs : Array Value) (n s : Nat) (V : Nat → Int → Value) (hs : cs.size = s) (hV : ∀ j, j < s → cs[j]? = some (V j 0)) : Arr (w.alloc (.cells (madeCells cs (n * s)) e)) w.heap.size n s V (fun _ _ => 0) := by
  have hrow := Row.newArr w e (madeCells cs (n * s))
  refine ⟨hrow.lt, fun k j hk hj => ?_, fun i => hrow.frozen i⟩
  rw [hrow.cell]
  have hlt : k * s + j < n * s := by
    have : (k + 1) * s ≤ n * s := Nat.mul_le_mul_right _ hk
    rw [Nat.add_mul, Nat.one_mul] at this
    omega
  have hm : (k * s + j) % s = j := by rw [Nat.add_comm, Nat.add_mul_mod_self_right, Nat.mod_eq_of_lt hj]
  have := hV j hj
  simp [madeCells, hlt, hs, hm, getElem!_def, this]
def mk (l : List (List Int)) : Nat → Nat → Int := fun k j => (l.getD j []).getD k 0
def upto (F : Nat → Nat → Int) (m : Nat) : Nat → Nat → Int := fun k j => if k < m then F k j else 0
theorem upto_all {w : World} {g n s : Nat} {V : Nat → Int → Value} {F : Nat → Nat → Int} (h : Arr w g n s V (upto F n)) : Arr w g n s V F := h.congr (fun k j hk hj => by simp [upto, hk])
theorem upto_zero {w : World} {g n s : Nat} {V : Nat → Int → Value} {F : Nat → Nat → Int} (h : Arr w g n s V (fun _ _ => 0)) : Arr w g n s V (upto F 0) := h.congr (fun k j hk hj => by simp [upto])
end Go.Proofs.Ytidcbknnjpecbaa.Arr
