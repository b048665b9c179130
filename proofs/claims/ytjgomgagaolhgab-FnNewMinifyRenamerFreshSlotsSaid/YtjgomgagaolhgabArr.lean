/- Slices of small structs. -/
import Derived.Test.YtjgomgagaolhgabRows
import Derived.Test.YtjgomgagaolhgabMem
import Derived.Test.YtjgomgagaolhgabSl
import Derived.WalkKit
import Derived.ProofKit
import Derived.OpenShut
import Derived.Below
import Derived.WalkLawsBesides
import Derived.Lib.Hide
import Derived.Outline
import Derived.RegionTactic
import Derived.Deep.QuietTactic
import Derived.BigQuiet
import Derived.WalkSpells
import Derived.Deep.OwnRows
import Derived.IntWalk
import Derived.Deep.DeepMust
namespace Go.Proofs.Ytjgomgagaolhgab.Arr
open Go.RowKit Mem Sl
set_option linter.unusedVariables false

/-- Block g holds n structs of s cells each, the j-th cell of the k-th is V j (F k j); none is frozen. -/
structure Arr (w : World) (g n s : Nat) (V : Nat → Int → Value) (F : Nat → Nat → Int) : Prop where
  lt : g < w.heap.size
  cell : ∀ k j, k < n → j < s → w.cell? ⟨g, k * s + j, none⟩ = some (V j (F k j))
  frozen : ∀ i, w.frozen? ⟨g, i, none⟩ = false
def upd (F : Nat → Nat → Int) (i j : Nat) (x : Int) : Nat → Nat → Int := fun k l => if k = i ∧ l = j then x else F k l
def swp (F : Nat → Nat → Int) (i j : Nat) : Nat → Nat → Int := fun k => if k = j then F i else if k = i then F j else F k
def u32s : Nat → Int → Value := fun _ x => .int .u32 x
def cc : Nat → Int → Value := fun j x => if j = 0 then .slice none 0 0 else .int .u32 x
section
variable {w w' : World} {g n s : Nat} {V : Nat → Int → Value} {F F' : Nat → Nat → Int}
theorem Arr.drewN (h : Arr w g n s V F) (q : Nat) : Arr (w.drewN q) g n s V F := ⟨h.lt, h.cell, h.frozen⟩
theorem Arr.drew (h : Arr w g n s V F) : Arr w.drew g n s V F := ⟨h.lt, h.cell, h.frozen⟩
theorem Arr.congr (h : Arr w g n s V F) (e : ∀ k j, k < n → j < s → V j (F k j) = V j (F' k j)) : Arr w g n s V F' :=
  ⟨h.lt, fun k j hk hj => by rw [← e k j hk hj]; exact h.cell k j hk hj, h.frozen⟩
theorem idx_inj {k l i j : Nat} (hl : l < s) (hj : j < s) (e : k * s + l = i * s + j) : k = i ∧ l = j := by
  have h1 : (k * s + l) / s = k := by rw [Nat.add_comm, Nat.add_mul_div_right _ _ (by omega), Nat.div_eq_of_lt hl, Nat.zero_add]
  have h2 : (i * s + j) / s = i := by rw [Nat.add_comm, Nat.add_mul_div_right _ _ (by omega), Nat.div_eq_of_lt hj, Nat.zero_add]
  have h3 : k = i := by rw [← h1, e, h2]
  subst h3
  exact ⟨rfl, by omega⟩
theorem cell_self {a : Addr} (v : Value) (h : (w.cell? a).isSome = true) : (w.setCell a v).cell? a = some v := by
  obtain ⟨u, hu⟩ := Option.isSome_iff_exists.1 h
  exact World.cell?_setCell_same (h := hu) ..
theorem Arr.set (h : Arr w g n s V F) {i j : Nat} (hi : i < n) (hj : j < s) (x : Int) : Arr (w.setCell ⟨g, i * s + j, none⟩ (V j x)) g n s V (upd F i j x) := by
  refine ⟨by simpa [World.setCell] using h.lt, fun k l hk hl => ?_, fun o => by simpa using h.frozen o⟩
  by_cases e : k = i ∧ l = j
  · obtain ⟨rfl, rfl⟩ := e
    rw [cell_self _ (by rw [h.cell k l hi hj]; rfl)]
    simp [upd]
  · have hne : k * s + l ≠ i * s + j := fun he => e (idx_inj hl hj he)
    have : (w.setCell ⟨g, i * s + j, none⟩ (V j x)).cell? ⟨g, k * s + l, none⟩ = w.cell? ⟨g, k * s + l, none⟩ :=
      World.cell?_setCell_other (h := fun he => hne (by injection he with h1 h2; exact h2.symm)) ..
    rw [this, h.cell k l hk hl]
    simp [upd, e]
theorem Arr.grown {row : Option Nat} (h : Arr w g n s V F) (hb : w.grownBy w' row) (hg : some g ≠ row) : Arr w' g n s V F := by
  have hb' := hb.block g h.lt hg
  refine ⟨Nat.lt_of_lt_of_le h.lt hb.size, fun k l hk hl => ?_, fun o => ?_⟩
  · rw [← h.cell k l hk hl]; simp [World.cell?, hb']
  · rw [← h.frozen o]; simp [World.frozen?, hb']
theorem Arr.below {B : Nat} (h : Arr w g n s V F) (hb : Below B w w') (hg : g < B) : Arr w' g n s V F := by
  have hb' := hb.block g hg
  refine ⟨Nat.lt_of_lt_of_le h.lt hb.size, fun k l hk hl => ?_, fun o => ?_⟩
  · rw [← h.cell k l hk hl]; simp [World.cell?, hb']
  · rw [← h.frozen o]; simp [World.frozen?, hb']
end
/-- After an exchange. -/
def Swapped (w : World) (g n s : Nat) (V : Nat → Int → Value) (F : Nat → Nat → Int) (i j : Nat) (e : Ending) (w' : World) : Prop :=
  e = .returned (.tuple #[]) ∧ Arr w' g n s V (swp F i j) ∧ w.grownBy w' (some g) ∧ w'.heap.size = w.heap.size

set_option maxHeartbeats 400000 in
theorem swap18 (g n c i j : Nat) (F : Nat → Nat → Int) (w : World) (h : Arr w g n 3 u32s F) (hi : i < n) (hj : j < n) (hn : n ≤ 131072) :
    Calls Try.prog 18 #[.slice (some ⟨g, 0, none⟩) n c, .int .i64 i, .int .i64 j] w (Swapped w g n 3 u32s F i j) := by
  have a0 : w.cell? ⟨g, i * 3, none⟩ = some (.int .u32 (F i 0)) := h.cell i 0 hi (by omega)
  have a1 : w.cell? ⟨g, i * 3 + 1, none⟩ = some (.int .u32 (F i 1)) := h.cell i 1 hi (by omega)
  have a2 : w.cell? ⟨g, i * 3 + 2, none⟩ = some (.int .u32 (F i 2)) := h.cell i 2 hi (by omega)
  have b0 : w.cell? ⟨g, j * 3, none⟩ = some (.int .u32 (F j 0)) := h.cell j 0 hj (by omega)
  have b1 : w.cell? ⟨g, j * 3 + 1, none⟩ = some (.int .u32 (F j 1)) := h.cell j 1 hj (by omega)
  have b2 : w.cell? ⟨g, j * 3 + 2, none⟩ = some (.int .u32 (F j 2)) := h.cell j 2 hj (by omega)
  have fz := h.frozen
  have HA := Lib.hid (((((((((((((h).set (j := 0) hi (by omega) (F j 0))).set (j := 1) hi (by omega) (F j 1))).set (j := 2) hi (by omega) (F j 2))).set (j := 0) hj (by omega) (F i 0))).set (j := 1) hj (by omega) (F i 1))).set (j := 2) hj (by omega) (F i 2)))
  have HG := Lib.hid (grown_set (grown_set (grown_set (grown_set (grown_set (grown_set (grown_refl w (some g)) (i * 3) (.int .u32 (F j 0))) (i * 3 + 1) (.int .u32 (F j 1))) (i * 3 + 2) (.int .u32 (F j 2))) (j * 3) (.int .u32 (F i 0))) (j * 3 + 1) (.int .u32 (F i 1))) (j * 3 + 2) (.int .u32 (F i 2)))
  clear h
  by_cases hij : i = j
  · subst hij
    clear b0 b1 b2
    go_enter Try.func18, Try.ntmps18
    go_wp2
    go_region
    go_end0
    refine ⟨rfl, (HA.out.congr ?_).drew, grown_drewN HG.out 1, by simp⟩
    intro k l hk hl
    have e : l = 0 ∨ l = 1 ∨ l = 2 := by omega
    rcases e with rfl | rfl | rfl <;> by_cases hk : k = i <;> simp [upd, swp, hk]
  · go_enter Try.func18, Try.ntmps18
    go_wp2
    go_region
    go_end0
    refine ⟨rfl, (HA.out.congr ?_).drew, grown_drewN HG.out 1, by simp⟩
    intro k l hk hl
    have e : l = 0 ∨ l = 1 ∨ l = 2 := by omega
    rcases e with rfl | rfl | rfl <;> by_cases hk : k = j <;> by_cases hk' : k = i <;> simp [upd, swp, hk, hk', hij]

set_option maxHeartbeats 400000 in
theorem swap24 (g n c i j : Nat) (F : Nat → Nat → Int) (w : World) (h : Arr w g n 4 u32s F) (hi : i < n) (hj : j < n) (hn : n ≤ 131072) :
    Calls Try.prog 24 #[.slice (some ⟨g, 0, none⟩) n c, .int .i64 i, .int .i64 j] w (Swapped w g n 4 u32s F i j) := by
  have a0 : w.cell? ⟨g, i * 4, none⟩ = some (.int .u32 (F i 0)) := h.cell i 0 hi (by omega)
  have a1 : w.cell? ⟨g, i * 4 + 1, none⟩ = some (.int .u32 (F i 1)) := h.cell i 1 hi (by omega)
  have a2 : w.cell? ⟨g, i * 4 + 2, none⟩ = some (.int .u32 (F i 2)) := h.cell i 2 hi (by omega)
  have a3 : w.cell? ⟨g, i * 4 + 3, none⟩ = some (.int .u32 (F i 3)) := h.cell i 3 hi (by omega)
  have b0 : w.cell? ⟨g, j * 4, none⟩ = some (.int .u32 (F j 0)) := h.cell j 0 hj (by omega)
  have b1 : w.cell? ⟨g, j * 4 + 1, none⟩ = some (.int .u32 (F j 1)) := h.cell j 1 hj (by omega)
  have b2 : w.cell? ⟨g, j * 4 + 2, none⟩ = some (.int .u32 (F j 2)) := h.cell j 2 hj (by omega)
  have b3 : w.cell? ⟨g, j * 4 + 3, none⟩ = some (.int .u32 (F j 3)) := h.cell j 3 hj (by omega)
  have fz := h.frozen
  have HA := Lib.hid (((((((((((((((((h).set (j := 0) hi (by omega) (F j 0))).set (j := 1) hi (by omega) (F j 1))).set (j := 2) hi (by omega) (F j 2))).set (j := 3) hi (by omega) (F j 3))).set (j := 0) hj (by omega) (F i 0))).set (j := 1) hj (by omega) (F i 1))).set (j := 2) hj (by omega) (F i 2))).set (j := 3) hj (by omega) (F i 3)))
  have HG := Lib.hid (grown_set (grown_set (grown_set (grown_set (grown_set (grown_set (grown_set (grown_set (grown_refl w (some g)) (i * 4) (.int .u32 (F j 0))) (i * 4 + 1) (.int .u32 (F j 1))) (i * 4 + 2) (.int .u32 (F j 2))) (i * 4 + 3) (.int .u32 (F j 3))) (j * 4) (.int .u32 (F i 0))) (j * 4 + 1) (.int .u32 (F i 1))) (j * 4 + 2) (.int .u32 (F i 2))) (j * 4 + 3) (.int .u32 (F i 3)))
  clear h
  by_cases hij : i = j
  · subst hij
    clear b0 b1 b2 b3
    go_enter Try.func24, Try.ntmps24
    go_wp2
    go_region
    go_end0
    refine ⟨rfl, (HA.out.congr ?_).drew, grown_drewN HG.out 1, by simp⟩
    intro k l hk hl
    have e : l = 0 ∨ l = 1 ∨ l = 2 ∨ l = 3 := by omega
    rcases e with rfl | rfl | rfl | rfl <;> by_cases hk : k = i <;> simp [upd, swp, hk]
  · go_enter Try.func24, Try.ntmps24
    go_wp2
    go_region
    go_end0
    refine ⟨rfl, (HA.out.congr ?_).drew, grown_drewN HG.out 1, by simp⟩
    intro k l hk hl
    have e : l = 0 ∨ l = 1 ∨ l = 2 ∨ l = 3 := by omega
    rcases e with rfl | rfl | rfl | rfl <;> by_cases hk : k = j <;> by_cases hk' : k = i <;> simp [upd, swp, hk, hk', hij]

set_option maxHeartbeats 400000 in
theorem swap11 (g n c i j : Nat) (F : Nat → Nat → Int) (w : World) (h : Arr w g n 2 cc F) (hi : i < n) (hj : j < n) (hn : n ≤ 131072) :
    Calls Try.prog 11 #[.slice (some ⟨g, 0, none⟩) n c, .int .i64 i, .int .i64 j] w (Swapped w g n 2 cc F i j) := by
  have a0 : w.cell? ⟨g, i * 2, none⟩ = some (.slice none 0 0) := h.cell i 0 hi (by omega)
  have a1 : w.cell? ⟨g, i * 2 + 1, none⟩ = some (.int .u32 (F i 1)) := h.cell i 1 hi (by omega)
  have b0 : w.cell? ⟨g, j * 2, none⟩ = some (.slice none 0 0) := h.cell j 0 hj (by omega)
  have b1 : w.cell? ⟨g, j * 2 + 1, none⟩ = some (.int .u32 (F j 1)) := h.cell j 1 hj (by omega)
  have fz := h.frozen
  have HA := Lib.hid (((((((((h).set (j := 0) hi (by omega) (F j 0))).set (j := 1) hi (by omega) (F j 1))).set (j := 0) hj (by omega) (F i 0))).set (j := 1) hj (by omega) (F i 1)))
  have HG := Lib.hid (grown_set (grown_set (grown_set (grown_set (grown_refl w (some g)) (i * 2) (.slice none 0 0)) (i * 2 + 1) (.int .u32 (F j 1))) (j * 2) (.slice none 0 0)) (j * 2 + 1) (.int .u32 (F i 1)))
  clear h
  by_cases hij : i = j
  · subst hij
    clear b0 b1
    go_enter Try.func11, Try.ntmps11
    go_wp2
    go_region
    go_end0
    refine ⟨rfl, (HA.out.congr ?_).drew, grown_drewN HG.out 1, by simp⟩
    intro k l hk hl
    have e : l = 0 ∨ l = 1 := by omega
    rcases e with rfl | rfl <;> by_cases hk : k = i <;> simp [upd, swp, hk]
  · go_enter Try.func11, Try.ntmps11
    go_wp2
    go_region
    go_end0
    refine ⟨rfl, (HA.out.congr ?_).drew, grown_drewN HG.out 1, by simp⟩
    intro k l hk hl
    have e : l = 0 ∨ l = 1 := by omega
    rcases e with rfl | rfl <;> by_cases hk : k = j <;> by_cases hk' : k = i <;> simp [upd, swp, hk, hk', hij]
end Go.Proofs.Ytjgomgagaolhgab.Arr
