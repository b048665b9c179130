/- Blocks as tables of rows of s cells: made, filled row by row, kept. -/
import Derived.Test.YtfcpjckecjjmjaaRows
import Derived.Test.YtfcpjckecjjmjaaMem
import Derived.Test.YtfcpjckecjjmjaaFvs
import Derived.Test.YtfcpjckecjjmjaaFxs
import Derived.Deep.MidRow
import Derived.WalkKit
import Derived.ProofKit
import Derived.Below
import Derived.WalkLawsBesides
namespace Go.Proofs.Ytfcpjckecjjmjaa.Tab
open Go.RowKit Mem Args Fvs Fxs
set_option linter.unusedVariables false
theorem setCells_block (b : Nat) : ∀ (vs : List Value) (o : Nat) (w : World) (g : Nat), g ≠ b → (w.setCells b o vs).heap[g]? = w.heap[g]?
  | [], _, _, _, _ => rfl
  | v :: vs, o, w, g, h => by
    rw [World.setCells, setCells_block b vs (o + 1) _ g h]
    exact Below.heap_setCell w ⟨b, o, none⟩ v g h
theorem setCells_meta (b : Nat) : ∀ (vs : List Value) (o : Nat) (w : World), (w.setCells b o vs).heap.size = w.heap.size ∧ (w.setCells b o vs).os = w.os ∧ (w.setCells b o vs).tape = w.tape ∧ (w.setCells b o vs).output = w.output
  | [], _, _ => ⟨rfl, rfl, rfl, rfl⟩
  | v :: vs, o, w => by
    rw [World.setCells]
    obtain ⟨h1, h2, h3, h4⟩ := setCells_meta b vs (o + 1) (w.setCell ⟨b, o, none⟩ v)
    exact ⟨by rw [h1]; simp, by rw [h2]; rfl, by rw [h3]; rfl, by rw [h4]; rfl⟩
theorem below_setCells {B b o : Nat} {w w' : World} {vs : List Value} (h : Below B w w') (hb : B ≤ b) : Below B w (w'.setCells b o vs) := by
  obtain ⟨h1, h2, h3, h4⟩ := setCells_meta b vs o w'
  exact ⟨h2.trans h.os, h3.trans h.tape, h4.trans h.output, by rw [h1]; exact h.size, fun j hj => (setCells_block b vs o w' j (by omega)).trans (h.block j hj)⟩
theorem fx_setCells {P : Nat → Prop} {b o : Nat} {w w' : World} {vs : List Value} (h : Fx P w w') (hb : P b) : Fx P w (w'.setCells b o vs) := by
  obtain ⟨h1, h2, h3, h4⟩ := setCells_meta b vs o w'
  exact ⟨h2.trans h.os, h3.trans h.tape, h4.trans h.output, by rw [h1]; exact h.size, fun j hj hp => (setCells_block b vs o w' j (fun e => hp (by rw [e]; exact hb))).trans (h.block j hj hp)⟩
theorem run_make_wide {P : Program} (t e : TypeId) (z : Value) (size : Nat) (cs : Array Value) (ht : P.underlying t = some (.slice e)) (hinfo : (P.info? e).map (fun i => (i.zero, i.size, decide (i.bytes ≤ 1000))) = some (some z, size, true)) (hz1 : z.cells = cs)
    (kl kc : IntKind) (n : Nat) (hn : n ≤ 1048576) (w : World) :
    (Instr.makeSlice t (.int kl (n : Int)) (.int kc (n : Int))).run P w = .ok (.slice (some ⟨w.heap.size, 0, none⟩) n n) (w.alloc (.cells (madeCells cs (n * size)) e)) := by
  obtain ⟨i, hi, hzz⟩ := Option.map_eq_some_iff.1 hinfo
  simp only [Prod.mk.injEq, decide_eq_true_eq] at hzz
  obtain ⟨hz, hs, hb⟩ := hzz
  have hb' : (i.bytes : Int) * (n : Int) ≤ 281474976710656 := by
    have h1 : i.bytes * n ≤ 1000 * 1048576 := Nat.mul_le_mul hb hn
    have h : ((i.bytes * n : Nat) : Int) ≤ 281474976710656 := by omega
    rwa [Int.natCast_mul] at h
  have hr := run_make (P := P) w t e i z ht hi hz kl kc n n (by omega) (Int.le_refl _) hb' (by omega)
  simp only [Int.toNat_natCast, hs, hz1] at hr
  exact hr
/-- Block g holds n rows of s cells each: cell j of row i is T i j. -/
structure Tb (w : World) (g n s : Nat) (T : Nat → Nat → Value) : Prop where
  lt : g < w.heap.size
  cell : ∀ i j, i < n → j < s → w.cell? ⟨g, i * s + j, none⟩ = some (T i j)
  frozen : ∀ o, w.frozen? ⟨g, o, none⟩ = false
theorem idx_inj {s k l i j : Nat} (hl : l < s) (hj : j < s) (e : k * s + l = i * s + j) : k = i ∧ l = j := by
  have h1 : (k * s + l) / s = k := by rw [Nat.add_comm, Nat.add_mul_div_right _ _ (by omega), Nat.div_eq_of_lt hl, Nat.zero_add]
  have h2 : (i * s + j) / s = i := by rw [Nat.add_comm, Nat.add_mul_div_right _ _ (by omega), Nat.div_eq_of_lt hj, Nat.zero_add]
  have h3 : k = i := by rw [← h1, e, h2]
  subst h3
  exact ⟨rfl, by omega⟩
def upRow (T : Nat → Nat → Value) (k : Nat) (D : Nat → Value) : Nat → Nat → Value := fun i j => if i = k then D j else T i j
def up2 (T : Nat → Nat → Value) (k c : Nat) (v : Value) : Nat → Nat → Value := fun i j => if i = k ∧ j = c then v else T i j
def upto2 (D : Nat → Nat → Value) (z : Nat → Value) (k : Nat) : Nat → Nat → Value := fun i j => if i < k then D i j else z j
section
variable {w w' : World} {g n s : Nat} {T T' : Nat → Nat → Value}
theorem Tb.at_ (h : Tb w g n s T) {i j : Nat} (hi : i < n) (hj : j < s) {v : Value} (hv : T i j = v) : w.cell? ⟨g, i * s + j, none⟩ = some v := by rw [h.cell i j hi hj, hv]
theorem Tb.congr (h : Tb w g n s T) (e : ∀ i j, i < n → j < s → T i j = T' i j) : Tb w g n s T' := ⟨h.lt, fun i j hi hj => by rw [h.cell i j hi hj, e i j hi hj], h.frozen⟩
theorem Tb.drewN (h : Tb w g n s T) (q : Nat) : Tb (w.drewN q) g n s T := ⟨h.lt, h.cell, h.frozen⟩
theorem Tb.below {B : Nat} (h : Tb w g n s T) (hb : Below B w w') (hg : g < B) : Tb w' g n s T := by
  have hb' := hb.block g hg
  refine ⟨Nat.lt_of_lt_of_le h.lt hb.size, fun i j hi hj => ?_, fun o => ?_⟩
  · rw [← h.cell i j hi hj]; simp [World.cell?, hb']
  · rw [← h.frozen o]; simp [World.frozen?, hb']
theorem Tb.later (h : Tb w g n s T) (hb : Below w.heap.size w w') : Tb w' g n s T := h.below hb h.lt
theorem Tb.fx {P : Nat → Prop} (h : Tb w g n s T) (hf : Fx P w w') (hg : ¬ P g) : Tb w' g n s T := by
  have hb' := hf.block g h.lt hg
  refine ⟨Nat.lt_of_lt_of_le h.lt hf.size, fun i j hi hj => ?_, fun o => ?_⟩
  · rw [← h.cell i j hi hj]; simp [World.cell?, hb']
  · rw [← h.frozen o]; simp [World.frozen?, hb']
theorem Tb.far (h : Tb w g n s T) {p : Addr} (hp : g ≠ p.block) (u : Value) : Tb (w.setCell p u) g n s T := by
  have hb := Below.heap_setCell w p u g hp
  refine ⟨by simpa using h.lt, fun i j hi hj => ?_, fun o => ?_⟩
  · rw [← h.cell i j hi hj]; simp [World.cell?, hb]
  · rw [← h.frozen o]; simp [World.frozen?, hb]
theorem Tb.set (h : Tb w g n s T) {i j : Nat} (hi : i < n) (hj : j < s) (u : Value) : Tb (w.setCell ⟨g, i * s + j, none⟩ u) g n s (up2 T i j u) := by
  refine ⟨by simpa using h.lt, fun k l hk hl => ?_, fun o => frozen_set w _ g o u (h.frozen o)⟩
  unfold up2
  by_cases e : k = i ∧ l = j
  · obtain ⟨rfl, rfl⟩ := e
    rw [if_pos ⟨rfl, rfl⟩]
    exact cell_self u (by rw [h.cell k l hk hl]; rfl)
  · rw [if_neg e, ← h.cell k l hk hl]
    exact World.cell?_setCell_other _ _ _ _ (fun hh => by injection hh with _ hh _; exact e (by first | exact idx_inj hl hj hh | exact idx_inj hl hj hh.symm))
theorem Tb.row (h : Tb w g n s T) {k : Nat} (hk : k < n) (vs : List Value) (hl : vs.length = s) (D : Nat → Value) (hv : ∀ j, j < s → vs[j]? = some (D j)) : Tb (w.setCells g (k * s) vs) g n s (upRow T k D) := by
  refine ⟨by rw [(setCells_meta _ _ _ _).1]; exact h.lt, fun i j hi hj => ?_, fun o => by rw [World.frozen?_setCells]; exact h.frozen o⟩
  unfold upRow
  by_cases e : i = k
  · subst e
    rw [if_pos rfl, World.cell?_setCells_in g vs (i * s) w (fun j hj => by rw [h.cell i j hi (by omega)]; rfl) j (by omega)]
    have := hv j hj
    rw [List.getElem?_eq_getElem (by omega)] at this
    exact this
  · rw [if_neg e, ← h.cell i j hi hj]
    refine World.cell?_setCells_out g vs (k * s) w _ (fun _ _ => ?_)
    rw [hl]
    show i * s + j < k * s ∨ k * s + s ≤ i * s + j
    rcases Nat.lt_or_ge i k with h1 | h1
    · left
      have : (i + 1) * s ≤ k * s := Nat.mul_le_mul_right _ h1
      rw [Nat.add_mul, Nat.one_mul] at this
      omega
    · right
      have : (k + 1) * s ≤ i * s := Nat.mul_le_mul_right _ (by omega)
      rw [Nat.add_mul, Nat.one_mul] at this
      omega
theorem tb_made (w : World) (t : TypeId) (cs : Array Value) (n s : Nat) (hs : cs.size = s) : Tb (w.alloc (.cells (madeCells cs (n * s)) t)) w.heap.size n s (fun _ j => cs.getD j undef) := by
  have hrow := Row.newArr w t (madeCells cs (n * s))
  refine ⟨hrow.lt, fun k j hk hj => ?_, fun o => hrow.frozen o⟩
  rw [hrow.cell]
  have hlt : k * s + j < n * s := by
    have : (k + 1) * s ≤ n * s := Nat.mul_le_mul_right _ hk
    rw [Nat.add_mul, Nat.one_mul] at this
    omega
  have hm : (k * s + j) % s = j := by rw [Nat.add_comm, Nat.add_mul_mod_self_right, Nat.mod_eq_of_lt hj]
  have hjs : j < cs.size := by omega
  have e : cs[j]? = some (cs.getD j undef) := by simp [Array.getD, hjs]
  show _ = some (cs.getD j undef)
  obtain ⟨v, hv⟩ : ∃ v, v = cs.getD j undef := ⟨_, rfl⟩
  rw [← hv] at e ⊢
  simp [madeCells, hlt, hs, hm, getElem!_def, e]
theorem upto2_row (D : Nat → Nat → Value) (z : Nat → Value) (k i j : Nat) : upRow (upto2 D z k) k (D k) i j = upto2 D z (k + 1) i j := by
  unfold upRow upto2
  by_cases e : i = k
  · subst e; simp
  · have : (i < k + 1) = (i < k) := by apply propext; omega
    simp [e, this]
theorem Tb.next {D : Nat → Nat → Value} {z : Nat → Value} {k : Nat} (h : Tb w g n s (upto2 D z k)) (hk : k < n) (vs : List Value) (hl : vs.length = s) (hv : ∀ j, j < s → vs[j]? = some (D k j)) : Tb (w.setCells g (k * s) vs) g n s (upto2 D z (k + 1)) :=
  (h.row hk vs hl (D k) hv).congr (fun i j _ _ => upto2_row D z k i j)
theorem upto2_zero (D : Nat → Nat → Value) (z : Nat → Value) (i j : Nat) : z j = upto2 D z 0 i j := by unfold upto2; rw [if_neg (Nat.not_lt_zero i)]
theorem upto2_lt (D : Nat → Nat → Value) (z : Nat → Value) {k i : Nat} (h : i < k) (j : Nat) : upto2 D z k i j = D i j := if_pos h
theorem upto2_ge (D : Nat → Nat → Value) (z : Nat → Value) {k i : Nat} (h : ¬ i < k) (j : Nat) : upto2 D z k i j = z j := if_neg h
end
end Go.Proofs.Ytfcpjckecjjmjaa.Tab
