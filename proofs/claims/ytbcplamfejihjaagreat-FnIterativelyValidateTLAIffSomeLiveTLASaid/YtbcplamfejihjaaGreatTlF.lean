/- A family of slices of wide structs, each in a block of its own, their headers in one block. Plain. -/
import Derived.Test.YtbcplamfejihjaaGreatTlD
import Derived.Maps.AppendAt
namespace Go.Proofs.YtbcplamfejihjaaGreat.TlF
open Go.RowKit Mem Sl Args Fvs TlA TlP TlD
set_option linter.unusedVariables false
def rcs (L : List (Int × Int)) : List Value := L.flatMap fun p => REC p.1 p.2
theorem rcs_length (L : List (Int × Int)) : (rcs L).length = L.length * 15 := by
  induction L with
  | nil => rfl
  | cons a t ih =>
    have : rcs (a :: t) = REC a.1 a.2 ++ rcs t := by simp [rcs]
    rw [this, List.length_append, ih, List.length_cons]
    show 15 + _ = _
    omega
theorem rcs_append (L : List (Int × Int)) (x k : Int) : rcs (L ++ [(x, k)]) = rcs L ++ REC x k := by simp [rcs]
theorem rcs_at : ∀ (L : List (Int × Int)) (j : Nat) (x k : Int), L[j]? = some (x, k) → ∀ c v, (REC x k)[c]? = some v → (rcs L)[j * 15 + c]? = some v
  | [], j, x, k, h, _, _, _ => by simp at h
  | a :: t, 0, x, k, h, c, v, hv => by
    simp at h
    subst h
    have : rcs ((x, k) :: t) = REC x k ++ rcs t := by simp [rcs]
    rw [this, Nat.zero_mul, Nat.zero_add, List.getElem?_append_left (List.getElem?_eq_some_iff.1 hv).1]
    exact hv
  | a :: t, j + 1, x, k, h, c, v, hv => by
    have ih := rcs_at t j x k (by simpa using h) c v hv
    have : rcs (a :: t) = REC a.1 a.2 ++ rcs t := by simp [rcs]
    have hl : (REC a.1 a.2).length = 15 := rfl
    rw [this, List.getElem?_append_right (by rw [hl]; omega), hl, show (j + 1) * 15 + c - 15 = j * 15 + c by omega]
    exact ih
/-- The headers of n slices of records in block rb; each slice is nil or in a block of its own from B on. -/
structure Fam (w : World) (B E rb n : Nat) (V : Nat → Value) (L : Nat → List (Int × Int)) : Prop where
  fv : Fv w rb n V
  own : ∀ i, i < n → w.ownsRow B E 15 (V i) (L i).length (rcs (L i))
  ne : ∀ i, i < n → (V i).ownBlock ≠ some rb
  dj : ∀ i j, i < n → j < n → i ≠ j → (V i).ownBlock = none ∨ (V i).ownBlock ≠ (V j).ownBlock
section
variable {w w' : World} {B E rb n : Nat} {V : Nat → Value} {L : Nat → List (Int × Int)}
theorem own_below {C : Nat} {v : Value} {k : Nat} {xs : List Value} (h : w.ownsRow B E 15 v k xs) (hb : Below C w w') (hC : w.heap.size ≤ C) : w'.ownsRow B E 15 v k xs := by
  refine ⟨h.1, ?_⟩
  rcases h.2 with h' | ⟨g, cap, cur, h', r1, r2, r3⟩
  · exact .inl h'
  · exact .inr ⟨g, cap, cur, h', r1, (hb.block g (Nat.lt_of_lt_of_le (Array.getElem?_eq_some_iff.1 r2).1 hC)).trans r2, r3⟩
theorem Fam.later (h : Fam w B E rb n V L) (hb : Below w.heap.size w w') : Fam w' B E rb n V L :=
  ⟨h.fv.below hb h.fv.lt, fun i hi => own_below (h.own i hi) hb (Nat.le_refl _), h.ne, h.dj⟩
theorem Fam.form (h : Fam w B E rb n V L) {i : Nat} (hi : i < n) : ∃ A c, V i = .slice A (L i).length c := by
  rcases (h.own i hi).2 with ⟨e, h0⟩ | ⟨g, cap, cur, e, _⟩
  · exact ⟨none, 0, by rw [e, h0]⟩
  · exact ⟨_, _, e⟩
theorem fv_grown {row : Option Nat} (h : Fv w rb n V) (hg : w.grownBy w' row) (hne : some rb ≠ row) : Fv w' rb n V := by
  have hb := hg.block rb h.lt hne
  refine ⟨Nat.lt_of_lt_of_le h.lt hg.size, fun i hi => ?_, fun o => ?_⟩
  · rw [← h.cell i hi]; simp [World.cell?, hb]
  · rw [← h.frozen o]; simp [World.frozen?, hb]
theorem own_set {p : Addr} {v : Value} {k : Nat} {xs : List Value} (h : w.ownsRow B E 15 v k xs) (hne : v.ownBlock ≠ some p.block) (u : Value) : (w.setCell p u).ownsRow B E 15 v k xs :=
  World.ownsRow.kept (row := some p.block) h ⟨rfl, rfl, rfl, by simp, fun k _ hk => Below.heap_setCell w p u k (fun e => hk (by simp [e]))⟩ (.inr hne)
/-- A record is appended to the f-th slice. -/
theorem Fam.push (h : Fam w B E rb n V L) {f : Nat} (hf : f < n) {x k : Int} {v' : Value} (hown : w'.ownsRow B E 15 v' ((L f).length + 1) (rcs (L f) ++ REC x k)) (hg : w.grownBy w' (V f).ownBlock) (hat : v'.ownBlock = (V f).ownBlock ∨ v'.ownBlock = some w.heap.size) :
    Fam (w'.setCell ⟨rb, f, none⟩ v') B E rb n (up V f v') (up L f (L f ++ [(x, k)])) := by
  have hv : v'.ownBlock ≠ some rb := by
    rcases hat with e | e
    · rw [e]; exact h.ne f hf
    · rw [e]; intro e; injection e with e; have := h.fv.lt; omega
  have hlt : ∀ i, i < n → ∀ g, (V i).ownBlock = some g → g < w.heap.size := fun i hi g hg => ((h.own i hi).lt g hg).2
  refine ⟨(fv_grown h.fv hg (fun e => h.ne f hf e.symm)).set hf v', fun i hi => ?_, fun i hi => ?_, fun i j hi hj hij => ?_⟩
  · by_cases e : i = f
    · subst e
      rw [up_self, up_self, rcs_append, List.length_append]
      exact own_set hown hv v'
    · rw [up_ne _ _ e, up_ne _ _ e]
      exact own_set ((h.own i hi).kept hg (h.dj i f hi hf e)) (h.ne i hi) v'
  · by_cases e : i = f
    · subst e; rw [up_self]; exact hv
    · rw [up_ne _ _ e]; exact h.ne i hi
  · by_cases e : i = f
    · subst e
      rw [up_self, up_ne _ _ (Ne.symm hij)]
      rcases hat with e | e
      · rw [e]; exact h.dj i j hi hj hij
      · rw [e]
        exact .inr (fun e' => by have := hlt j hj _ e'.symm; omega)
    · rw [up_ne _ _ e]
      by_cases e2 : j = f
      · subst e2
        rw [up_self]
        rcases hat with e3 | e3
        · rw [e3]; exact h.dj i j hi hj hij
        · rw [e3]
          cases hv : (V i).ownBlock with
          | none => exact .inl rfl
          | some g => exact .inr (fun e' => by injection e' with e'; have := hlt i hi g hv; omega)
      · rw [up_ne _ _ e2]; exact h.dj i j hi hj hij
theorem fam_made (w : World) (B E t n : Nat) : Fam (w.alloc (.cells (madeCells #[.slice none 0 0] n) t)) B E w.heap.size n (fun _ => .slice none 0 0) (fun _ => []) :=
  ⟨fv_made w t _ n, fun i _ => World.ownsRow_nil _ B E 15, fun i _ => by simp [Value.ownBlock], fun i j _ _ _ => .inl rfl⟩
/-- A record of a slice, read. -/
theorem Fam.rec_ (h : Fam w B E rb n V L) {i : Nat} (hi : i < n) {j : Nat} (hj : j < (L i).length) : ∃ b c0, V i = .slice (some ⟨b, 0, none⟩) (L i).length c0 ∧ B ≤ b ∧ b < w.heap.size ∧ ∀ c v, (REC (L i)[j].1 (L i)[j].2)[c]? = some v → w.cell? ⟨b, 0 + j * 15 + c, none⟩ = some v := by
  have ho := h.own i hi
  rcases ho.2 with ⟨e, h0⟩ | ⟨g, cap, cur, e, r1, r2, _⟩
  · omega
  · refine ⟨g, cap, e, r1, (Array.getElem?_eq_some_iff.1 r2).1, fun c v hv => ?_⟩
    have h2 := ho.cells (g := g) (by rw [e]; rfl) (j * 15 + c) v (rcs_at (L i) j _ _ (by simp [hj]) c v hv)
    have hadd : (⟨g, 0, none⟩ : Addr).add (j * 15 + c) = ⟨g, j * 15 + c, none⟩ := by unfold Addr.add; split <;> simp_all
    rw [hadd] at h2
    rw [Nat.zero_add]
    exact h2
end
end Go.Proofs.YtbcplamfejihjaaGreat.TlF
