/- Slices of structs of one-cell fields, opened wherever they lie. -/
import Derived.Test.YtpidbikdncgogaaArgs
import Derived.Deep.Slices
import Derived.Below
namespace Go.Proofs.Ytpidbikdncgogaa.Argn
open Go.ChangeShapes Go.WideShapes Go.ChangeAt Go.RowKit Go.Deep Args
/-- n structs of sz cells each: cell j of the i-th holds V i j. -/
def Sls (w : World) (A : Option Addr) (n sz : Nat) (V : Nat → Nat → Value) : Prop := ∀ i, i < n → ∃ b o, A = some ⟨b, o, none⟩ ∧ b < w.heap.size ∧ ∀ j, j < sz → w.cell? ⟨b, o + i * sz + j, none⟩ = some (V i j)
section
variable {H : Type} {enc : TypeId × Value → H} {P : Program} {w : World}
theorem add_at (b off i : Nat) : (⟨b, off, none⟩ : Addr).add i = ⟨b, off + i, none⟩ := by unfold Addr.add; split <;> simp_all
/-- What is read of a slice of structs. -/
structure Opened (enc : TypeId × Value → H) (P : Program) (w : World) (fs : Array Field) (A : Option Addr) (n c : Nat) (V : Nat → Nat → Value) (k : Nat) : Prop where
  le : n ≤ c
  cm : c ≤ maxLen
  nil : A = none → n = 0 ∧ c = 0
  cell : Sls w A n fs.size V
  sub : ∀ i, i < n → ∀ (j : Nat) f, fs[j]? = some f → ∃ y, DataW.trod enc P w 0 (fun _ => true) true k f.type [V i j] = some y
theorem open_structs {t e : TypeId} {fs : Array Field} {q : Nat} {v : Value} {y : DataW H × List MemPlace} (ht : P.underlying t = some (.slice e)) (he : P.underlying e = some (.struct fs)) (ce : P.cellsOf e = fs.size)
    (hof : ∀ (j : Nat) f, fs[j]? = some f → f.offset = j ∧ P.cellsOf f.type = 1) (hs : 0 < fs.size) (h : DataW.trod enc P w 0 (fun _ => true) true q t [v] = some y) :
    ∃ A n c V k, v = .slice A n c ∧ Opened enc P w fs A n c V k := by
  rcases open_slice ht h with ⟨hcs, _⟩ | ⟨x, l, cp, m, k, D, Pl, hcs, _, hl, hm, hmm, _, hx⟩
  · simp at hcs
    exact ⟨none, 0, 0, fun _ _ => undef, 0, hcs, Nat.le_refl _, Nat.zero_le _, fun _ => ⟨rfl, rfl⟩, fun i hi => absurd hi (Nat.not_lt_zero i), fun i hi => absurd hi (Nat.not_lt_zero i)⟩
  · simp at hcs
    simp only [if_true] at hmm
    subst hmm
    rw [ce] at hx
    have each : ∀ i, i < m → ∃ cs : List Value, cs.length = fs.size ∧ (∀ j, j < fs.size → w.cell? (x.add (i * fs.size + j)) = cs[j]?) ∧ ∀ (j : Nat) f, fs[j]? = some f → ∃ y, DataW.trod enc P w 0 (fun _ => true) true (k - 1) f.type [cs.getD j undef] = some y := fun i hi => by
      obtain ⟨cs, h1, h2⟩ := hx i hi
      obtain ⟨_, hlen, hcell⟩ := World.cells?_some h1
      obtain ⟨xs, k', hk, _, _, hxl, hf⟩ := DataW.trod_struct he h2
      obtain rfl : k' = k - 1 := by omega
      refine ⟨cs, hlen, fun j hj => ?_, fun j f hjf => ?_⟩
      · have := hcell j hj
        rw [add_add] at this
        exact this
      · obtain ⟨ho, hc⟩ := hof j f hjf
        have h3 := hf j f hjf
        have hj : j < fs.size := (Array.getElem?_eq_some_iff.1 hjf).1
        rw [ho, hc] at h3
        have h4 : (cs.drop j).take 1 = [cs.getD j undef] := by
          have hjl : j < cs.length := by omega
          rw [List.drop_eq_getElem_cons hjl]
          show [cs[j]] = _
          rw [List.getD, List.getElem?_eq_getElem hjl]
          rfl
        rw [h4, List.getElem?_eq_getElem (by omega)] at h3
        exact ⟨_, h3⟩
    obtain ⟨Y, hY⟩ := choose_lt each
    refine ⟨some x, l, m, fun i j => (Y i).getD j undef, k - 1, hcs, hl, hm, (fun h => by cases h), fun i hi => ?_, fun i hi j f hjf => (hY i (by omega)).2.2 j f hjf⟩
    obtain ⟨b, off, spot⟩ := x
    have get : ∀ j, j < fs.size → (Y i)[j]? = some ((Y i).getD j undef) := fun j hj => by
      have := (hY i (by omega)).1
      simp [List.getD, show j < (Y i).length by omega]
    have h00 := (hY 0 (by omega)).2.1 0 hs
    have l0 := (hY 0 (by omega)).1
    rw [List.getElem?_eq_getElem (show 0 < (Y 0).length by omega)] at h00
    have h0 := (hY i (by omega)).2.1 0 hs
    rw [get 0 hs] at h0
    have hspot : spot = none := by simpa [Addr.add] using World.cell?_spot h00
    subst hspot
    rw [add_at] at h0
    refine ⟨b, off, rfl, cell_lt h0, fun j hj => ?_⟩
    have h1 := (hY i (by omega)).2.1 j hj
    rw [get j hj, add_at, ← Nat.add_assoc] at h1
    exact h1
theorem open_structs_arg {r : Reach} {b0 : Nat} {t e : TypeId} {fs : Array Field} {v : Value} {d : DataW H} {ps : List MemPlace} (ht : P.underlying t = some (.slice e)) (he : P.underlying e = some (.struct fs)) (ce : P.cellsOf e = fs.size)
    (hof : ∀ (j : Nat) f, fs[j]? = some f → f.offset = j ∧ P.cellsOf f.type = 1) (hs : 0 < fs.size) (hval : Value.okWide P w r b0 t v) (h : DataW.Trod enc P w 0 (fun _ => true) true t v d ps) :
    ∃ A n c V k, v = .slice A n c ∧ Opened enc P w fs A n c V k := by
  obtain ⟨A, n, c, rfl⟩ := okWide_slice ht hval
  obtain ⟨fuel, hf⟩ := h
  exact open_structs ht he ce hof hs (by simpa [Value.cells] using hf)
/-- A slice of integers inside. -/
theorem open_ints_in {q e : TypeId} {k : IntKind} {n : Nat} {v : Value} {y : DataW H × List MemPlace} (ht : P.underlying q = some (.slice e)) (he : P.underlying e = some (.int k)) (hc : P.cellsOf e = 1)
    (h : DataW.trod enc P w 0 (fun _ => true) true n q [v] = some y) : ∃ A n c zs, v = .slice A n c ∧ IsInts k w A n c zs := by
  rcases open_ints ht he hc h with ⟨hcs, _⟩ | ⟨x, l, cp, zs, hcs, _, hl, hm, hz, _, hcell, hwz⟩
  · simp at hcs
    exact ⟨none, 0, 0, [], hcs, Nat.le_refl _, Nat.zero_le _, rfl, by simp, fun _ => rfl, fun h => absurd h (by omega)⟩
  · simp at hcs
    have hz' : zs.length = cp := by simpa using hz
    refine ⟨some x, l, cp, zs.take l, hcs, hl, hm, by simp; omega, fun z hzm => hwz z (List.mem_of_mem_take hzm), fun h => by simp at h, fun hpos => ?_⟩
    obtain ⟨b, off, spot⟩ := x
    have h0 := hcell 0 (by omega)
    have hspot : spot = none := by simpa [Addr.add] using World.cell?_spot h0
    subst hspot
    refine ⟨b, off, rfl, by simpa [Addr.add] using cell_lt h0, fun i hi => ?_⟩
    have hi' := hcell i (by omega)
    rw [add_at] at hi'
    rw [hi']
    simp [hi]
theorem open_bool_in {t : TypeId} {n : Nat} {v : Value} {y : DataW H × List MemPlace} (ht : P.underlying t = some .bool) (h : DataW.trod enc P w 0 (fun _ => true) true n t [v] = some y) : ∃ b, v = .bool b := by
  obtain ⟨b, h1, _⟩ := DataW.trod_bool ht h
  exact ⟨b, by simpa using h1⟩
theorem open_int_in {t : TypeId} {k : IntKind} {n : Nat} {v : Value} {y : DataW H × List MemPlace} (ht : P.underlying t = some (.int k)) (h : DataW.trod enc P w 0 (fun _ => true) true n t [v] = some y) : ∃ z, v = .int k z ∧ (Lit.int k z).wf = true := by
  obtain ⟨z, h1, _, h2⟩ := DataW.trod_int ht h
  exact ⟨z, by simpa using h1, h2⟩
end
theorem Sls.later {w w' : World} {A : Option Addr} {n sz : Nat} {V : Nat → Nat → Value} (h : Sls w A n sz V) (hb : Below w.heap.size w w') : Sls w' A n sz V := fun i hi => by
  obtain ⟨b, o, ha, hl, hc⟩ := h i hi
  exact ⟨b, o, ha, Nat.lt_of_lt_of_le hl hb.size, fun j hj => (hb.cell (p := ⟨b, o + i * sz + j, none⟩) hl).trans (hc j hj)⟩
end Go.Proofs.Ytpidbikdncgogaa.Argn
