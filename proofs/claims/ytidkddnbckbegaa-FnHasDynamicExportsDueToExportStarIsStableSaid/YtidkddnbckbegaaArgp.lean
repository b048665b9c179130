/- What the walks are told of an argument that is a slice of structs of an integer and a slice of integers. -/
import Derived.Test.YtidkddnbckbegaaArgs
import Derived.Deep.Matrix
import Derived.Deep.Slices
import Derived.Deep.SlicePairs
namespace Go.Proofs.Ytidkddnbckbegaa.Argp
open Go.ChangeShapes Go.WideShapes Go.ChangeAt Go.RowKit Go.Deep Args
/-- n structs; the i-th holds K i and the integers Z i. -/
structure IsPairs (k k2 : IntKind) (w : World) (A : Option Addr) (n c : Nat) (K : Nat → Int) (Ar : Nat → Option Addr) (L C : Nat → Nat) (Z : Nat → List Int) : Prop where
  le : n ≤ c
  cm : c ≤ maxLen
  nil : A = none → c = 0
  cell : ∀ i, i < n → ∃ b off, A = some ⟨b, off, none⟩ ∧ b < w.heap.size ∧ w.cell? ⟨b, off + i * 2, none⟩ = some (.int k (K i)) ∧ w.cell? ⟨b, off + (i * 2 + 1), none⟩ = some (.slice (Ar i) (L i) (C i))
  wf : ∀ i, i < n → (Lit.int k (K i)).wf = true
  row : ∀ i, i < n → IsInts k2 w (Ar i) (L i) (C i) (Z i)
section
variable {H : Type} {enc : TypeId × Value → H} {P : Program} {w : World}
theorem add_at (b off i : Nat) : (⟨b, off, none⟩ : Addr).add i = ⟨b, off + i, none⟩ := by unfold Addr.add; split <;> simp_all
theorem ints_of_trod {q e : TypeId} {k : IntKind} {n : Nat} {v : Value} {y : DataW H × List MemPlace} (ht : P.underlying q = some (.slice e)) (he : P.underlying e = some (.int k)) (hc : P.cellsOf e = 1)
    (h : DataW.trod enc P w 0 (fun _ => true) true n q [v] = some y) : ∃ A n c zs, v = .slice A n c ∧ IsInts k w A n c zs := by
  rcases open_ints ht he hc h with ⟨hcs, _⟩ | ⟨x, l, cp, zs, hcs, _, hl, hm, hz, _, hcell, hwz⟩
  · simp at hcs
    exact ⟨none, 0, 0, [], hcs, Nat.le_refl _, Nat.zero_le _, rfl, by simp, fun _ => rfl, fun h => absurd h (by omega)⟩
  · simp at hcs
    have hz' : zs.length = cp := by simpa using hz
    refine ⟨some x, l, cp, zs.take l, hcs, hl, hm, by simp; omega, fun z hzm => hwz z (List.mem_of_mem_take hzm), fun h => by simp at h, fun hpos => ?_⟩
    obtain ⟨b, off, spot⟩ := x
    have h0 := hcell 0 (by omega)
    have hspot : spot = none := by simpa [Addr.add] using World.cell?_spot h0
    subst hspot
    refine ⟨b, off, rfl, by simpa [Addr.add] using cell_lt h0, fun i hi => ?_⟩
    have hi' := hcell i (by omega)
    rw [add_at] at hi'
    rw [hi']
    simp [hi]
theorem open_pairs_args {r : Reach} {b0 : Nat} {t e e2 : TypeId} {f0 f1 : Field} {k k2 : IntKind} {v : Value} {d : DataW H} {ps : List MemPlace} (ht : P.underlying t = some (.slice e)) (he : P.underlying e = some (.struct #[f0, f1]))
    (ce : P.cellsOf e = 2) (o0 : f0.offset = 0) (o1 : f1.offset = 1) (c0 : P.cellsOf f0.type = 1) (c1 : P.cellsOf f1.type = 1) (hk : P.underlying f0.type = some (.int k)) (h2 : P.underlying f1.type = some (.slice e2)) (hk2 : P.underlying e2 = some (.int k2)) (ce2 : P.cellsOf e2 = 1)
    (hval : Value.okWide P w r b0 t v) (h : DataW.Trod enc P w 0 (fun _ => true) true t v d ps) :
    ∃ A n c K Ar L C Z, v = .slice A n c ∧ IsPairs k k2 w A n c K Ar L C Z := by
  obtain ⟨A, n, c, rfl⟩ := okWide_slice ht hval
  obtain ⟨fuel, hf⟩ := h
  rcases open_slice_pairs ht he ce o0 o1 c0 c1 hf with ⟨hcs, _⟩ | ⟨x, l, cp, m, q, V0, V1, D0, D1, P0, P1, hcs, _, hl, hm, hmm, _, hx⟩
  · simp [Value.cells] at hcs
    obtain ⟨rfl, rfl, rfl⟩ := hcs
    exact ⟨none, 0, 0, fun _ => 0, fun _ => none, fun _ => 0, fun _ => 0, fun _ => [], rfl, Nat.le_refl _, Nat.zero_le _, fun _ => rfl, fun i hi => absurd hi (Nat.not_lt_zero i), fun i hi => absurd hi (Nat.not_lt_zero i), fun i hi => absurd hi (Nat.not_lt_zero i)⟩
  · simp [Value.cells] at hcs
    obtain ⟨rfl, rfl, rfl⟩ := hcs
    simp only [if_true] at hmm
    subst hmm
    have each : ∀ i, i < m → ∃ y : Int × (Option Addr) × Nat × Nat × List Int, V0 i = .int k y.1 ∧ (Lit.int k y.1).wf = true ∧ V1 i = .slice y.2.1 y.2.2.1 y.2.2.2.1 ∧ IsInts k2 w y.2.1 y.2.2.1 y.2.2.2.1 y.2.2.2.2 := fun i hi => by
      obtain ⟨_, _, h3, h4⟩ := hx i hi
      obtain ⟨z, h5, _, h6⟩ := DataW.trod_int hk h3
      obtain ⟨A', n', c', zs, h7, h8⟩ := ints_of_trod h2 hk2 ce2 h4
      exact ⟨(z, A', n', c', zs), by simpa using h5, h6, h7, h8⟩
    obtain ⟨Y, hY⟩ := choose_lt each
    refine ⟨some x, n, m, fun i => (Y i).1, fun i => (Y i).2.1, fun i => (Y i).2.2.1, fun i => (Y i).2.2.2.1, fun i => (Y i).2.2.2.2, rfl, hl, hm, (fun h => by cases h), fun i hi => ?_, fun i hi => (hY i (by omega)).2.1, fun i hi => (hY i (by omega)).2.2.2⟩
    obtain ⟨b, off, spot⟩ := x
    have h00 := (hx 0 (by omega)).1
    have hspot : spot = none := by simpa [Addr.add] using World.cell?_spot h00
    subst hspot
    obtain ⟨g0, g1, _, _⟩ := hx i (by omega)
    rw [add_at, (hY i (by omega)).1] at g0
    rw [add_at, (hY i (by omega)).2.2.1] at g1
    exact ⟨b, off, rfl, cell_lt g0, g0, g1⟩
end
end Go.Proofs.Ytidkddnbckbegaa.Argp
