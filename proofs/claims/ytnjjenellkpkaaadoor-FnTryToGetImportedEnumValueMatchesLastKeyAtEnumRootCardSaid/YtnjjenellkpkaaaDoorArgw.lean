/- What the walks are told of arguments that are slices of floats, or slices of slices of integers. -/
import Derived.Test.YtnjjenellkpkaaaDoorArgs
import Derived.Deep.Matrix
import Derived.Deep.Slices
namespace Go.Proofs.YtnjjenellkpkaaaDoor.Argw
open Go.ChangeShapes Go.WideShapes Go.ChangeAt Go.RowKit Go.Deep Args
def IsFloats (k : FloatKind) (w : World) (A : Option Addr) (n c : Nat) (zs : List Nat) : Prop :=
  n ≤ c ∧ c ≤ maxLen ∧ zs.length = n ∧ (∀ z ∈ zs, (Lit.float k z).wf = true) ∧ (A = none → c = 0) ∧ (0 < c → ∃ b off, A = some ⟨b, off, none⟩ ∧ b < w.heap.size ∧ ∀ i, i < n → w.cell? ⟨b, off + i, none⟩ = some (.float k (zs.getD i 0)))
structure IsRows (k : IntKind) (w : World) (A : Option Addr) (n c : Nat) (Ar : Nat → Option Addr) (L C : Nat → Nat) (Z : Nat → List Int) : Prop where
  le : n ≤ c
  cm : c ≤ maxLen
  nil : A = none → c = 0
  cell : ∀ i, i < n → ∃ b off, A = some ⟨b, off, none⟩ ∧ b < w.heap.size ∧ w.cell? ⟨b, off + i, none⟩ = some (.slice (Ar i) (L i) (C i))
  row : ∀ i, i < n → IsInts k w (Ar i) (L i) (C i) (Z i)
section
variable {H : Type} {enc : TypeId × Value → H} {P : Program} {w : World}
theorem add_at (b off i : Nat) : (⟨b, off, none⟩ : Addr).add i = ⟨b, off + i, none⟩ := by unfold Addr.add; split <;> simp_all
theorem trod_float {k : FloatKind} {t : TypeId} {base : Nat} {spare : Nat → Bool} {held : Bool} {fuel : Nat} {cs : List Value} {x : DataW H × List MemPlace} (ht : P.underlying t = some (.float k)) (h : DataW.trod enc P w base spare held fuel t cs = some x) :
    ∃ n, cs = [.float k n] ∧ x = (.lit (.float k n), []) ∧ (Lit.float k n).wf = true := by
  cases fuel with
  | zero => simp [DataW.trod] at h
  | succ n =>
    unfold DataW.trod at h
    rw [ht] at h
    split at h <;> simp_all
theorem open_floats_args {r : Reach} {b0 : Nat} {t e : TypeId} {k : FloatKind} {v : Value} {d : DataW H} {ps : List MemPlace} (ht : P.underlying t = some (.slice e)) (he : P.underlying e = some (.float k)) (hc : P.cellsOf e = 1)
    (hval : Value.okWide P w r b0 t v) (h : DataW.Trod enc P w 0 (fun _ => true) true t v d ps) :
    ∃ A n c zs, v = .slice A n c ∧ IsFloats k w A n c zs := by
  obtain ⟨A, n, c, rfl⟩ := okWide_slice ht hval
  obtain ⟨fuel, hf⟩ := h
  rcases open_slice1 ht hc hf with ⟨hcs, _⟩ | ⟨x, l, cp, m, q, V, D, Pl, hcs, _, hl, hm, hmm, _, hx⟩
  · simp [Value.cells] at hcs
    obtain ⟨rfl, rfl, rfl⟩ := hcs
    exact ⟨none, 0, 0, [], rfl, Nat.le_refl _, Nat.zero_le _, rfl, by simp, fun _ => rfl, fun h => absurd h (by omega)⟩
  · simp [Value.cells] at hcs
    obtain ⟨rfl, rfl, rfl⟩ := hcs
    simp only [if_true] at hmm
    subst hmm
    have each : ∀ i, i < m → ∃ z, V i = .float k z ∧ (Lit.float k z).wf = true := fun i hi => by
      obtain ⟨z, h1, _, h3⟩ := trod_float he (hx i hi).2
      exact ⟨z, by simpa using h1, h3⟩
    obtain ⟨Z, hZ⟩ := choose_lt each
    refine ⟨some x, n, m, (List.range n).map Z, rfl, hl, hm, by simp, fun z hz => ?_, fun h => by simp at h, fun hpos => ?_⟩
    · simp only [List.mem_map, List.mem_range] at hz
      obtain ⟨i, hi, rfl⟩ := hz
      exact (hZ i (by omega)).2
    · obtain ⟨b, off, spot⟩ := x
      have h0 := (hx 0 (by omega)).1
      have hspot : spot = none := by simpa [Addr.add] using World.cell?_spot h0
      subst hspot
      refine ⟨b, off, rfl, by simpa [Addr.add] using cell_lt h0, fun i hi => ?_⟩
      have hi' := (hx i (by omega)).1
      rw [add_at, (hZ i (by omega)).1] at hi'
      rw [hi']
      simp [hi]
theorem open_rows_args {r : Reach} {b0 : Nat} {t e q : TypeId} {k : IntKind} {v : Value} {d : DataW H} {ps : List MemPlace} (ht : P.underlying t = some (.slice e)) (he : P.underlying e = some (.slice q)) (hq : P.underlying q = some (.int k)) (ce : P.cellsOf e = 1) (cq : P.cellsOf q = 1)
    (hval : Value.okWide P w r b0 t v) (h : DataW.Trod enc P w 0 (fun _ => true) true t v d ps) :
    ∃ A n c Ar L C Z, v = .slice A n c ∧ IsRows k w A n c Ar L C Z := by
  obtain ⟨A, n, c, rfl⟩ := okWide_slice ht hval
  obtain ⟨fuel, hf⟩ := h
  rcases open_int_rows ht he hq ce cq hf with ⟨hcs, _⟩ | ⟨x, l, cp, Ar, L, C, Z, hcs, _, hl, hm, _, hx⟩
  · simp [Value.cells] at hcs
    obtain ⟨rfl, rfl, rfl⟩ := hcs
    exact ⟨none, 0, 0, fun _ => none, fun _ => 0, fun _ => 0, fun _ => [], rfl, Nat.le_refl _, Nat.zero_le _, fun _ => rfl, fun i hi => absurd hi (Nat.not_lt_zero i), fun i hi => absurd hi (Nat.not_lt_zero i)⟩
  · simp [Value.cells] at hcs
    obtain ⟨rfl, rfl, rfl⟩ := hcs
    refine ⟨some x, n, c, Ar, L, C, fun i => (Z i).take (L i), rfl, hl, hm, (fun h => by cases h), fun i hi => ?_, fun i hi => ?_⟩
    · obtain ⟨b, off, spot⟩ := x
      have h00 := (hx 0 (by omega)).1
      have hspot : spot = none := by simpa [Addr.add] using World.cell?_spot h00
      subst hspot
      have h0 := (hx i (by omega)).1
      rw [add_at] at h0
      exact ⟨b, off, rfl, cell_lt h0, h0⟩
    · obtain ⟨_, h1, h2, h3, h4, h5, h6⟩ := hx i (by omega)
      refine ⟨h1, h2, by simp; omega, fun z hz => h4 z (List.mem_of_mem_take hz), h5, fun hpos => ?_⟩
      cases ha : Ar i with
      | none => exact absurd (h5 ha) (by omega)
      | some a' =>
        obtain ⟨_, hc⟩ := h6 a' ha
        obtain ⟨b, off, spot⟩ := a'
        have h0 := hc 0 hpos
        have hspot : spot = none := by simpa [Addr.add] using World.cell?_spot h0
        subst hspot
        refine ⟨b, off, rfl, by simpa [Addr.add] using cell_lt h0, fun j hj => ?_⟩
        have hj' := hc j (by omega)
        rw [add_at] at hj'
        rw [hj']
        simp [List.getD, hj]
end
end Go.Proofs.YtnjjenellkpkaaaDoor.Argw
