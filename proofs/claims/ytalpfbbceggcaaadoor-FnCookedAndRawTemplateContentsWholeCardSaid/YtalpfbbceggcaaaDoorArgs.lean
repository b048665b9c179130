/- What the walks are told of arguments that are slices: nil, or a row of cells below the heap's size. -/
import Derived.WalkKit
import Derived.ProofKit
import Derived.OpenShut
import Derived.Deep.Grids
import Derived.SliceStrings
namespace Go.Proofs.YtalpfbbceggcaaaDoor.Args
open Go.ChangeShapes Go.WideShapes Go.ChangeAt Go.RowKit Go.Deep

/-- A slice of integers of kind k: its n elements are zs; a cell each, in one block that was there. -/
def IsInts (k : IntKind) (w : World) (A : Option Addr) (n c : Nat) (zs : List Int) : Prop :=
  n ≤ c ∧ c ≤ maxLen ∧ zs.length = n ∧ (∀ z ∈ zs, (Lit.int k z).wf = true) ∧ (A = none → c = 0) ∧ (0 < c → ∃ b off, A = some ⟨b, off, none⟩ ∧ b < w.heap.size ∧ ∀ i, i < n → w.cell? ⟨b, off + i, none⟩ = some (.int k (zs.getD i 0)))

def IsBools (w : World) (A : Option Addr) (n c : Nat) (zs : List Bool) : Prop :=
  n ≤ c ∧ c ≤ maxLen ∧ zs.length = n ∧ (A = none → c = 0) ∧ (0 < c → ∃ b off, A = some ⟨b, off, none⟩ ∧ b < w.heap.size ∧ ∀ i, i < n → w.cell? ⟨b, off + i, none⟩ = some (.bool (zs.getD i false)))

def IsStrs (w : World) (A : Option Addr) (n c : Nat) (zs : List ByteArray) : Prop :=
  n ≤ c ∧ c ≤ maxLen ∧ zs.length = n ∧ (∀ z ∈ zs, z.size ≤ maxLen) ∧ (A = none → c = 0) ∧ (0 < c → ∃ b off, A = some ⟨b, off, none⟩ ∧ b < w.heap.size ∧ ∀ i, i < n → w.cell? ⟨b, off + i, none⟩ = some (.string (zs.getD i ByteArray.empty)))

theorem cell_lt {w : World} {a : Addr} {v : Value} (h : w.cell? a = some v) : a.block < w.heap.size := by
  rcases Nat.lt_or_ge a.block w.heap.size with hlt | hge
  · exact hlt
  · unfold World.cell? at h
    rw [Array.getElem?_eq_none hge] at h
    split at h <;> simp_all

section
variable {H : Type} {enc : TypeId × Value → H} {P : Program} {w : World}

theorem open_ints_args {r : Reach} {b0 : Nat} {t e : TypeId} {k : IntKind} {v : Value} {d : DataW H} {ps : List MemPlace} (ht : P.underlying t = some (.slice e)) (he : P.underlying e = some (.int k)) (hc : P.cellsOf e = 1)
    (hval : Value.okWide P w r b0 t v) (h : DataW.Trod enc P w 0 (fun _ => true) true t v d ps) :
    ∃ A n c zs, v = .slice A n c ∧ IsInts k w A n c zs := by
  obtain ⟨A, n, c, rfl⟩ := okWide_slice ht hval
  obtain ⟨fuel, hf⟩ := h
  rcases open_ints ht he hc hf with ⟨hcs, _⟩ | ⟨x, l, cp, zs, hcs, _, hl, hm, hz, _, hcell, hwz⟩
  · simp [Value.cells] at hcs
    obtain ⟨rfl, rfl, rfl⟩ := hcs
    exact ⟨none, 0, 0, [], rfl, Nat.le_refl _, Nat.zero_le _, rfl, by simp, fun _ => rfl, fun h => absurd h (by omega)⟩
  · simp [Value.cells] at hcs
    obtain ⟨rfl, rfl, rfl⟩ := hcs
    have hz' : zs.length = c := by simpa using hz
    refine ⟨some x, n, c, zs.take n, rfl, hl, hm, by simp; omega, fun z hzm => hwz z (List.mem_of_mem_take hzm), fun h => by simp at h, fun hpos => ?_⟩
    obtain ⟨b, off, spot⟩ := x
    have h0 := hcell 0 (by omega)
    have hspot : spot = none := by simpa [Addr.add] using World.cell?_spot h0
    subst hspot
    refine ⟨b, off, rfl, by simpa [Addr.add] using cell_lt h0, fun i hi => ?_⟩
    have hi' := hcell i (by omega)
    have hadd : (⟨b, off, none⟩ : Addr).add i = ⟨b, off + i, none⟩ := by
      unfold Addr.add; split <;> simp_all
    rw [hadd] at hi'
    rw [hi']
    simp [hi]

theorem open_bools_args {r : Reach} {b0 : Nat} {t e : TypeId} {v : Value} {d : DataW H} {ps : List MemPlace} (ht : P.underlying t = some (.slice e)) (he : P.underlying e = some .bool) (hc : P.cellsOf e = 1)
    (hval : Value.okWide P w r b0 t v) (h : DataW.Trod enc P w 0 (fun _ => true) true t v d ps) :
    ∃ A n c zs, v = .slice A n c ∧ IsBools w A n c zs := by
  obtain ⟨A, n, c, rfl⟩ := okWide_slice ht hval
  obtain ⟨fuel, hf⟩ := h
  rcases open_bools ht he hc hf with ⟨hcs, _⟩ | ⟨x, l, cp, B, hcs, _, hl, hm, _, hcell⟩
  · simp [Value.cells] at hcs
    obtain ⟨rfl, rfl, rfl⟩ := hcs
    exact ⟨none, 0, 0, [], rfl, Nat.le_refl _, Nat.zero_le _, rfl, fun _ => rfl, fun h => absurd h (by omega)⟩
  · simp [Value.cells] at hcs
    obtain ⟨rfl, rfl, rfl⟩ := hcs
    refine ⟨some x, n, c, (List.range n).map B, rfl, hl, hm, by simp, fun h => by simp at h, fun hpos => ?_⟩
    obtain ⟨b, off, spot⟩ := x
    have h0 := hcell 0 (by omega)
    have hspot : spot = none := by simpa [Addr.add] using World.cell?_spot h0
    subst hspot
    refine ⟨b, off, rfl, by simpa [Addr.add] using cell_lt h0, fun i hi => ?_⟩
    have hi' := hcell i (by omega)
    have hadd : (⟨b, off, none⟩ : Addr).add i = ⟨b, off + i, none⟩ := by
      unfold Addr.add; split <;> simp_all
    rw [hadd] at hi'
    rw [hi']
    simp [hi]

theorem open_strs_args {r : Reach} {b0 : Nat} {t e : TypeId} {v : Value} {d : DataW H} {ps : List MemPlace} (ht : P.underlying t = some (.slice e)) (he : P.underlying e = some .string) (hc : P.cellsOf e = 1)
    (hval : Value.okWide P w r b0 t v) (h : DataW.Trod enc P w 0 (fun _ => true) true t v d ps) :
    ∃ A n c zs, v = .slice A n c ∧ IsStrs w A n c zs := by
  obtain ⟨A, n, c, rfl⟩ := okWide_slice ht hval
  obtain ⟨fuel, hf⟩ := h
  rcases open_strings ht he hc hf with ⟨hcs, _⟩ | ⟨x, l, cp, zs, hcs, _, hl, hm, hz, _, hcell, hwz⟩
  · simp [Value.cells] at hcs
    obtain ⟨rfl, rfl, rfl⟩ := hcs
    exact ⟨none, 0, 0, [], rfl, Nat.le_refl _, Nat.zero_le _, rfl, by simp, fun _ => rfl, fun h => absurd h (by omega)⟩
  · simp [Value.cells] at hcs
    obtain ⟨rfl, rfl, rfl⟩ := hcs
    have hz' : zs.length = c := by simpa using hz
    refine ⟨some x, n, c, zs.take n, rfl, hl, hm, by simp; omega, fun z hzm => hwz z (List.mem_of_mem_take hzm), fun h => by simp at h, fun hpos => ?_⟩
    obtain ⟨b, off, spot⟩ := x
    have h0 := hcell 0 (by omega)
    have hspot : spot = none := by simpa [Addr.add] using World.cell?_spot h0
    subst hspot
    refine ⟨b, off, rfl, by simpa [Addr.add] using cell_lt h0, fun i hi => ?_⟩
    have hi' := hcell i (by omega)
    have hadd : (⟨b, off, none⟩ : Addr).add i = ⟨b, off + i, none⟩ := by
      unfold Addr.add; split <;> simp_all
    rw [hadd] at hi'
    rw [hi']
    simp [hi]
end
end Go.Proofs.YtalpfbbceggcaaaDoor.Args
