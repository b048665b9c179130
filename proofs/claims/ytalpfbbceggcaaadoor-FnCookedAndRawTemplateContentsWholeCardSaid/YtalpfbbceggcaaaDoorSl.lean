/- Slices of integers that are read: how they are kept over later worlds; what a clone of one is. Plain lemmas. -/
import Derived.Test.YtalpfbbceggcaaaDoorArgs
import Derived.Test.YtalpfbbceggcaaaDoorMem
namespace Go.Proofs.YtalpfbbceggcaaaDoor.Sl
open Go.RowKit Mem Args

section
variable {k : IntKind} {w w' : World} {A : Option Addr} {n c : Nat} {zs : List Int}
theorem _root_.Go.Proofs.YtalpfbbceggcaaaDoor.Args.IsInts.read (h : IsInts k w A n c zs) (i : Nat) (hi : i < n) : ∃ b off, A = some ⟨b, off, none⟩ ∧ b < w.heap.size ∧ w.cell? ⟨b, off + i, none⟩ = some (.int k (zs.getD i 0)) := by
  obtain ⟨h1, h2, h3, h4, h5, h6⟩ := h
  obtain ⟨b, off, ha, hb, hc⟩ := h6 (by omega)
  exact ⟨b, off, ha, hb, hc i hi⟩
theorem _root_.Go.Proofs.YtalpfbbceggcaaaDoor.Args.IsInts.later (h : IsInts k w A n c zs) (hb : Below w.heap.size w w') : IsInts k w' A n c zs := by
  obtain ⟨h1, h2, h3, h4, h5, h6⟩ := h
  refine ⟨h1, h2, h3, h4, h5, fun hp => ?_⟩
  obtain ⟨b, off, ha, hlt, hc⟩ := h6 hp
  exact ⟨b, off, ha, Nat.lt_of_lt_of_le hlt hb.size, fun i hi => (hb.cell (p := ⟨b, off + i, none⟩) hlt).trans (hc i hi)⟩
theorem _root_.Go.Proofs.YtalpfbbceggcaaaDoor.Args.IsInts.wf_at (h : IsInts k w A n c zs) (i : Nat) (hi : i < n) : (Lit.int k (zs.getD i 0)).wf = true := by
  obtain ⟨h1, h2, h3, h4, h5, h6⟩ := h
  have hl : i < zs.length := by omega
  rw [getD_at zs i hl]
  exact h4 _ (List.getElem_mem hl)
theorem ints_of_row {g : Nat} {t : TypeId} (h : Row w g t (iv k zs)) (hm : zs.length ≤ maxLen) (hwf : ∀ z ∈ zs, (Lit.int k z).wf = true) : IsInts k w (some ⟨g, 0, none⟩) zs.length zs.length zs := by
  refine ⟨Nat.le_refl _, hm, rfl, hwf, fun h => (by cases h), fun _ => ⟨g, 0, rfl, h.lt, fun i hi => ?_⟩⟩
  rw [Nat.zero_add]
  exact h.at_ (iv_at k zs i hi)
end

/-- What a clone of a slice gives: nil for nil; else a new block, just behind the old heap, with the same numbers. -/
def Cloned (k : IntKind) (E : TypeId) (w : World) (A : Option Addr) (n : Nat) (zs : List Int) (e : Ending) (w' : World) : Prop :=
  ∃ v, e = .returned v ∧ ((A = none ∧ v = .slice none 0 0 ∧ w = w') ∨ (A ≠ none ∧ v = .slice (some ⟨w.heap.size, 0, none⟩) n n ∧ Row w' w.heap.size E (iv k zs) ∧ Below w.heap.size w w' ∧ w'.heap.size = w.heap.size + 1))
end Go.Proofs.YtalpfbbceggcaaaDoor.Sl
