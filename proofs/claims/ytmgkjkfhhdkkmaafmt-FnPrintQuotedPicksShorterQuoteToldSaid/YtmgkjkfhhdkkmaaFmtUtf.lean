/- Plain facts on the decoding of UTF-8 by the model, and on counting bytes. -/
import Derived.WalkKit
import Derived.Laws.RangeString
import Derived.Laws.RangeAny
namespace Go.Proofs.YtmgkjkfhhdkkmaaFmt.Utf

theorem get_at' (s : ByteArray) (i : Nat) (h : i < s.size) : s.get! i = s[i] := by
  simp [ByteArray.get!, getElem!_pos, h]
  rfl

/-- A rune of more than 127: its bytes are all high, and lie inside the text. -/
theorem dec_span (s : ByteArray) (pos : Nat) (h : pos < s.size) (ha : 128 ≤ (s[pos]'h).toNat) :
    1 ≤ (Utf8.decode s pos).2 ∧ pos + (Utf8.decode s pos).2 ≤ s.size ∧ ∀ j, j < (Utf8.decode s pos).2 → 128 ≤ (s.get! (pos + j)).toNat := by
  have hb0 : (s.get! (pos + 0)).toNat = (s[pos]'h).toNat := by rw [Nat.add_zero, get_at' s pos h]
  have hn : ¬ (s.get! (pos + 0)).toNat < 128 := by omega
  simp only [Utf8.decode]
  rw [if_neg hn]
  have hz : 128 ≤ (s.get! (pos + 0)).toNat := by omega
  have one : 1 ≤ 1 ∧ pos + 1 ≤ s.size ∧ ∀ j, j < 1 → 128 ≤ (s.get! (pos + j)).toNat := ⟨Nat.le_refl _, h, fun j hj => (by cases j with | zero => exact hz | succ j => omega)⟩
  split
  · rename_i h1
    simp only [Bool.and_eq_true, beq_iff_eq, decide_eq_true_eq] at h1
    split
    · refine ⟨by omega, by omega, fun j hj => ?_⟩
      rcases (by omega : j = 0 ∨ j = 1) with rfl | rfl
      · exact hz
      · omega
    · exact one
  · split
    · rename_i h1
      simp only [Bool.and_eq_true, beq_iff_eq, decide_eq_true_eq] at h1
      split
      · refine ⟨by omega, by omega, fun j hj => ?_⟩
        rcases (by omega : j = 0 ∨ j = 1 ∨ j = 2) with rfl | rfl | rfl
        · exact hz
        · omega
        · omega
      · exact one
    · split
      · rename_i h1
        simp only [Bool.and_eq_true, beq_iff_eq, decide_eq_true_eq] at h1
        split
        · refine ⟨by omega, by omega, fun j hj => ?_⟩
          rcases (by omega : j = 0 ∨ j = 1 ∨ j = 2 ∨ j = 3) with rfl | rfl | rfl | rfl
          · exact hz
          · omega
          · omega
          · omega
        · exact one
      · exact one

/-- How many of the first k bytes satisfy f. -/
def cnt (f : Nat → Bool) (s : ByteArray) : Nat → Nat
  | 0 => 0
  | k + 1 => cnt f s k + if f (s.get! k).toNat then 1 else 0
theorem cnt_le (f : Nat → Bool) (s : ByteArray) : ∀ k, cnt f s k ≤ k
  | 0 => Nat.le_refl _
  | k + 1 => by have := cnt_le f s k; simp only [cnt]; split <;> omega
theorem cnt_skip (f : Nat → Bool) (s : ByteArray) (pos : Nat) : ∀ m, (∀ j, j < m → f (s.get! (pos + j)).toNat = false) → cnt f s (pos + m) = cnt f s pos
  | 0, _ => rfl
  | m + 1, h => by
    rw [← Nat.add_assoc, cnt, cnt_skip f s pos m (fun j hj => h j (by omega)), h m (by omega)]; simp
theorem cnt_congr (f g : Nat → Bool) (s t : ByteArray) (h : ∀ i, f (s.get! i).toNat = g (t.get! i).toNat) : ∀ k, cnt f s k = cnt g t k
  | 0 => rfl
  | k + 1 => by rw [cnt, cnt, cnt_congr f g s t h k, h k]
theorem cnt_congr_lt (f g : Nat → Bool) (s t : ByteArray) : ∀ k, (∀ i, i < k → f (s.get! i).toNat = g (t.get! i).toNat) → cnt f s k = cnt g t k
  | 0, _ => rfl
  | k + 1, h => by rw [cnt, cnt, cnt_congr_lt f g s t k (fun i hi => h i (by omega)), h k (by omega)]
end Go.Proofs.YtmgkjkfhhdkkmaaFmt.Utf
