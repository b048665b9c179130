/- What the model's decoding of UTF-8 gives, by the bytes. Plain. -/
import Derived.WalkKit
import Derived.Laws.RangeAny
namespace Go.Proofs.YtalpfbbceggcaaaDoor.Dec

def by_ (s : ByteArray) (i : Nat) : Nat := (s.get! i).toNat
theorem by_lt (s : ByteArray) (i : Nat) : by_ s i < 256 := (s.get! i).toNat_lt
theorem by_at (s : ByteArray) (i : Nat) (h : i < s.size) : by_ s i = (s[i]'h).toNat := by
  unfold by_
  simp [ByteArray.get!, getElem!_pos, h]
  rfl
/-- A well-formed sequence of two, three, four bytes begins at i. -/
def ok2 (s : ByteArray) (i : Nat) : Prop := 194 ≤ by_ s i ∧ by_ s i ≤ 223 ∧ i + 1 < s.size ∧ 128 ≤ by_ s (i + 1) ∧ by_ s (i + 1) ≤ 191
def ok3 (s : ByteArray) (i : Nat) : Prop := 224 ≤ by_ s i ∧ by_ s i ≤ 239 ∧ i + 2 < s.size ∧ 128 ≤ by_ s (i + 1) ∧ by_ s (i + 1) ≤ 191 ∧ (by_ s i = 224 → 160 ≤ by_ s (i + 1)) ∧ (by_ s i = 237 → by_ s (i + 1) ≤ 159) ∧ 128 ≤ by_ s (i + 2) ∧ by_ s (i + 2) ≤ 191
def ok4 (s : ByteArray) (i : Nat) : Prop := 240 ≤ by_ s i ∧ by_ s i ≤ 244 ∧ i + 3 < s.size ∧ 128 ≤ by_ s (i + 1) ∧ by_ s (i + 1) ≤ 191 ∧ (by_ s i = 240 → 144 ≤ by_ s (i + 1)) ∧ (by_ s i = 244 → by_ s (i + 1) ≤ 143) ∧ 128 ≤ by_ s (i + 2) ∧ by_ s (i + 2) ≤ 191 ∧ 128 ≤ by_ s (i + 3) ∧ by_ s (i + 3) ≤ 191
theorem dec1 (s : ByteArray) (i : Nat) (h : by_ s i < 128) : Utf8.decode s i = (by_ s i, 1) := by
  have h' : (s.get! (i + 0)).toNat < 128 := h
  simp only [Utf8.decode, h', if_true]
  rfl
theorem div2 (x : Nat) : (x / 64 == 2) = decide (128 ≤ x ∧ x ≤ 191) := by rw [Bool.eq_iff_iff]; simp; omega
theorem dec_eq (s : ByteArray) (i : Nat) (h : ¬ by_ s i < 128) : Utf8.decode s i =
    if by_ s i / 32 = 6 ∧ i + 1 < s.size ∧ 128 ≤ by_ s (i + 1) ∧ by_ s (i + 1) ≤ 191 then (if 128 ≤ by_ s i % 32 * 64 + by_ s (i + 1) % 64 then (by_ s i % 32 * 64 + by_ s (i + 1) % 64, 2) else (65533, 1))
    else if by_ s i / 16 = 14 ∧ (i + 1 < s.size ∧ 128 ≤ by_ s (i + 1) ∧ by_ s (i + 1) ≤ 191) ∧ (i + 2 < s.size ∧ 128 ≤ by_ s (i + 2) ∧ by_ s (i + 2) ≤ 191) then
      (if 2048 ≤ by_ s i % 16 * 4096 + by_ s (i + 1) % 64 * 64 + by_ s (i + 2) % 64 ∧ Utf8.valid ((by_ s i % 16 * 4096 + by_ s (i + 1) % 64 * 64 + by_ s (i + 2) % 64 : Nat) : Int) = true then (by_ s i % 16 * 4096 + by_ s (i + 1) % 64 * 64 + by_ s (i + 2) % 64, 3) else (65533, 1))
    else if by_ s i / 8 = 30 ∧ (i + 1 < s.size ∧ 128 ≤ by_ s (i + 1) ∧ by_ s (i + 1) ≤ 191) ∧ (i + 2 < s.size ∧ 128 ≤ by_ s (i + 2) ∧ by_ s (i + 2) ≤ 191) ∧ (i + 3 < s.size ∧ 128 ≤ by_ s (i + 3) ∧ by_ s (i + 3) ≤ 191) then
      (if 65536 ≤ by_ s i % 8 * 262144 + by_ s (i + 1) % 64 * 4096 + by_ s (i + 2) % 64 * 64 + by_ s (i + 3) % 64 ∧ Utf8.valid ((by_ s i % 8 * 262144 + by_ s (i + 1) % 64 * 4096 + by_ s (i + 2) % 64 * 64 + by_ s (i + 3) % 64 : Nat) : Int) = true then (by_ s i % 8 * 262144 + by_ s (i + 1) % 64 * 4096 + by_ s (i + 2) % 64 * 64 + by_ s (i + 3) % 64, 4) else (65533, 1))
    else (65533, 1) := by
  have hd : ∀ j, (s.get! j).toNat = by_ s j := fun _ => rfl
  simp only [Utf8.decode, hd, Nat.add_zero, h, if_false, div2, Bool.and_eq_true, beq_iff_eq, decide_eq_true_eq, and_assoc, ge_iff_le, Utf8.runeError]
set_option maxRecDepth 10000 in
theorem dec2 (s : ByteArray) (i : Nat) (h : ok2 s i) : Utf8.decode s i = ((by_ s i - 192) * 64 + (by_ s (i + 1) - 128), 2) := by
  obtain ⟨h1, h2, h3, h4, h5⟩ := h
  rw [dec_eq s i (by omega), if_pos ⟨by omega, h3, h4, h5⟩, if_pos (by omega)]
  congr 1; omega
set_option maxRecDepth 10000 in
theorem dec3 (s : ByteArray) (i : Nat) (h : ok3 s i) : Utf8.decode s i = ((by_ s i - 224) * 4096 + (by_ s (i + 1) - 128) * 64 + (by_ s (i + 2) - 128), 3) := by
  obtain ⟨h1, h2, h3, h4, h5, h6, h7, h8, h9⟩ := h
  have hv : by_ s i % 16 * 4096 + by_ s (i + 1) % 64 * 64 + by_ s (i + 2) % 64 = (by_ s i - 224) * 4096 + (by_ s (i + 1) - 128) * 64 + (by_ s (i + 2) - 128) := by omega
  rw [dec_eq s i (by omega), if_neg (by omega), if_pos ⟨by omega, ⟨by omega, h4, h5⟩, h3, h8, h9⟩, hv, if_pos ⟨by omega, by simp [Utf8.valid]; omega⟩]
set_option maxRecDepth 10000 in
theorem dec4 (s : ByteArray) (i : Nat) (h : ok4 s i) : Utf8.decode s i = ((by_ s i - 240) * 262144 + (by_ s (i + 1) - 128) * 4096 + (by_ s (i + 2) - 128) * 64 + (by_ s (i + 3) - 128), 4) := by
  obtain ⟨h1, h2, h3, h4, h5, h6, h7, h8, h9, h10, h11⟩ := h
  have hv : by_ s i % 8 * 262144 + by_ s (i + 1) % 64 * 4096 + by_ s (i + 2) % 64 * 64 + by_ s (i + 3) % 64 = (by_ s i - 240) * 262144 + (by_ s (i + 1) - 128) * 4096 + (by_ s (i + 2) - 128) * 64 + (by_ s (i + 3) - 128) := by omega
  rw [dec_eq s i (by omega), if_neg (by omega), if_neg (by omega), if_pos ⟨by omega, ⟨by omega, h4, h5⟩, ⟨by omega, h8, h9⟩, h3, h10, h11⟩, hv, if_pos ⟨by omega, by simp [Utf8.valid]; omega⟩]
set_option maxRecDepth 10000 in
theorem decBad (s : ByteArray) (i : Nat) (h0 : 128 ≤ by_ s i) (h2 : ¬ ok2 s i) (h3 : ¬ ok3 s i) (h4 : ¬ ok4 s i) : Utf8.decode s i = (65533, 1) := by
  have b0 := by_lt s i
  have b1 := by_lt s (i + 1)
  have b2 := by_lt s (i + 2)
  have b3 := by_lt s (i + 3)
  rw [dec_eq s i (by omega)]
  unfold ok2 at h2
  unfold ok3 at h3
  unfold ok4 at h4
  by_cases c2 : by_ s i / 32 = 6 ∧ i + 1 < s.size ∧ 128 ≤ by_ s (i + 1) ∧ by_ s (i + 1) ≤ 191
  · rw [if_pos c2, if_neg (by omega)]
  · rw [if_neg c2]
    by_cases c3 : by_ s i / 16 = 14 ∧ (i + 1 < s.size ∧ 128 ≤ by_ s (i + 1) ∧ by_ s (i + 1) ≤ 191) ∧ (i + 2 < s.size ∧ 128 ≤ by_ s (i + 2) ∧ by_ s (i + 2) ≤ 191)
    · rw [if_pos c3, if_neg ?_]
      intro hc
      have hv := hc.2
      simp [Utf8.valid] at hv
      omega
    · rw [if_neg c3]
      by_cases c4 : by_ s i / 8 = 30 ∧ (i + 1 < s.size ∧ 128 ≤ by_ s (i + 1) ∧ by_ s (i + 1) ≤ 191) ∧ (i + 2 < s.size ∧ 128 ≤ by_ s (i + 2) ∧ by_ s (i + 2) ≤ 191) ∧ (i + 3 < s.size ∧ 128 ≤ by_ s (i + 3) ∧ by_ s (i + 3) ≤ 191)
      · rw [if_pos c4, if_neg ?_]
        intro hc
        have hv := hc.2
        simp [Utf8.valid] at hv
        omega
      · rw [if_neg c4]
/-- The width of a token: at least one, inside the text. -/
theorem dec_span (s : ByteArray) (i : Nat) (h : i < s.size) : 1 ≤ (Utf8.decode s i).2 ∧ (Utf8.decode s i).2 ≤ 4 ∧ i + (Utf8.decode s i).2 ≤ s.size := by
  by_cases h1 : by_ s i < 128
  · rw [dec1 s i h1]; exact ⟨Nat.le_refl _, by simp, h⟩
  · by_cases h2 : ok2 s i
    · rw [dec2 s i h2]; exact ⟨by simp, by simp, h2.2.2.1⟩
    · by_cases h3 : ok3 s i
      · rw [dec3 s i h3]; exact ⟨by simp, by simp, h3.2.2.1⟩
      · by_cases h4 : ok4 s i
        · rw [dec4 s i h4]; exact ⟨by simp, by simp, h4.2.2.1⟩
        · rw [decBad s i (by omega) h2 h3 h4]; exact ⟨Nat.le_refl _, by simp, h⟩
end Go.Proofs.YtalpfbbceggcaaaDoor.Dec
