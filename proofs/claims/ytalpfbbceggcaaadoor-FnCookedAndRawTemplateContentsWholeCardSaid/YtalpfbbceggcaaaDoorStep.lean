/- Decoding a text token by token: the tail's decoding, what a rune is, how newlines are counted. Plain. -/
import Derived.Test.YtalpfbbceggcaaaDoorDec
import Derived.Shelf.Unicode.DecodeSlow
import Derived.Below
namespace Go.Proofs.YtalpfbbceggcaaaDoor.Step
open Go.RowKit Dec

theorem get_out (s : ByteArray) (i : Nat) (h : ¬ i < s.size) : s.get! i = default := by
  cases s with
  | mk bs =>
    show bs[i]! = default
    rw [getElem!_neg]
    intro h2; exact h h2
theorem dec_tail (s : ByteArray) (pos : Nat) (h : pos < s.size) : Lib.decodeGo (s.extract pos s.size) = Utf8.decode s pos := by
  have hz : (s.extract pos s.size).size = s.size - pos := by simp
  have hb : ∀ j, by_ (s.extract pos s.size) j = by_ s (pos + j) := by
    intro j
    by_cases hj : pos + j < s.size
    · rw [by_at _ _ (by rw [hz]; omega), by_at _ _ hj]
      congr 1
      simp [ByteArray.getElem_extract]
    · have h1 : ¬ j < (s.extract pos s.size).size := by rw [hz]; omega
      unfold by_
      rw [get_out _ _ h1, get_out _ _ hj]
  unfold Lib.decodeGo
  rw [if_neg (by rw [hz]; omega)]
  have b0 := hb 0
  have b1 := hb 1
  have b2 := hb 2
  have b3 := hb 3
  simp only [Nat.add_zero] at b0
  by_cases c1 : by_ s pos < 128
  · rw [dec1 _ 0 (by rw [b0]; exact c1), dec1 s pos c1, b0]
  · by_cases c2 : ok2 s pos
    · rw [dec2 s pos c2, dec2 _ 0 (by unfold ok2 at c2 ⊢; simp only [Nat.zero_add, b0, b1, hz]; omega), Nat.zero_add, b0, b1]
    · by_cases c3 : ok3 s pos
      · rw [dec3 s pos c3, dec3 _ 0 (by unfold ok3 at c3 ⊢; simp only [Nat.zero_add, b0, b1, b2, hz]; omega), Nat.zero_add, Nat.zero_add, b0, b1, b2]
      · by_cases c4 : ok4 s pos
        · rw [dec4 s pos c4, dec4 _ 0 (by unfold ok4 at c4 ⊢; simp only [Nat.zero_add, b0, b1, b2, b3, hz]; omega), Nat.zero_add, Nat.zero_add, Nat.zero_add, b0, b1, b2, b3]
        · rw [decBad s pos (by omega) c2 c3 c4, decBad _ 0 (by rw [b0]; omega) (by unfold ok2 at c2 ⊢; simp only [Nat.zero_add, b0, b1, hz]; omega) (by unfold ok3 at c3 ⊢; simp only [Nat.zero_add, b0, b1, b2, hz]; omega) (by unfold ok4 at c4 ⊢; simp only [Nat.zero_add, b0, b1, b2, b3, hz]; omega)]
/-- A rune is a Unicode scalar value. -/
theorem dec_scalar (s : ByteArray) (i : Nat) : (Utf8.decode s i).1 ≤ 1114111 ∧ ((Utf8.decode s i).1 < 55296 ∨ 57343 < (Utf8.decode s i).1) := by
  by_cases c1 : by_ s i < 128
  · rw [dec1 _ _ c1]; simp only; omega
  · by_cases c2 : ok2 s i
    · rw [dec2 s i c2]; unfold ok2 at c2; simp only; omega
    · by_cases c3 : ok3 s i
      · rw [dec3 s i c3]; unfold ok3 at c3; simp only; omega
      · by_cases c4 : ok4 s i
        · rw [dec4 s i c4]; unfold ok4 at c4; simp only; omega
        · rw [decBad s i (by omega) c2 c3 c4]; simp only; omega
/-- How many newlines stand before k. -/
def nls (s : ByteArray) : Nat → Nat
  | 0 => 0
  | k + 1 => nls s k + if by_ s k = 10 then 1 else 0
theorem nls_le (s : ByteArray) : ∀ k, nls s k ≤ k
  | 0 => Nat.le_refl _
  | k + 1 => by have := nls_le s k; simp only [nls]; split <;> omega
theorem nls_skip (s : ByteArray) (i : Nat) : ∀ m, (∀ j, j < m → by_ s (i + j) ≠ 10) → nls s (i + m) = nls s i
  | 0, _ => rfl
  | m + 1, h => by
    rw [← Nat.add_assoc, nls, nls_skip s i m (fun j hj => h j (by omega)), if_neg (h m (by omega))]; rfl
theorem nls_dec (s : ByteArray) (i : Nat) : nls s (i + (Utf8.decode s i).2) = nls s i + if (Utf8.decode s i).1 = 10 then 1 else 0 := by
  by_cases c1 : by_ s i < 128
  · rw [dec1 _ _ c1]; rfl
  · by_cases c2 : ok2 s i
    · rw [dec2 s i c2]; unfold ok2 at c2; simp only
      rw [nls_skip s i 2 (fun j hj => by rcases (by omega : j = 0 ∨ j = 1) with rfl | rfl <;> (try simp only [Nat.add_zero]) <;> omega), if_neg (by omega)]; rfl
    · by_cases c3 : ok3 s i
      · rw [dec3 s i c3]; unfold ok3 at c3; simp only
        rw [nls_skip s i 3 (fun j hj => by rcases (by omega : j = 0 ∨ j = 1 ∨ j = 2) with rfl | rfl | rfl <;> (try simp only [Nat.add_zero]) <;> omega), if_neg (by omega)]; rfl
      · by_cases c4 : ok4 s i
        · rw [dec4 s i c4]; unfold ok4 at c4; simp only
          rw [nls_skip s i 4 (fun j hj => by rcases (by omega : j = 0 ∨ j = 1 ∨ j = 2 ∨ j = 3) with rfl | rfl | rfl | rfl <;> (try simp only [Nat.add_zero]) <;> omega), if_neg (by omega)]; rfl
        · rw [decBad s i (by omega) c2 c3 c4]; simp only
          rw [nls_skip s i 1 (fun j hj => by obtain rfl : j = 0 := (by omega); simp only [Nat.add_zero]; omega)]; rfl
/-- Go's tables of UTF-8 stay where they lie. -/
theorem tabs_later {g3 g4 : Nat} {w w' : World} (h : Lib.Utf8Tabs g3 g4 w) (hb : Below w.heap.size w w') : Lib.Utf8Tabs g3 g4 w' := by
  have lt : ∀ {a : Addr} {v : Value}, w.cell? a = some v → w'.cell? a = some v := by
    intro a v hc
    have : a.block < w.heap.size := by
      unfold World.cell? at hc
      rcases Nat.lt_or_ge a.block w.heap.size with h | h
      · exact h
      · simp [Array.getElem?_eq_none h] at hc
    rw [hb.cell this]; exact hc
  exact ⟨fun c hc => lt (h.1 c hc), fun i hi => ⟨lt (h.2 i hi).1, lt (h.2 i hi).2⟩⟩
end Go.Proofs.YtalpfbbceggcaaaDoor.Step
