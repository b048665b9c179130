/- UTF-16 units and how many bytes of text they stand for; how many bytes of output they give. Plain. -/
import Derived.Test.YtmakaafjkeeooabFmtDec
import Derived.Test.YtmakaafjkeeooabFmtStep
namespace Go.Proofs.YtmakaafjkeeooabFmt.Enc
open Go.RowKit Dec Step

/-- A unit c that stands for k bytes of text. -/
def One (c : Int) (k : Nat) : Prop := 0 ≤ c ∧ c ≤ 65535 ∧ (c < 55296 ∨ 57343 < c) ∧ 1 ≤ k ∧ (c < 128 → k = 1) ∧ (c < 2048 → k ≤ 2) ∧ k ≤ 3 ∧ (c = 8232 ∨ c = 8233 ∨ c = 65279 → k = 3)
/-- The units U stand for n bytes of text. -/
inductive Enc : List Int → Nat → Prop
  | nil : Enc [] 0
  | one {c : Int} {k : Nat} {U : List Int} {n : Nat} : One c k → Enc U n → Enc (c :: U) (k + n)
  | two {c d : Int} {U : List Int} {n : Nat} : 55296 ≤ c → c ≤ 56319 → 56320 ≤ d → d ≤ 57343 → Enc U n → Enc (c :: d :: U) (4 + n)
theorem Enc.append {U V : List Int} {n m : Nat} (h : Enc U n) (h' : Enc V m) : Enc (U ++ V) (n + m) := by
  induction h with
  | nil => simpa using h'
  | one h1 _ ih => rw [List.cons_append, Nat.add_assoc]; exact .one h1 ih
  | two h1 h2 h3 h4 _ ih => rw [List.cons_append, List.cons_append, Nat.add_assoc]; exact .two h1 h2 h3 h4 ih
theorem Enc.snoc1 {U : List Int} {n k : Nat} {c : Int} (h : Enc U n) (h1 : One c k) : Enc (U ++ [c]) (n + k) := by
  have := h.append (.one h1 .nil)
  simpa using this
theorem Enc.snoc2 {U : List Int} {n : Nat} {c d : Int} (h : Enc U n) (h1 : 55296 ≤ c) (h2 : c ≤ 56319) (h3 : 56320 ≤ d) (h4 : d ≤ 57343) : Enc (U ++ [c, d]) (n + 4) := by
  have := h.append (.two h1 h2 h3 h4 .nil)
  simpa using this
theorem Enc.len {U : List Int} {n : Nat} (h : Enc U n) : U.length ≤ n := by
  induction h with
  | nil => simp
  | one h1 _ ih => have := h1.2.2.2.1; simp; omega
  | two _ _ _ _ _ ih => simp; omega
theorem Enc.wf {U : List Int} {n : Nat} (h : Enc U n) : ∀ z ∈ U, 0 ≤ z ∧ z ≤ 65535 := by
  induction h with
  | nil => simp
  | one h1 _ ih =>
    intro z hz
    rcases List.mem_cons.1 hz with rfl | hz
    · exact ⟨h1.1, h1.2.1⟩
    · exact ih z hz
  | two a b c d _ ih =>
    intro z hz
    rcases List.mem_cons.1 hz with rfl | hz
    · omega
    · rcases List.mem_cons.1 hz with rfl | hz
      · omega
      · exact ih z hz
/-- One round of the printer's loop: what stands at i. -/
theorem Enc.head {U : List Int} {i m : Nat} (h : Enc (U.drop i) m) (hi : i < U.length) :
    (∃ k m', m = k + m' ∧ One (U.getD i 0) k ∧ Enc (U.drop (i + 1)) m') ∨
    (∃ m', m = 4 + m' ∧ i + 1 < U.length ∧ 55296 ≤ U.getD i 0 ∧ U.getD i 0 ≤ 56319 ∧ 56320 ≤ U.getD (i + 1) 0 ∧ U.getD (i + 1) 0 ≤ 57343 ∧ Enc (U.drop (i + 2)) m') := by
  have e1 : U.drop i = U[i] :: U.drop (i + 1) := List.drop_eq_getElem_cons hi
  have g1 : U.getD i 0 = U[i] := by simp [List.getD, hi]
  rw [e1] at h
  generalize hV : U.drop (i + 1) = V at h
  cases h with
  | one h1 h2 => subst hV; exact .inl ⟨_, _, rfl, by rw [g1]; exact h1, h2⟩
  | @two c d V' n' a b c' d' h2 =>
    have hi2 : i + 1 < U.length := by
      rcases Nat.lt_or_ge (i + 1) U.length with h | h
      · exact h
      · rw [List.drop_of_length_le h] at hV; cases hV
    have e2 : U.drop (i + 1) = U[i + 1] :: U.drop (i + 2) := List.drop_eq_getElem_cons hi2
    have g2 : U.getD (i + 1) 0 = U[i + 1] := by simp [List.getD, hi2]
    rw [e2] at hV
    injection hV with hV1 hV2
    subst hV2
    rw [← hV1] at c' d'
    exact .inr ⟨_, rfl, hi2, by rw [g1]; exact a, by rw [g1]; exact b, by rw [g2]; exact c', by rw [g2]; exact d', h2⟩
theorem Enc.done {U : List Int} {m : Nat} (h : Enc (U.drop U.length) m) : m = 0 := by
  rw [List.drop_length] at h
  cases h
  rfl
/-- What the decoding of a token says of its rune and width. -/
theorem dec_one (s : ByteArray) (i : Nat) (h : (Utf8.decode s i).1 ≤ 65535) : One ((Utf8.decode s i).1 : Int) (Utf8.decode s i).2 := by
  have hsc := (dec_scalar s i).2
  unfold One
  by_cases c1 : by_ s i < 128
  · rw [dec1 _ _ c1]; dsimp only; omega
  · by_cases c2 : ok2 s i
    · rw [dec2 s i c2]; unfold ok2 at c2; dsimp only; omega
    · by_cases c3 : ok3 s i
      · rw [dec3 s i c3] at hsc ⊢; unfold ok3 at c3; dsimp only at hsc ⊢; omega
      · by_cases c4 : ok4 s i
        · rw [dec4 s i c4] at h; unfold ok4 at c4; dsimp only at h; obtain ⟨x1, x2, x3, x4, x5, x6, x7, x8, x9, x10, x11⟩ := c4; omega
        · rw [decBad s i (by omega) c2 c3 c4]; dsimp only; omega
theorem dec_two (s : ByteArray) (i : Nat) (h : 65535 < (Utf8.decode s i).1) : (Utf8.decode s i).2 = 4 ∧ (Utf8.decode s i).1 ≤ 1114111 := by
  refine ⟨?_, (dec_scalar s i).1⟩
  by_cases c1 : by_ s i < 128
  · rw [dec1 _ _ c1] at h; simp only at h; omega
  · by_cases c2 : ok2 s i
    · rw [dec2 s i c2] at h; unfold ok2 at c2; simp only at h; omega
    · by_cases c3 : ok3 s i
      · rw [dec3 s i c3] at h; unfold ok3 at c3; simp only at h; omega
      · by_cases c4 : ok4 s i
        · rw [dec4 s i c4]
        · rw [decBad s i (by omega) c2 c3 c4] at h; simp only at h; omega
end Go.Proofs.YtmakaafjkeeooabFmt.Enc
