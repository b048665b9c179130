/- Lines and columns of a text: the breaks, the units since the last one. Plain. -/
import Derived.Test.YtmakaafjkeeooacDoorDec
namespace Go.Proofs.YtmakaafjkeeooacDoor.Lin
open Dec
set_option linter.unusedVariables false
def wd (s : ByteArray) (i : Nat) : Nat := (Utf8.decode s i).2
def ru (s : ByteArray) (i : Nat) : Nat := (Utf8.decode s i).1
def isT (r : Nat) : Bool := r == 10 || r == 13 || r == 8232 || r == 8233
def un (s : ByteArray) (i : Nat) : Nat := if ru s i ≤ 65535 then 1 else 2
def crlf (s : ByteArray) (i : Nat) : Bool := ru s i == 13 && decide (i + 1 < s.size) && by_ s (i + 1) == 10
def brk (s : ByteArray) (i : Nat) : Bool := isT (ru s i) && !crlf s i
theorem wd_pos {s : ByteArray} {i : Nat} (h : i < s.size) : 1 ≤ wd s i ∧ i + wd s i ≤ s.size := ⟨(dec_span s i h).1, (dec_span s i h).2.2⟩
theorem un_le (s : ByteArray) (i : Nat) (h : i < s.size) : un s i ≤ wd s i := by
  unfold un wd ru
  by_cases h1 : by_ s i < 128
  · rw [dec1 s i h1, if_pos (show by_ s i ≤ 65535 by omega)]; exact Nat.le_refl _
  · by_cases h2 : ok2 s i
    · have := h2; unfold ok2 at this
      rw [dec2 s i h2, if_pos (show (by_ s i - 192) * 64 + (by_ s (i + 1) - 128) ≤ 65535 by omega)]; exact Nat.le_succ _
    · by_cases h3 : ok3 s i
      · have := h3; unfold ok3 at this
        rw [dec3 s i h3, if_pos (show (by_ s i - 224) * 4096 + (by_ s (i + 1) - 128) * 64 + (by_ s (i + 2) - 128) ≤ 65535 by omega)]
        show 1 ≤ 3; omega
      · by_cases h4 : ok4 s i
        · rw [dec4 s i h4]; show (if _ then 1 else 2) ≤ 4; split <;> omega
        · rw [decBad s i (by omega) h2 h3 h4, if_pos (by simp)]; exact Nat.le_refl _
/-- What is left to do from pos on: lines, units since the last break, where it ended. -/
def fin (s : ByteArray) (pos L U T : Nat) : Nat × Nat × Nat :=
  if h : pos < s.size then (if brk s pos then fin s (pos + wd s pos) (L + 1) 0 (pos + wd s pos) else fin s (pos + wd s pos) L (U + un s pos) T) else (L, U, T)
termination_by s.size - pos
decreasing_by all_goals (have := wd_pos h; omega)
theorem fin_end (s : ByteArray) (pos L U T : Nat) (h : ¬ pos < s.size) : fin s pos L U T = (L, U, T) := by rw [fin, dif_neg h]
theorem fin_brk (s : ByteArray) (pos L U T : Nat) (h : pos < s.size) (hb : brk s pos = true) : fin s pos L U T = fin s (pos + wd s pos) (L + 1) 0 (pos + wd s pos) := by rw [fin, dif_pos h, if_pos hb]
theorem fin_un (s : ByteArray) (pos L U T : Nat) (h : pos < s.size) (hb : brk s pos = false) : fin s pos L U T = fin s (pos + wd s pos) L (U + un s pos) T := by rw [fin, dif_pos h, if_neg (by simp [hb])]
/-- The units from pos on. -/
def usum (s : ByteArray) (pos acc : Nat) : Nat := if h : pos < s.size then usum s (pos + wd s pos) (acc + un s pos) else acc
termination_by s.size - pos
decreasing_by (have := wd_pos h; omega)
theorem usum_end (s : ByteArray) (pos acc : Nat) (h : ¬ pos < s.size) : usum s pos acc = acc := by rw [usum, dif_neg h]
theorem usum_step (s : ByteArray) (pos acc : Nat) (h : pos < s.size) : usum s pos acc = usum s (pos + wd s pos) (acc + un s pos) := by rw [usum, dif_pos h]
theorem fin_usum (s : ByteArray) : ∀ n pos L U T, s.size - pos ≤ n → usum s T 0 = usum s pos U → usum s (fin s pos L U T).2.2 0 = (fin s pos L U T).2.1 := by
  intro n
  induction n with
  | zero =>
    intro pos L U T hn h
    rw [fin_end s pos L U T (by omega)]
    rw [usum_end s pos U (by omega)] at h
    exact h
  | succ n ih =>
    intro pos L U T hn h
    by_cases hp : pos < s.size
    · have hw := wd_pos hp
      cases hb : brk s pos with
      | true => rw [fin_brk s pos L U T hp hb]; exact ih _ _ _ _ (by omega) rfl
      | false =>
        rw [fin_un s pos L U T hp hb]
        exact ih _ _ _ _ (by omega) (by rw [h, usum_step s pos U hp])
    · rw [fin_end s pos L U T hp]
      rw [usum_end s pos U hp] at h
      exact h
theorem fin_bounds (s : ByteArray) : ∀ n pos L U T, s.size - pos ≤ n → pos ≤ s.size → L ≤ pos → U ≤ pos → T ≤ pos → (L = 0 → T = 0) →
    (fin s pos L U T).1 ≤ s.size ∧ (fin s pos L U T).2.1 ≤ s.size ∧ (fin s pos L U T).2.2 ≤ s.size ∧ L ≤ (fin s pos L U T).1 ∧ ((fin s pos L U T).1 = 0 → (fin s pos L U T).2.2 = 0) := by
  intro n
  induction n with
  | zero =>
    intro pos L U T hn hp hL hU hT h0
    rw [fin_end s pos L U T (by omega)]
    exact ⟨by simp; omega, by simp; omega, by simp; omega, Nat.le_refl _, h0⟩
  | succ n ih =>
    intro pos L U T hn hp hL hU hT h0
    by_cases hlt : pos < s.size
    · have hw := wd_pos hlt
      have hu := un_le s pos hlt
      cases hb : brk s pos with
      | true =>
        rw [fin_brk s pos L U T hlt hb]
        have := ih (pos + wd s pos) (L + 1) 0 (pos + wd s pos) (by omega) hw.2 (by omega) (by omega) (Nat.le_refl _) (by omega)
        exact ⟨this.1, this.2.1, this.2.2.1, by omega, this.2.2.2.2⟩
      | false =>
        rw [fin_un s pos L U T hlt hb]
        exact ih _ _ _ _ (by omega) hw.2 (by omega) (by omega) (by omega) h0
    · rw [fin_end s pos L U T hlt]
      exact ⟨by simp; omega, by simp; omega, by simp; omega, Nat.le_refl _, h0⟩
end Go.Proofs.YtmakaafjkeeooacDoor.Lin
