/- A CSS string in quotes: the bytes that are printed, and how many they are. Plain. -/
import Derived.Test.YtmgkjkfhhdkkmaaFmtDec
import Derived.Test.YtmgkjkfhhdkkmaaFmtUtf
import Derived.Test.YtmgkjkfhhdkkmaaFmtPrn
import Derived.Lib.Fold
namespace Go.Proofs.YtmgkjkfhhdkkmaaFmt.Qt
open Go.RowKit Dec Utf Prn

def ru (s : ByteArray) (i : Nat) : Nat := (Utf8.decode s i).1
def wd (s : ByteArray) (i : Nat) : Nat := (Utf8.decode s i).2
theorem wd_pos (s : ByteArray) (i : Nat) (h : i < s.size) : 1 ≤ wd s i ∧ i + wd s i ≤ s.size := by
  obtain ⟨h1, _, h2⟩ := Dec.dec_span s i h
  exact ⟨h1, h2⟩
theorem step_cnt (f : Nat → Bool) (hf : ∀ n, 128 ≤ n → f n = false) (s : ByteArray) (pos : Nat) (h : pos < s.size) :
    cnt f s (pos + wd s pos) = cnt f s pos + if f (ru s pos) then 1 else 0 := by
  unfold wd ru
  by_cases ha : (s[pos]'h).toNat < 128
  · rw [decode_ascii s pos h ha]
    simp only [cnt, get_at' s pos h]
  · obtain ⟨h1, h2, h3⟩ := Utf.dec_span s pos h (by omega)
    rw [cnt_skip f s pos _ (fun j hj => hf _ (h3 j hj)), hf _ (decode_high s pos h (by omega)).1]
    simp
/-- The bytes from a up to b. -/
def seg (s : ByteArray) (a b : Nat) : List Int := ((nums s).drop a).take (b - a)
theorem seg_self (s : ByteArray) (a : Nat) : seg s a a = [] := by simp [seg]
theorem seg_add (s : ByteArray) {a b c : Nat} (h : a ≤ b) (h2 : b ≤ c) : seg s a b ++ seg s b c = seg s a c := by
  unfold seg
  have e : c - a = (b - a) + (c - b) := by omega
  rw [e, List.take_add, List.drop_drop, show a + (b - a) = b by omega]
theorem seg_len (s : ByteArray) {a b : Nat} (h : a ≤ b) (h2 : b ≤ s.size) : (seg s a b).length = b - a := by
  unfold seg
  rw [List.length_take, List.length_drop, nums_length]
  omega
theorem seg_one (s : ByteArray) {i : Nat} (h : i < s.size) : seg s i (i + 1) = [(nums s).getD i 0] := by
  have hl : i < (nums s).length := by rw [nums_length]; exact h
  unfold seg
  have e : (nums s).drop i = (nums s)[i] :: (nums s).drop (i + 1) := List.drop_eq_getElem_cons hl
  rw [show i + 1 - i = 1 by omega, e, List.take_succ_cons, List.take_zero]
  simp [List.getD, hl]
theorem seg_nums (s : ByteArray) (a b : Nat) : nums (s.extract a b) = seg s a b := by
  unfold nums seg nums
  simp [List.map_take, List.map_drop]
/-- Are the five bytes of t 'style' in some case? -/
def fold5 (t : ByteArray) : Bool := t.data.toList.all (fun b => decide (b.toNat < 128)) && Lib.equalFold t.data.toList [115, 116, 121, 108, 101]
def sty (s : ByteArray) (i : Nat) : Bool := decide (1 ≤ i) && ((by_ s (i - 1) : Int) == 60) && decide (i + 6 ≤ s.size) && fold5 (s.extract (i + 1) (i + 6))
def esc (q : Int) (s : ByteArray) (i : Nat) : Bool := (ru s i : Int) == 92 || (ru s i : Int) == q || ((ru s i : Int) == 47 && sty s i)
def ww (wr : Bool) (L S : Int) (i : Nat) : Bool := wr && decide (L ≤ S + i)
def rest (q : Int) (wr : Bool) (L : Int) (s : ByteArray) : Nat → Int → Nat → List Int
  | 0, _, _ => []
  | n + 1, S, i => if i < s.size then (if ww wr L S i then [92, 10] else []) ++ ((if esc q s i then [92] else []) ++ (seg s i (i + wd s i) ++ rest q wr L s n (if ww wr L S i then S - L else S) (i + wd s i))) else []
theorem rest_more (q : Int) (wr : Bool) (L : Int) (s : ByteArray) : ∀ (n m : Nat) (S : Int) (i : Nat), s.size - i ≤ n → s.size - i ≤ m → rest q wr L s n S i = rest q wr L s m S i
  | 0, 0, _, _, _, _ => rfl
  | 0, m + 1, S, i, h, _ => by rw [rest, rest, if_neg (by omega)]
  | n + 1, 0, S, i, _, h => by rw [rest, rest, if_neg (by omega)]
  | n + 1, m + 1, S, i, h1, h2 => by
    rw [rest, rest]
    by_cases hi : i < s.size
    · have := wd_pos s i hi
      rw [if_pos hi, if_pos hi, rest_more q wr L s n m _ _ (by omega) (by omega)]
    · rw [if_neg hi, if_neg hi]
/-- What is printed from i on. -/
def outF (q : Int) (wr : Bool) (L : Int) (s : ByteArray) (S : Int) (i : Nat) : List Int := rest q wr L s (s.size - i) S i
theorem outF_step {q : Int} {wr : Bool} {L S : Int} {s : ByteArray} {i : Nat} (h : i < s.size) :
    outF q wr L s S i = (if ww wr L S i then [92, 10] else []) ++ ((if esc q s i then [92] else []) ++ (seg s i (i + wd s i) ++ outF q wr L s (if ww wr L S i then S - L else S) (i + wd s i))) := by
  have := wd_pos s i h
  unfold outF
  obtain ⟨n, hn⟩ : ∃ n, s.size - i = n + 1 := ⟨s.size - i - 1, by omega⟩
  rw [hn, rest, if_pos h, rest_more q wr L s n (s.size - (i + wd s i)) _ _ (by omega) (by omega)]
theorem outF_end (q : Int) (wr : Bool) (L : Int) (s : ByteArray) (S : Int) : outF q wr L s S s.size = [] := by
  unfold outF
  rw [Nat.sub_self, rest]
/-- How many bytes: what is common, and one for each of the quote's own. -/
theorem rest_len (q : Nat) (hq : q = 34 ∨ q = 39) (wr : Bool) (L : Int) (s : ByteArray) : ∀ (n : Nat) (S : Int) (i : Nat), s.size - i ≤ n → i ≤ s.size →
    (rest q wr L s n S i).length + cnt (fun x => x == q) s i = (rest (-1) wr L s n S i).length + cnt (fun x => x == q) s s.size
  | 0, S, i, h, hi => by
    obtain rfl : i = s.size := by omega
    rfl
  | n + 1, S, i, h, hi => by
    rw [rest, rest]
    by_cases hl : i < s.size
    · have hw := wd_pos s i hl
      have ih := rest_len q hq wr L s n (if ww wr L S i then S - L else S) (i + wd s i) (by omega) (by omega)
      have hc := step_cnt (fun x => x == q) (by intro m hm; simp; omega) s i hl
      rw [hc] at ih
      rw [if_pos hl, if_pos hl]
      simp only [List.length_append]
      by_cases hr : ru s i = q
      · have e1 : esc q s i = true := by unfold esc; rw [hr]; simp
        have e2 : esc (-1) s i = false := by unfold esc; rw [hr]; simp; omega
        have e3 : (ru s i == q) = true := by simp [hr]
        rw [e3] at ih
        rw [e1, e2]
        simp at ih ⊢
        omega
      · have e1 : esc q s i = esc (-1) s i := by
          unfold esc
          have h1 : ((ru s i : Int) == (q : Int)) = false := by simp; omega
          have h2 : ((ru s i : Int) == -1) = false := by rw [beq_eq_false_iff_ne]; omega
          rw [h1, h2]
        have e3 : (ru s i == q) = false := by simp [hr]
        rw [e3] at ih
        rw [e1]
        simp at ih ⊢
        omega
    · obtain rfl : i = s.size := by omega
      rw [if_neg hl, if_neg hl]
theorem out_len (q : Nat) (hq : q = 34 ∨ q = 39) (wr : Bool) (L S : Int) (s : ByteArray) : (outF q wr L s S 0).length = (outF (-1) wr L s S 0).length + cnt (fun x => x == q) s s.size := by
  have := rest_len q hq wr L s (s.size - 0) S 0 (by omega) (by omega)
  unfold outF
  simpa [cnt] using this
/-- A text in which no rune wants a hexadecimal escape. -/
def Plain (s : ByteArray) : Prop := (∀ i, i < s.size → by_ s i ≠ 0 ∧ by_ s i ≠ 13 ∧ by_ s i ≠ 10 ∧ by_ s i ≠ 12) ∧ ∀ i, i + 2 < s.size → ¬ (by_ s i = 239 ∧ by_ s (i + 1) = 187 ∧ by_ s (i + 2) = 191)
theorem plain_ru {s : ByteArray} (h : Plain s) {i : Nat} (hi : i < s.size) : ru s i ≠ 0 ∧ ru s i ≠ 13 ∧ ru s i ≠ 10 ∧ ru s i ≠ 12 ∧ ru s i ≠ 65279 := by
  obtain ⟨h1, h2⟩ := h
  have h1 := h1 i hi
  unfold ru
  by_cases c1 : by_ s i < 128
  · rw [dec1 _ _ c1]; simp only; omega
  · by_cases c2 : ok2 s i
    · rw [dec2 s i c2]; unfold ok2 at c2; simp only; omega
    · by_cases c3 : ok3 s i
      · rw [dec3 s i c3]; unfold ok3 at c3; simp only
        have := h2 i (by omega)
        omega
      · by_cases c4 : ok4 s i
        · rw [dec4 s i c4]; unfold ok4 at c4; simp only; omega
        · rw [decBad s i (by omega) c2 c3 c4]; simp only; omega
/-- A rune below 128 is its one byte. -/
theorem ru_low {s : ByteArray} {i : Nat} (h : ru s i < 128) : by_ s i = ru s i ∧ wd s i = 1 := by
  unfold ru at h
  unfold ru wd
  by_cases c1 : by_ s i < 128
  · rw [dec1 _ _ c1]; exact ⟨rfl, rfl⟩
  · exfalso
    by_cases c2 : ok2 s i
    · rw [dec2 s i c2] at h; unfold ok2 at c2; simp only at h; omega
    · by_cases c3 : ok3 s i
      · rw [dec3 s i c3] at h; unfold ok3 at c3; simp only at h; omega
      · by_cases c4 : ok4 s i
        · rw [dec4 s i c4] at h; unfold ok4 at c4; simp only at h; omega
        · rw [decBad s i (by omega) c2 c3 c4] at h; simp only at h; omega
/-- How the counts of the chooser part. -/
theorem cnt_split (s : ByteArray) (q : Nat) (hq : q = 34 ∨ q = 39) : ∀ k, cnt (fun n => n == q || n == 92 || n == 10 || n == 13 || n == 12) s k = cnt (fun x => x == q) s k + cnt (fun n => n == 92 || n == 10 || n == 13 || n == 12) s k
  | 0 => rfl
  | k + 1 => by
    rw [cnt, cnt, cnt, cnt_split s q hq k]
    generalize (s.get! k).toNat = m
    by_cases h : m = q
    · have e : (m == 92 || m == 10 || m == 13 || m == 12) = false := by simp; omega
      have e2 : (m == q || m == 92 || m == 10 || m == 13 || m == 12) = true := by simp [h]
      have e3 : (m == q) = true := by simp [h]
      rw [e, e2, e3]
      simp
      omega
    · have e3 : (m == q) = false := by simp [h]
      rw [e3]
      simp
      omega
end Go.Proofs.YtmgkjkfhhdkkmaaFmt.Qt
