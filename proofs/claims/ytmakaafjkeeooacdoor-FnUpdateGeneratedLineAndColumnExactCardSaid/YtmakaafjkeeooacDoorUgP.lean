/- FnUpdateGeneratedLineAndColumnExact: what the buffer holds. Plain. -/
import Derived.Test.YtmakaafjkeeooacDoorRows
import Derived.Test.YtmakaafjkeeooacDoorMem
import Derived.Test.YtmakaafjkeeooacDoorSl
import Derived.Test.YtmakaafjkeeooacDoorUgC
namespace Go.Proofs.YtmakaafjkeeooacDoor.UgP
open Go.RowKit Mem Sl
set_option linter.unusedVariables false
open Own Vq UgA UgB UgC Args

/-- The buffer after L breaks. -/
def outB (hp : Bool) (cv : Int) : Nat → List Int
  | 0 => if hp then seg4 cv 1 2 3 else []
  | L + 1 => outB hp cv L ++ (if hp then (if L = 0 then [44] else []) ++ seg4 (if L = 0 then -cv else 0) 0 0 0 else []) ++ [59]
theorem code0 : code (vlqOf 0) = [65] := by
  rw [show vlqOf 0 = 0 by decide, code_small 0 (by decide)]; decide
theorem code1 : code (vlqOf 1) = [67] := by
  rw [show vlqOf 1 = 2 by decide, code_small 2 (by decide)]; decide
theorem code2 : code (vlqOf 2) = [69] := by
  rw [show vlqOf 2 = 4 by decide, code_small 4 (by decide)]; decide
theorem code3 : code (vlqOf 3) = [71] := by
  rw [show vlqOf 3 = 6 by decide, code_small 6 (by decide)]; decide
theorem seg_first (cv : Int) : seg4 cv 1 2 3 = (code (vlqOf cv) ++ [67, 69]) ++ [71] := by
  unfold seg4; rw [code1, code2, code3]; simp
theorem seg_back (x : Int) : seg4 x 0 0 0 = code (vlqOf x) ++ [65, 65, 65] := by
  unfold seg4; rw [code0]; rfl
theorem seg_nought : seg4 0 0 0 0 = [65, 65, 65, 65] := by rw [seg_back, code0]; rfl
theorem last_snoc (xs : List Int) (z : Int) : (xs ++ [z]).getD ((xs ++ [z]).length - 1) 0 = z := by
  simp [List.getD]
theorem lb_first (cv : Int) : 0 < (outB true cv 0).length ∧ (outB true cv 0).getD ((outB true cv 0).length - 1) 0 = 71 := by
  show 0 < (seg4 cv 1 2 3).length ∧ (seg4 cv 1 2 3).getD ((seg4 cv 1 2 3).length - 1) 0 = 71
  rw [seg_first]
  exact ⟨by simp, last_snoc _ _⟩
theorem lb_next (hp : Bool) (cv : Int) (L : Nat) : 0 < (outB hp cv (L + 1)).length ∧ (outB hp cv (L + 1)).getD ((outB hp cv (L + 1)).length - 1) 0 = 59 := by
  rw [outB]
  exact ⟨by simp only [List.length_append, List.length_cons, List.length_nil]; omega, last_snoc _ _⟩
theorem outB_len (hp : Bool) (cv : Int) (h : Sm cv) : ∀ L, (outB hp cv L).length ≤ 28 + 30 * L
  | 0 => by
    unfold outB
    have := seg4_len cv 1 2 3 ⟨by have := h.1; omega, by have := h.2; omega⟩ (by omega) (by omega) (by omega)
    cases hp
    · simp
    · simpa using this
  | L + 1 => by
    have ih := outB_len hp cv h L
    unfold outB
    cases hp
    · simp only [Bool.false_eq_true, if_false, List.append_nil, List.length_append, List.length_cons, List.length_nil]
      omega
    · by_cases h0 : L = 0
      · have := seg4_len (-cv) 0 0 0 ⟨by have := h.2; omega, by have := h.1; omega⟩ (by omega) (by omega) (by omega)
        simp only [if_true, if_pos h0, List.length_append, List.length_cons, List.length_nil]
        omega
      · have := seg4_len 0 0 0 0 (by omega) (by omega) (by omega) (by omega)
        simp only [if_true, if_neg h0, List.length_append, List.length_cons, List.length_nil]
        omega
/-- Without a mapping: line feeds' marks alone. -/
theorem outB_no (cv : Int) : ∀ L, outB false cv L = List.replicate L 59
  | 0 => rfl
  | L + 1 => by
    rw [outB, outB_no cv L]
    simp only [Bool.false_eq_true, if_false, List.append_nil]
    rw [← List.replicate_succ']
def five : List Int := [65, 65, 65, 65, 59]
def rep5 : Nat → List Int
  | 0 => []
  | j + 1 => rep5 j ++ five
theorem rep5_len : ∀ j, (rep5 j).length = 5 * j
  | 0 => rfl
  | j + 1 => by rw [rep5, List.length_append, rep5_len j]; simp [five]; omega
theorem rep5_at : ∀ (j t i : Nat), t < j → i < 5 → (rep5 j).getD (5 * t + i) 0 = five.getD i 0
  | 0, t, i, h, _ => by omega
  | j + 1, t, i, h, hi => by
    rw [rep5]
    simp only [List.getD]
    by_cases ht : t < j
    · rw [List.getElem?_append_left (by rw [rep5_len]; omega)]
      exact rep5_at j t i ht hi
    · obtain rfl : t = j := by omega
      rw [List.getElem?_append_right (by rw [rep5_len]; omega), rep5_len]
      congr 2
      omega
/-- With a mapping and a break. -/
theorem outB_yes (cv : Int) : ∀ j, outB true cv (j + 1) = seg4 cv 1 2 3 ++ ([44] ++ (seg4 (-cv) 0 0 0 ++ ([59] ++ rep5 j)))
  | 0 => by
    rw [outB, outB]
    simp [rep5]
  | j + 1 => by
    rw [outB, outB_yes cv j]
    simp only [if_true, if_neg (Nat.succ_ne_zero j), seg_nought, rep5, List.append_assoc, List.nil_append]
    rfl
end Go.Proofs.YtmakaafjkeeooacDoor.UgP
