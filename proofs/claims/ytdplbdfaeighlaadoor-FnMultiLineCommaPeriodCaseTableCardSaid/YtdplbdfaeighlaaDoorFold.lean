/- strings.ToLower beside the law's own folding of a name: plain. -/
import Derived.Test.YtdplbdfaeighlaaDoorDec
import Derived.Shelf.Strings.CaseAny
namespace Go.Proofs.YtdplbdfaeighlaaDoor.Fold
open Dec Go.Lib
set_option linter.unusedVariables false
/-- The law's own folding: ASCII capitals, and the two bytes of U+0130; none where another byte from 128 on stands. -/
def foldN : List UInt8 → Option (List UInt8)
  | [] => some []
  | [b] => if b.toNat < 128 then some [lowerB b] else none
  | b :: c :: t => if b.toNat < 128 then (foldN (c :: t)).map (lowerB b :: ·) else if b = 196 ∧ c = 176 then (foldN t).map (105 :: ·) else none
theorem foldN_ascii (b : UInt8) (t : List UInt8) (h : b.toNat < 128) : foldN (b :: t) = (foldN t).map (lowerB b :: ·) := by
  cases t with
  | nil => simp only [foldN, h, if_true, Option.map_some]
  | cons c t => rw [foldN, if_pos h]
theorem foldN_dot (t : List UInt8) : foldN (196 :: 176 :: t) = (foldN t).map (105 :: ·) := by
  rw [foldN, if_neg (by decide), if_pos ⟨rfl, rfl⟩]
theorem foldN_bad (b : UInt8) (t : List UInt8) (h : 128 ≤ b.toNat) (hn : ¬ ∃ t', b :: t = 196 :: 176 :: t') : foldN (b :: t) = none := by
  cases t with
  | nil => rw [foldN, if_neg (by omega)]
  | cons c t =>
    rw [foldN, if_neg (by omega), if_neg]
    rintro ⟨rfl, rfl⟩
    exact hn ⟨t, rfl⟩
theorem by_list (l : List UInt8) (i : Nat) (h : i < l.length) : by_ ⟨l.toArray⟩ i = (l.getD i 0).toNat := by
  rw [by_at _ i (by simpa [ByteArray.size] using h)]
  simp [ByteArray.getElem_eq_getElem_data, List.getD, h]
theorem size_list (l : List UInt8) : (⟨l.toArray⟩ : ByteArray).size = l.length := by simp [ByteArray.size]
theorem low_dot : toLowerU 304 = 105 := by decide +kernel
theorem enc_dot : encodeRune 105 = [105] := by decide
theorem decodeL_dot (t : List UInt8) : decodeL (196 :: 176 :: t) = (304, 2) := by
  unfold decodeL
  have b0 := by_list (196 :: 176 :: t) 0 (by simp)
  have b1 := by_list (196 :: 176 :: t) 1 (by simp)
  have hs := size_list (196 :: 176 :: t)
  simp only [List.getD_cons_zero, List.getD_cons_succ] at b0 b1
  rw [dec2 _ 0 (by unfold ok2; simp only [Nat.zero_add, b0, b1, hs, List.length_cons]; simp), b0, Nat.zero_add, b1]
  rfl
/-- Where the folding holds, strings.ToLower gives it. -/
theorem fold_some : ∀ (n : Nat) (l f : List UInt8), l.length ≤ n → foldN l = some f → toLowerD l = f := by
  intro n
  induction n with
  | zero =>
    intro l f hl h
    obtain rfl : l = [] := List.eq_nil_of_length_eq_zero (by omega)
    simp only [foldN, Option.some.injEq] at h
    subst h
    rfl
  | succ n ih =>
    intro l f hl h
    match l with
    | [] =>
      simp only [foldN, Option.some.injEq] at h
      subst h
      rfl
    | b :: t =>
      by_cases hb : b.toNat < 128
      · rw [foldN_ascii b t hb] at h
        obtain ⟨g, hg, rfl⟩ := Option.map_eq_some_iff.1 h
        have ih' := ih t g (by simpa using hl) hg
        unfold toLowerD at ih' ⊢
        rw [mapD_step toLowerU (b :: t) (by simp), decodeL_ascii b t hb]
        dsimp only
        rw [if_pos (toLowerU_range b.toNat (by omega)).1, lower_byte ⟨b.toNat, hb⟩, List.drop_succ_cons, List.drop_zero, ih']
        simp
      · by_cases hd : ∃ t', b :: t = 196 :: 176 :: t'
        · obtain ⟨t', e⟩ := hd
          rw [e] at h hl ⊢
          rw [foldN_dot] at h
          obtain ⟨g, hg, rfl⟩ := Option.map_eq_some_iff.1 h
          have ih' := ih t' g (by simp at hl; omega) hg
          unfold toLowerD at ih' ⊢
          rw [mapD_step toLowerU _ (by simp), decodeL_dot]
          dsimp only
          rw [show ((304 : Nat) : Int) = 304 from rfl, low_dot, if_pos (by omega), enc_dot, List.drop_succ_cons, List.drop_succ_cons, List.drop_zero, ih']
          rfl
        · rw [foldN_bad b t (by omega) hd] at h
          cases h
/-- A row of the table takes no rune from 128 on to an ASCII letter but U+0130 and U+212A. -/
def rowGood (x : CaseRow) : Bool := decide (x.2.1 < 128) || (decide (x.1 = 304) && decide (x.2.1 = 304)) || (decide (x.1 = 8490) && decide (x.2.1 = 8490)) || (decide (128 ≤ x.1) && (decide (x.delta 1 > 1114111) || decide (128 ≤ (x.1 : Int) + x.delta 1)))
set_option maxRecDepth 1000000 in
theorem rowsGood : caseT.all rowGood = true := by decide +kernel
theorem caseA_good (i : Nat) (hi : i < caseA.size) : rowGood (caseA.getD i (0, 0, 0, 0, 0)) = true := by
  have hm : caseA.getD i (0, 0, 0, 0, 0) ∈ caseT := by
    unfold caseA at hi ⊢
    simp only [List.size_toArray] at hi
    simp [Array.getD, hi]
  exact List.all_eq_true.1 rowsGood _ hm
theorem low_k : toLowerU 8490 = 107 := by decide +kernel
set_option maxRecDepth 100000 in
theorem conv_good (x : CaseRow) (hg : rowGood x = true) (r : Nat) (h : 128 ≤ r) (hn : r ≠ 304) (hk : r ≠ 8490) (hlo : (x.1 : Int) ≤ r) (hhi : (r : Int) ≤ x.2.1) : 128 ≤ convertR 1 r x := by
  unfold rowGood at hg
  unfold convertR
  simp only [Bool.or_eq_true, Bool.and_eq_true, decide_eq_true_eq] at hg
  generalize x.delta 1 = d at *
  split <;> omega
theorem toR_low {T : Array CaseRow} (r : Int) (h : 128 ≤ r) (k : ∀ x, lookupGo T r (T.size + 1) 0 T.size = some x → 128 ≤ convertR 1 r x) : 128 ≤ toR T 1 r := by
  unfold toR
  split
  · exact k _ ‹_›
  · exact h
theorem low_high (r : Nat) (h : 128 ≤ r) (hn : r ≠ 304) : toLowerU r = 107 ∨ 128 ≤ toLowerU r := by
  by_cases hk : r = 8490
  · subst hk
    exact .inl low_k
  refine .inr ?_
  unfold toLowerU
  rw [if_neg (by omega)]
  refine toR_low (T := caseA) r (Int.ofNat_le.2 h) fun x hx => ?_
  unfold lookupGo at hx
  obtain ⟨i, hi, rfl⟩ := Option.map_eq_some_iff.1 hx
  obtain ⟨hil, hlo, hhi⟩ := lookupIdx_some caseA r _ _ _ i hi
  exact conv_good _ (caseA_good i hil) r h hn hk hlo hhi
theorem enc_high (r : Int) (h : 128 ≤ r) : ∃ b ∈ encodeRune r, 128 ≤ b.toNat := by
  unfold encodeRune encodeRuneZ
  rw [if_neg (by omega)]
  split
  · refine ⟨(192 + r / 64).toNat.toUInt8, by simp, ?_⟩
    simp
    omega
  · split
    · refine ⟨(224 + r / 4096).toNat.toUInt8, by simp, ?_⟩
      simp
      omega
    · split
      · refine ⟨(240 + r / 262144).toNat.toUInt8, by simp, ?_⟩
        simp
        omega
      · exact ⟨239, by simp, by decide⟩
set_option maxRecDepth 100000 in
/-- The rune that stands first in a text is not U+0130 unless its two bytes stand there. -/
theorem not_dot (b : UInt8) (t : List UInt8) (h : 128 ≤ b.toNat) (hn : ¬ ∃ t', b :: t = 196 :: 176 :: t') : 128 ≤ (decodeL (b :: t)).1 ∧ (decodeL (b :: t)).1 ≠ 304 := by
  unfold decodeL
  have hs := size_list (b :: t)
  have b0 := by_list (b :: t) 0 (by simp)
  rw [List.getD_cons_zero] at b0
  by_cases h2 : ok2 ⟨(b :: t).toArray⟩ 0
  · have h2' := h2
    unfold ok2 at h2'
    rw [dec2 _ 0 h2, b0]
    simp only [Nat.zero_add] at h2' ⊢
    rw [b0] at h2'
    refine ⟨by omega, fun e => hn ?_⟩
    match t with
    | [] => rw [hs] at h2'; simp at h2'
    | c :: t =>
      have b1 := by_list (b :: c :: t) 1 (by simp)
      rw [List.getD_cons_succ, List.getD_cons_zero] at b1
      rw [b1] at h2' e
      refine ⟨t, ?_⟩
      have e0 : b = 196 := UInt8.toNat_inj.1 (by show b.toNat = 196; omega)
      have e1 : c = 176 := UInt8.toNat_inj.1 (by show c.toNat = 176; omega)
      rw [e0, e1]
  by_cases h3 : ok3 ⟨(b :: t).toArray⟩ 0
  · have h3' := h3
    unfold ok3 at h3'
    rw [dec3 _ 0 h3]
    simp only [Nat.zero_add] at h3' ⊢
    rw [b0] at h3' ⊢
    omega
  by_cases h4 : ok4 ⟨(b :: t).toArray⟩ 0
  · have h4' := h4
    unfold ok4 at h4'
    rw [dec4 _ 0 h4]
    simp only [Nat.zero_add] at h4' ⊢
    rw [b0] at h4' ⊢
    omega
  rw [decBad _ 0 (by rw [b0]; exact h) h2 h3 h4]
  exact ⟨by decide, by decide⟩
/-- Where the folding fails, strings.ToLower leaves a byte from 128 on, or a k. -/
theorem fold_none : ∀ (n : Nat) (l : List UInt8), l.length ≤ n → foldN l = none → ∃ b ∈ toLowerD l, 128 ≤ b.toNat ∨ b = 107 := by
  intro n
  induction n with
  | zero =>
    intro l hl h
    obtain rfl : l = [] := List.eq_nil_of_length_eq_zero (by omega)
    rw [foldN] at h
    cases h
  | succ n ih =>
    intro l hl h
    match l with
    | [] =>
      rw [foldN] at h
      cases h
    | b :: t =>
      by_cases hb : b.toNat < 128
      · rw [foldN_ascii b t hb] at h
        obtain ⟨x, hx, hx'⟩ := ih t (by simpa using hl) (Option.map_eq_none_iff.1 h)
        refine ⟨x, ?_, hx'⟩
        unfold toLowerD at hx ⊢
        rw [mapD_step toLowerU (b :: t) (by simp), decodeL_ascii b t hb]
        exact List.mem_append_right _ (by simpa using hx)
      · by_cases hd : ∃ t', b :: t = 196 :: 176 :: t'
        · obtain ⟨t', e⟩ := hd
          rw [e] at h hl ⊢
          rw [foldN_dot] at h
          obtain ⟨x, hx, hx'⟩ := ih t' (by simp at hl; omega) (Option.map_eq_none_iff.1 h)
          refine ⟨x, ?_, hx'⟩
          unfold toLowerD at hx ⊢
          rw [mapD_step toLowerU _ (by simp), decodeL_dot]
          exact List.mem_append_right _ (by simpa using hx)
        · obtain ⟨h1, h2⟩ := not_dot b t (by omega) hd
          unfold toLowerD
          rw [mapD_step toLowerU (b :: t) (by simp)]
          rcases low_high _ h1 h2 with hl' | hl'
          · rw [hl', if_pos (by omega)]
            exact ⟨107, List.mem_append_left _ (by decide), .inr rfl⟩
          · obtain ⟨x, hx, hx'⟩ := enc_high _ hl'
            rw [if_pos (by omega)]
            exact ⟨x, List.mem_append_left _ hx, .inl hx'⟩
end Go.Proofs.YtdplbdfaeighlaaDoor.Fold
