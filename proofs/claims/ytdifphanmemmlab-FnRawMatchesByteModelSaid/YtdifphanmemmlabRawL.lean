/- FnRawMatchesByteModel: the law's walk. -/
import Derived.Test.YtdifphanmemmlabLexer
namespace Go.Proofs.Ytdifphanmemmlab.RawL
open Go.RowKit BitsP
set_option linter.unusedVariables false
theorem zzBytes (s : ByteArray) (i j : Int) (w : World) (hs : s.size ≤ maxLen) :
    Calls Try.prog 8 #[.string s, .int .i64 i, .int .i64 j] w fun e w' => e = .returned (.bool (decide (s.size ≤ 1048576))) ∧ w = w' := by
  unfold maxLen at hs
  by_cases h : s.size ≤ 1048576
  · go_enter Try.func8, Try.ntmps8
    go_wp2
    go_ret
    exact ⟨ret_bool (by simp [h]), rfl⟩
  · go_enter Try.func8, Try.ntmps8
    go_wp2
    go_ret
    exact ⟨ret_bool (by simp [h]), rfl⟩
theorem made (s : ByteArray) (i j : Nat) (w : World) : ∃ W, w.alloc (.cells (Lexer.lex s i j) 83) = W ∧ Below w.heap.size w W ∧ w.heap.size < W.heap.size ∧ W.cell? ⟨w.heap.size, 14, none⟩ = some (.string s) ∧ W.cell? ⟨w.heap.size, 53, none⟩ = some (.int .i64 i) ∧ W.cell? ⟨w.heap.size, 54, none⟩ = some (.int .i64 j) := by
  refine ⟨_, rfl, (Below.refl _ _).alloc (Nat.le_refl _) _, by simp, ?_, ?_, ?_⟩
  · rw [cell_of_row _ _ 14 (Lexer.lex s i j) 83 (0, 0) (heap_alloc_new w _), Lexer.lex14]
  · rw [cell_of_row _ _ 53 (Lexer.lex s i j) 83 (0, 0) (heap_alloc_new w _), Lexer.lex53]
  · rw [cell_of_row _ _ 54 (Lexer.lex s i j) 83 (0, 0) (heap_alloc_new w _), Lexer.lex54]
theorem ext_at (s : ByteArray) (i j k : Nat) (hij : i ≤ j) (hj : j ≤ s.size) (hk : k < j - i) (h1 : k < (s.extract i j).size) (h2 : i + k < s.size) : (s.extract i j)[k] = s[i + k] := by
  exact ByteArray.getElem_extract h1
set_option maxHeartbeats 1000000 in
theorem main (a0 : ByteArray) (i j : Nat) (w : World) (w0 : a0.size ≤ maxLen) (hs : a0.size ≤ 1048576) (h2 : i ≤ j) (h3 : j ≤ a0.size) :
    Calls Try.prog 4 #[.string a0, .int .i64 i, .int .i64 j] w fun e w' => e = .returned (.bool true) ∧ Below w.heap.size w w' := by
  have hd : decide (a0.size ≤ 1048576) = true := by simp [hs]
  have d1 : decide ((i : Int) < 0) = false := by simp
  have d2 : decide (j < i) = false := by simp; omega
  have d3 : decide (a0.size < j) = false := by simp; omega
  obtain ⟨W, hW, hbW, hlt, c14, c53, c54⟩ := made a0 i j w
  have HW := Lib.hid hW
  have HBW := Lib.hid hbW
  clear hW hbW
  have hsz : (a0.extract i j).size = j - i := by simp; omega
  obtain ⟨r, hr⟩ : ∃ r, a0.extract i j = r := ⟨_, rfl⟩
  have HR := Lib.hid hr
  rw [hr] at hsz
  have hz1 : r.size ≤ 1048576 := by omega
  have hne : ((r.size : Int) != (j : Int) - i) = false := by simp; omega
  have HZ := Lib.hid hsz
  clear hr hsz
  go_enter Try.func4, Try.ntmps4
  go_wp2_with (go_at_call 8; refine (zzBytes _ _ _ _ w0).mono ?_; rintro e w' ⟨rfl, rfl⟩)
  refine (Lexer.newLexer a0 i j w).mono ?_
  rw [HW.out]
  rintro e w' ⟨rfl, rfl⟩
  go_wp2_with fail
  refine (Lexer.raw a0 i j w.heap.size W h2 h3 hs c14 c53 c54).mono ?_
  rw [HR.out]
  rintro e w2 ⟨rfl, m, rfl⟩
  go_wp2_with fail
  go_loopw [8] (fun x wr => ∃ k n : Nat, k ≤ r.size ∧ x = .int .i64 k ∧ wr = W.drewN n) (fun x _ => r.size - (intOf x).toNat)
  case atStart => exact ⟨0, m, Nat.zero_le _, rfl, rfl⟩
  case round =>
    obtain ⟨k, n, hk, rfl, rfl⟩ := hrel
    by_cases hlt : k < r.size
    · have hz := HZ.out
      have hb1 : i + k < a0.size := by omega
      have he : r[k] = a0[i + k] := by
        have h := HR.out
        subst h
        exact ext_at a0 i j k h2 h3 (by omega) hlt hb1
      clear hz
      have het : ((r[k].toNat : Int) != (a0[i + k].toNat : Int)) = false := by rw [he]; simp
      clear he
      have s1 : IntKind.i64.wrap ((i : Int) + k) = (i : Int) + k := IntWalk.i64_in _ (by omega)
      have s3 : 0 ≤ (i : Int) + k := by omega
      have s4 : (i : Int) + k < a0.size := by omega
      have s2 : ((i : Int) + k).toNat = i + k := by omega
      go_wp2
      go_quiet (fail)
      go_wp2
      go_roundw
      case rel => exact ⟨k + 1, n + nq, by omega, by go_num, by simp⟩
      case measure => simp [intOf]; omega
    · go_wp2
      go_ret
      exact ⟨rfl, below_drewN HBW.out _⟩
theorem law (a0 : ByteArray) (a1 : Int) (a2 : Int) (w : World) (w0 : a0.size ≤ maxLen) (w1 : (Lit.int .i64 a1).wf = true) (w2 : (Lit.int .i64 a2).wf = true) :
    Calls Try.prog 4 #[.string a0, .int .i64 a1, .int .i64 a2] w fun e w' => e = .returned (.bool true) ∧ Below w.heap.size w w' := by
  by_cases hs : a0.size ≤ 1048576
  · have hd : decide (a0.size ≤ 1048576) = true := by simp [hs]
    by_cases h1 : 0 ≤ a1
    · by_cases h2 : a1 ≤ a2
      · by_cases h3 : a2 ≤ a0.size
        · obtain ⟨i, rfl⟩ := Int.eq_ofNat_of_zero_le h1
          obtain ⟨j, rfl⟩ := Int.eq_ofNat_of_zero_le (Int.le_trans h1 h2)
          exact main a0 i j w w0 hs (by omega) (by omega)
        · have d1 : decide (a1 < 0) = false := by simp; omega
          have d2 : decide (a2 < a1) = false := by simp; omega
          have d3 : decide ((a0.size : Int) < a2) = true := by simp; omega
          go_enter Try.func4, Try.ntmps4
          go_wp2_with (go_at_call 8; refine (zzBytes _ _ _ _ w0).mono ?_; rintro e w' ⟨rfl, rfl⟩)
          go_ret
          exact ⟨rfl, Below.refl _ _⟩
      · have d1 : decide (a1 < 0) = false := by simp; omega
        have d2 : decide (a2 < a1) = true := by simp; omega
        go_enter Try.func4, Try.ntmps4
        go_wp2_with (go_at_call 8; refine (zzBytes _ _ _ _ w0).mono ?_; rintro e w' ⟨rfl, rfl⟩)
        go_ret
        exact ⟨rfl, Below.refl _ _⟩
    · have d1 : decide (a1 < 0) = true := by simp; omega
      go_enter Try.func4, Try.ntmps4
      go_wp2_with (go_at_call 8; refine (zzBytes _ _ _ _ w0).mono ?_; rintro e w' ⟨rfl, rfl⟩)
      go_ret
      exact ⟨rfl, Below.refl _ _⟩
  · have hd : decide (a0.size ≤ 1048576) = false := by simp [hs]
    go_enter Try.func4, Try.ntmps4
    go_wp2_with (go_at_call 8; refine (zzBytes _ _ _ _ w0).mono ?_; rintro e w' ⟨rfl, rfl⟩)
    go_ret
    exact ⟨rfl, Below.refl _ _⟩
end Go.Proofs.Ytdifphanmemmlab.RawL
