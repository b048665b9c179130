/- FnLocAgreesWithRangeAndIdentifier: the law's walk. -/
import Derived.Test.YtdifphanmemmlabLexer
namespace Go.Proofs.Ytdifphanmemmlab.LocL
open Go.RowKit BitsP
set_option linter.unusedVariables false
theorem zzBytes (s : ByteArray) (i j : Int) (w : World) (hs : s.size ≤ maxLen) :
    Calls Try.prog 11 #[.string s, .int .i64 i, .int .i64 j] w fun e w' => e = .returned (.bool (decide (s.size ≤ 1048576))) ∧ w = w' := by
  unfold maxLen at hs
  by_cases h : s.size ≤ 1048576
  · go_enter Try.func11, Try.ntmps11
    go_wp2
    go_ret
    exact ⟨ret_bool (by simp [h]), rfl⟩
  · go_enter Try.func11, Try.ntmps11
    go_wp2
    go_ret
    exact ⟨ret_bool (by simp [h]), rfl⟩
theorem made (s : ByteArray) (i j : Nat) (w : World) : ∃ W, w.alloc (.cells (Lexer.lex s i j) 83) = W ∧ Below w.heap.size w W ∧ w.heap.size < W.heap.size ∧ W.cell? ⟨w.heap.size, 14, none⟩ = some (.string s) ∧ W.cell? ⟨w.heap.size, 53, none⟩ = some (.int .i64 i) ∧ W.cell? ⟨w.heap.size, 54, none⟩ = some (.int .i64 j) := by
  refine ⟨_, rfl, (Below.refl _ _).alloc (Nat.le_refl _) _, by simp, ?_, ?_, ?_⟩
  · rw [cell_of_row _ _ 14 (Lexer.lex s i j) 83 (0, 0) (heap_alloc_new w _), Lexer.lex14]
  · rw [cell_of_row _ _ 53 (Lexer.lex s i j) 83 (0, 0) (heap_alloc_new w _), Lexer.lex53]
  · rw [cell_of_row _ _ 54 (Lexer.lex s i j) 83 (0, 0) (heap_alloc_new w _), Lexer.lex54]
set_option maxHeartbeats 1000000 in
theorem main (a0 : ByteArray) (i j : Nat) (w : World) (w0 : a0.size ≤ maxLen) (hs : a0.size ≤ 1048576) (h2 : i ≤ j) (h3 : j ≤ a0.size) :
    Calls Try.prog 5 #[.string a0, .int .i64 i, .int .i64 j] w fun e w' => e = .returned (.bool true) ∧ Below w.heap.size w w' := by
  have hd : decide (a0.size ≤ 1048576) = true := by simp [hs]
  have d1 : decide ((i : Int) < 0) = false := by simp
  have d2 : decide (j < i) = false := by simp; omega
  have d3 : decide (a0.size < j) = false := by simp; omega
  have hw : IntKind.u32.wrap (i : Int) = i := IntWalk.u32_in _ (by omega)
  obtain ⟨W, hW, hbW, hlt, c14, c53, c54⟩ := made a0 i j w
  have HW := Lib.hid hW
  have HBW := Lib.hid hbW
  clear hW hbW
  go_enter Try.func5, Try.ntmps5
  go_wp2_with (go_at_call 11; refine (zzBytes _ _ _ _ w0).mono ?_; rintro e w' ⟨rfl, rfl⟩)
  refine (Lexer.newLexer a0 i j w).mono ?_
  rw [HW.out]
  rintro e w' ⟨rfl, rfl⟩
  go_wp2_with fail
  refine (Lexer.loc i w.heap.size W (by omega) hlt c53).mono ?_
  rintro e w2 ⟨rfl, hb2⟩
  have b53 := cell_later hb2 c53
  have b54 := cell_later hb2 c54
  have b14 := cell_later hb2 c14
  have z2 : w.heap.size < w2.heap.size := Nat.lt_of_lt_of_le hlt hb2.size
  have HB2 := Lib.hid hb2
  clear hb2
  go_wp2_with fail
  refine (Lexer.range i j w.heap.size _ h2 (by omega) (by simp; omega) ?_ ?_).mono ?_
  · refine cell_later ?_ b53; (repeat (first | exact Below.refl _ _ | apply Below.drew | apply below_drewN | (refine Below.alloc ?_ (by simp <;> omega) _) | (refine Below.setCell ?_ (by simp <;> omega) _)))
  · refine cell_later ?_ b54; (repeat (first | exact Below.refl _ _ | apply Below.drew | apply below_drewN | (refine Below.alloc ?_ (by simp <;> omega) _) | (refine Below.setCell ?_ (by simp <;> omega) _)))
  rintro e w3 ⟨rfl, hb3⟩
  have hb23 : Below w2.heap.size w2 w3 := Below.trans ((Below.refl _ _).alloc (Nat.le_refl _) _) (hb3.mono (by simp))
  have e53 := cell_later hb23 b53
  have e54 := cell_later hb23 b54
  have e14 := cell_later hb23 b14
  have z3 : w2.heap.size < w3.heap.size := by have := hb3.size; simp at this; omega
  have l3 := hb3.cell (p := ⟨w2.heap.size, 0, none⟩) (by simp)
  simp at l3
  have HB3 := Lib.hid hb23
  clear hb3 hb23
  go_wp2_with fail
  refine (Lexer.zzRawId a0 i j w.heap.size _ h2 h3 hs (by simp; omega) ?_ ?_ ?_).mono ?_
  · refine cell_later ?_ e14; (repeat (first | exact Below.refl _ _ | apply Below.drew | apply below_drewN | (refine Below.alloc ?_ (by simp <;> omega) _) | (refine Below.setCell ?_ (by simp <;> omega) _)))
  · refine cell_later ?_ e53; (repeat (first | exact Below.refl _ _ | apply Below.drew | apply below_drewN | (refine Below.alloc ?_ (by simp <;> omega) _) | (refine Below.setCell ?_ (by simp <;> omega) _)))
  · refine cell_later ?_ e54; (repeat (first | exact Below.refl _ _ | apply Below.drew | apply below_drewN | (refine Below.alloc ?_ (by simp <;> omega) _) | (refine Below.setCell ?_ (by simp <;> omega) _)))
  rintro e w4 ⟨rfl, hb4⟩
  have z4 : w3.heap.size < w4.heap.size := by have := hb4.size; simp at this; omega
  have hb34 : Below w3.heap.size w3 w4 := Below.trans ((Below.refl _ _).alloc (Nat.le_refl _) _) (hb4.mono (by simp))
  have l4 := cell_later hb34 l3
  have HB4 := Lib.hid hb34
  clear hb4 hb34
  go_wp2_with fail
  have z24 : w2.heap.size < w4.heap.size := by omega
  go_region_with (go_at_call 15; refine (Lexer.mkIndex _ _).mono ?_; rintro e w' ⟨rfl, rfl⟩)
  all_goals go_wp2_with fail
  all_goals go_ret
  all_goals refine ⟨rfl, ?_⟩
  all_goals
    have h1 : Below w.heap.size w w2 := HBW.out.trans (HB2.out.mono (by omega))
    have h2 : Below w.heap.size w w3 := h1.trans (HB3.out.mono (by omega))
    have h3 : Below w.heap.size w w4 := h2.trans (HB4.out.mono (by omega))
    refine h3.trans (Below.mono (B := w4.heap.size) ?_ (by omega))
    (repeat (first | exact Below.refl _ _ | apply Below.drew | apply below_drewN | (refine Below.alloc ?_ (by simp <;> omega) _) | (refine Below.setCell ?_ (by simp <;> omega) _)))
theorem law (a0 : ByteArray) (a1 : Int) (a2 : Int) (w : World) (w0 : a0.size ≤ maxLen) (w1 : (Lit.int .i64 a1).wf = true) (w2 : (Lit.int .i64 a2).wf = true) :
    Calls Try.prog 5 #[.string a0, .int .i64 a1, .int .i64 a2] w fun e w' => e = .returned (.bool true) ∧ Below w.heap.size w w' := by
  by_cases hs : a0.size ≤ 1048576
  · have hd : decide (a0.size ≤ 1048576) = true := by simp [hs]
    by_cases h1 : 0 ≤ a1
    · by_cases h2 : a1 ≤ a2
      · by_cases h3 : a2 ≤ a0.size
        · obtain ⟨i, rfl⟩ := Int.eq_ofNat_of_zero_le h1
          obtain ⟨j, rfl⟩ := Int.eq_ofNat_of_zero_le (Int.le_trans h1 h2)
          exact main a0 i j w w0 hs (by omega) (by omega)
        · have d1 : decide (a1 < 0) = false := by simp; omega
          have d2 : decide (a2 < a1) = false := by simp; omega
          have d3 : decide ((a0.size : Int) < a2) = true := by simp; omega
          go_enter Try.func5, Try.ntmps5
          go_wp2_with (go_at_call 11; refine (zzBytes _ _ _ _ w0).mono ?_; rintro e w' ⟨rfl, rfl⟩)
          go_ret
          exact ⟨rfl, Below.refl _ _⟩
      · have d1 : decide (a1 < 0) = false := by simp; omega
        have d2 : decide (a2 < a1) = true := by simp; omega
        go_enter Try.func5, Try.ntmps5
        go_wp2_with (go_at_call 11; refine (zzBytes _ _ _ _ w0).mono ?_; rintro e w' ⟨rfl, rfl⟩)
        go_ret
        exact ⟨rfl, Below.refl _ _⟩
    · have d1 : decide (a1 < 0) = true := by simp; omega
      go_enter Try.func5, Try.ntmps5
      go_wp2_with (go_at_call 11; refine (zzBytes _ _ _ _ w0).mono ?_; rintro e w' ⟨rfl, rfl⟩)
      go_ret
      exact ⟨rfl, Below.refl _ _⟩
  · have hd : decide (a0.size ≤ 1048576) = false := by simp [hs]
    go_enter Try.func5, Try.ntmps5
    go_wp2_with (go_at_call 11; refine (zzBytes _ _ _ _ w0).mono ?_; rintro e w' ⟨rfl, rfl⟩)
    go_ret
    exact ⟨rfl, Below.refl _ _⟩
end Go.Proofs.Ytdifphanmemmlab.LocL
