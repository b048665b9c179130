/- FnStepWalkCoversText: the law. -/
import Derived.Test.YtdajemigdciphacDoorRows
import Derived.Test.YtdajemigdciphacDoorMem
import Derived.Test.YtdajemigdciphacDoorSl
import Derived.Test.YtdajemigdciphacDoorStA
import Derived.Deep.RegionHeld3
import Derived.Great.BuildSlice
import Derived.Lib.LaidU8
import Derived.LaidMore
import Derived.WalkKit
import Derived.ProofKit
import Derived.OpenShut
import Derived.Below
import Derived.WalkLawsBesides
import Derived.Lib.Hide
import Derived.Outline
import Derived.RegionTactic
import Derived.Deep.QuietTactic
import Derived.BigQuiet
import Derived.WalkSpells
import Derived.Deep.OwnRows
import Derived.IntWalk
import Derived.Deep.DeepMust
namespace Go.Proofs.YtdajemigdciphacDoor.StB
open Go.RowKit Mem Sl
set_option linter.unusedVariables false
open Step Dec StA

noncomputable def zo : Array Value := match (Tryd.prog.info? 50).bind (fun i => i.zero) with | some (.agg cs) => cs | _ => #[]
noncomputable def zp : Array Value := match (Tryd.prog.info? 72).bind (fun i => i.zero) with | some (.agg cs) => cs | _ => #[]
noncomputable def src (s : ByteArray) : Array Value := zo.setIfInBounds 3 (.string s)
noncomputable def lxr (s : ByteArray) : Array Value := zp.setIfInBounds 14 (.string s)
theorem lxr_size (s : ByteArray) : (lxr s).size = 85 := by kernel_rfl
theorem lxr14 (s : ByteArray) : (lxr s)[14]? = some (.string s) := by kernel_rfl
theorem lxr52 (s : ByteArray) : (lxr s)[52]? = some (.int .i64 0) := by kernel_rfl
theorem lxr55 (s : ByteArray) : (lxr s)[55]? = some (.int .i64 0) := by kernel_rfl
def New (w : World) (s : ByteArray) (e : Ending) (w' : World) : Prop := ∃ cs, e = .returned (.pointer (some ⟨w.heap.size, 0, none⟩)) ∧ Lex w' w.heap.size s 0 0 cs ∧ Below w.heap.size w w'
set_option maxRecDepth 100000 in
set_option maxHeartbeats 1000000 in
theorem new5 (s : ByteArray) (w : World) : Calls Tryd.prog 5 #[.string s, .int .i64 0] w (New w s) := by
  obtain ⟨W, hW, hrow, hbel, hsz⟩ := made_box w 72 (lxr s)
  have HW := Lib.hid hW
  have HR := Lib.hid hrow
  have HB := Lib.hid hbel
  clear hW hrow hbel hsz
  go_enter Tryd.func5, Tryd.ntmps5
  go_wp2_with (first | (refine wpList_buildTo rfl 50 _ rfl (some 6) rfl (src s) (by kernel_rfl) ?_) | (refine wpList_buildTo rfl 72 _ rfl (some 8) rfl (lxr s) (by kernel_rfl) ?_))
  rw [HW.out]
  go_ret
  exact ⟨_, rfl, ⟨HR.out, by simpa using lxr_size s, by simpa using lxr14 s, by simpa using lxr52 s, by simpa using lxr55 s⟩, HB.out⟩
theorem bytes4 (s : ByteArray) (w : World) (hs : s.size ≤ maxLen) : Calls Tryd.prog 4 #[.string s] w fun e w' => e = .returned (.bool (decide (s.size ≤ 1048576))) ∧ w = w' := by
  unfold maxLen at hs
  by_cases h : s.size ≤ 1048576
  · go_enter Tryd.func4, Tryd.ntmps4
    go_wp2
    go_ret
    exact ⟨ret_bool (by simp [h]), rfl⟩
  · go_enter Tryd.func4, Tryd.ntmps4
    go_wp2
    go_ret
    exact ⟨ret_bool (by simp [h]), rfl⟩
/-- At the head of a round. -/
def Rl (w : World) (s : ByteArray) (s4 s5 : Value) (wr : World) : Prop :=
  ∃ (k cur nl : Nat) (cs : List Value) (wv : World), wv = wr ∧ s4 = .int .i64 (cur : Int) ∧ s5 = .int .i64 (k : Int) ∧ k ≤ cur ∧ cur ≤ s.size ∧ nl = nls s cur ∧ Lex wr w.heap.size s cur nl cs ∧ Below w.heap.size w wr
set_option maxHeartbeats 4000000 in
set_option maxRecDepth 100000 in
theorem law_go (s : ByteArray) (w : World) (hs : s.size ≤ 1048576) (hT : Lib.Utf8Tabs 0 1 w) :
    Calls Tryd.prog 3 #[.string s] w fun e w' => e = .returned (.bool true) ∧ Below w.heap.size w w' := by
  have HT := Lib.hid hT
  clear hT
  have K4 := Lib.hid (bytes4 s w (by unfold maxLen; omega))
  rw [show decide (s.size ≤ 1048576) = true by simp [hs]] at K4
  go_enter Tryd.func3, Tryd.ntmps3
  go_wp2_with fail
  refine K4.out.mono ?_
  rintro e w' ⟨rfl, rfl⟩
  go_wp2_with fail
  refine (new5 s w).mono ?_
  rintro e w1 ⟨cs0, rfl, hL0, hb0⟩
  have HL0 := Lib.hid hL0
  have HB0 := Lib.hid hb0
  clear hL0 hb0 K4
  go_wp2_with fail
  go_loopw [4, 5] (fun s4 s5 wr => Rl w s s4 s5 wr) (fun _ s5 _ => s.size + 1 - (intOf s5).toNat)
  case atStart => exact ⟨0, 0, 0, cs0, _, rfl, rfl, rfl, Nat.le_refl _, Nat.zero_le _, rfl, HL0.out, HB0.out⟩
  case round =>
    obtain ⟨k, cur, nl, cs, wx, rfl, rfl, rfl, hkc, hcs, hnl, hL, hB⟩ := hrel
    have hnle : nl ≤ cur := by rw [hnl]; exact nls_le s cur
    have HNL := Lib.hid hnl
    have HB := Lib.hid hB
    have HTX := Lib.hid (tabs_later HT.out hB)
    have hwp : w.heap.size < wx.heap.size := hL.row.lt
    have tcc : ((cur : Int) != (cur : Int)) = false := by simp
    clear hnl hB
    by_cases hlt : cur < s.size
    · obtain ⟨R, W, hd⟩ : ∃ R W, Utf8.decode s cur = (R, W) := ⟨_, _, rfl⟩
      have hsp := dec_span s cur hlt
      have hsc := dec_scalar s cur
      have hnd := nls_dec s cur
      rw [hd] at hsp hsc hnd
      simp only at hsp hsc hnd
      obtain ⟨nl2, hn2⟩ : ∃ nl2, nl2 = nl + if R = 10 then 1 else 0 := ⟨_, rfl⟩
      have hn3 : nl2 = nls s (cur + W) := by rw [hnd, ← HNL.out, hn2]
      have K6 := Lib.hid (step6 wx w.heap.size s (R : Int) cur (cur + W) nl2 (StA.step_in wx w.heap.size s cur nl R W cs hs hL HTX.out hlt hd hnle nl2 hn2))
      have HN3 := Lib.hid hn3
      obtain ⟨hW1, hW4, hWs⟩ := hsp
      obtain ⟨hR1, hR2⟩ := hsc
      have t1 : ((R : Int) == -1) = false := by first | (simp; done) | (simp; omega)
      have HSC := Lib.hid hR2
      clear hnd hn2 hn3 hd hL hR2
      have tR : decide (55296 ≤ (R : Int)) = false ∨ (decide (55296 ≤ (R : Int)) = true ∧ decide ((R : Int) ≤ 57343) = false) := by
        rcases HSC.out with h | h
        · exact .inl (by simp; omega)
        · exact .inr ⟨by simp; omega, by simp; omega⟩
      rcases tR with tR | ⟨tR, tR2⟩
      all_goals
        go_wp2_with fail
        refine K6.out.mono ?_
        rintro e w2 ⟨rfl, hsz, ⟨cs2, hL2, h66, h54⟩, hbel⟩
        have c54 := hL2.row.at_ h54
        have c66 := hL2.row.at_ h66
        have c52 := hL2.row.at_ hL2.cur
        have HL2 := Lib.hid hL2
        have HB2 := Lib.hid (HB.out.trans (hbel w.heap.size (Nat.le_refl _) HB.out.size))
        clear hL2 h66 h54 hbel
        go_wp2_with (first | (go_at_call 7; refine (end7 _ _ (cur : Int) c54).mono ?_; rintro e w' ⟨rfl, rfl⟩) | (go_at_call 8; refine (cp8 _ _ (R : Int) c66).mono ?_; rintro e w' ⟨rfl, rfl⟩) | (go_at_call 9; refine (cur9 _ _ ((cur + W : Nat) : Int) c52).mono ?_; rintro e w' ⟨rfl, rfl⟩))
        go_roundw
        case rel => exact ⟨k + 1, cur + W, nl2, cs2, _, rfl, rfl, by go_num, by omega, hWs, HN3.out, HL2.out, HB2.out⟩
        case measure => simp [intOf]; omega
    · obtain rfl : cur = s.size := by omega
      have K6 := Lib.hid (step6 wx w.heap.size s (-1) s.size s.size nl (StA.step_end wx w.heap.size s nl cs hs hL HTX.out))
      clear hL
      go_wp2_with fail
      refine K6.out.mono ?_
      rintro e w2 ⟨rfl, hsz, ⟨cs2, hL2, h66, h54⟩, hbel⟩
      have c54 := hL2.row.at_ h54
      have c66 := hL2.row.at_ h66
      have c52 := hL2.row.at_ hL2.cur
      have c55 := hL2.row.at_ hL2.nl
      have K9 := Lib.hid (fun n => (cur9 (w2.drewN n) w.heap.size (s.size : Int) c52).mono (fun e w' (h : e = _ ∧ w2.drewN n = w') => (show e = _ ∧ w' = w2.drewN n from ⟨h.1, h.2.symm⟩)))
      have hK10 := fun n => (count10 (w2.drewN n) s hs).mono (fun e w' (h : e = _ ∧ w2.drewN n = w') => (show e = _ ∧ w' = w2.drewN n from ⟨h.1, h.2.symm⟩))
      rw [← HNL.out] at hK10
      have K10 := Lib.hid hK10
      have HB2 := Lib.hid (HB.out.trans (hbel w.heap.size (Nat.le_refl _) HB.out.size))
      clear hL2 h66 h54 hbel hK10
      have tss : ((s.size : Int) == (s.size : Int)) = true := by simp
      have tnn : ((nl : Int) == (nl : Int)) = true := by simp
      go_wp2_with (first | (go_at_call 7; refine (end7 _ _ (s.size : Int) c54).mono ?_; rintro e w' ⟨rfl, rfl⟩) | (go_at_call 8; refine (cp8 _ _ (-1) c66).mono ?_; rintro e w' ⟨rfl, rfl⟩))
      go_quiet ((first | (go_at_call 9; exact Calls.quiet_of_same (K9.out _)) | (go_at_call 10; exact Calls.quiet_of_same (K10.out _))))
      go_wp2_with fail
      go_ret
      exact ⟨rfl, HB2.out.trans ⟨rfl, rfl, rfl, Nat.le_refl _, fun _ _ => rfl⟩⟩
theorem law (a0 : ByteArray) (w : World) (w0 : a0.size ≤ maxLen) (hT : Lib.Utf8Tabs 0 1 w) :
    Calls Tryd.prog 3 #[.string a0] w fun e w' => e = .returned (.bool true) ∧ Below w.heap.size w w' := by
  by_cases hs : a0.size ≤ 1048576
  · exact law_go a0 w hs hT
  · have K4 := Lib.hid (bytes4 a0 w w0)
    rw [show decide (a0.size ≤ 1048576) = false by simp; omega] at K4
    go_enter Tryd.func3, Tryd.ntmps3
    go_wp2_with fail
    refine K4.out.mono ?_
    rintro e w' ⟨rfl, rfl⟩
    go_wp2_with fail
    go_ret
    exact ⟨rfl, Below.refl _ _⟩
theorem of_laid {w : World} (hL : laidMetH Tryd.prog Rows.fnStepWalkCoversTextRow.laid w) : Lib.Utf8Tabs 0 1 w := by
  have hL' : laidMet Tryd.prog Rows.fnStepWalkCoversTextRow.laid w := hL
  have e1 : Rows.laid_unicode_utf8_first = Lib.firstData := by kernel_rfl
  have e2 : (Rows.laid_unicode_utf8_acceptRanges : DataW Unit) = Lib.acceptData := by kernel_rfl
  have m1 : ("unicode/utf8.first", Lib.firstData) ∈ Rows.fnStepWalkCoversTextRow.laid := by rw [← e1]; exact .tail _ (.head _)
  have m2 : ("unicode/utf8.acceptRanges", Lib.acceptData) ∈ Rows.fnStepWalkCoversTextRow.laid := by rw [← e2]; exact .head _
  exact utf8Tabs_of_reads (ρ := Tryd.lays260_ren) Tryd.lays260 ⟨by kernel_rfl, by kernel_rfl, by kernel_rfl, by kernel_rfl, by kernel_rfl, by kernel_rfl, by kernel_rfl⟩ (Lib.laidMet.reads hL' m1) (Lib.laidMet.reads hL' m2)
end Go.Proofs.YtdajemigdciphacDoor.StB
