/- FnPrintQuotedUTF8QuoteAndLength: helpers. -/
import Derived.Test.YtmakaafjkeeooabFmtRows
import Derived.Test.YtmakaafjkeeooabFmtMem
import Derived.Test.YtmakaafjkeeooabFmtSl
import Derived.Test.YtmakaafjkeeooabFmtPrn
import Derived.Test.YtmakaafjkeeooabFmtPru
import Derived.Test.YtmakaafjkeeooabFmtOwg
import Derived.Test.YtmakaafjkeeooabFmtDec
import Derived.Test.YtmakaafjkeeooabFmtEnc
import Derived.Test.YtmakaafjkeeooabFmtOwn
import Derived.Great.BuildSlice
import Derived.Deep.RegionLaw
import Derived.Laws.RangeAny
import Derived.Deep.DeepCutAuto
import Derived.Deep.Cut
import Derived.WalkKit
import Derived.ProofKit
import Derived.OpenShut
import Derived.Below
import Derived.WalkLawsBesides
import Derived.Lib.Hide
import Derived.Outline
import Derived.RegionTactic
import Derived.Deep.QuietTactic
import Derived.BigQuiet
import Derived.WalkSpells
import Derived.Deep.OwnRows
import Derived.IntWalk
import Derived.Deep.DeepMust
namespace Go.Proofs.YtmakaafjkeeooabFmt.QuA
open Go.RowKit Mem Sl
set_option linter.unusedVariables false
open Prn Pru Own Owg Dec Enc
theorem info5 : (Tryf.prog.info? 5).map (fun i => (i.zero, i.size, i.bytes)) = some (some (.int .u8 0), 1, 1) := by kernel_rfl
theorem info87 : (Tryf.prog.info? 87).map (fun i => (i.zero, i.size, i.bytes)) = some (some (.int .u16 0), 1, 2) := by kernel_rfl

theorem clone6_info : (Tryf.prog.info? 5).map (fun i => (i.zero, i.size, i.bytes)) = some (some (.int .u8 0), 1, 1) := by kernel_rfl
set_option maxHeartbeats 400000 in
theorem clone6 (A : Option Addr) (n c : Nat) (zs : List Int) (w : World) (h : Args.IsInts .u8 w A n c zs) (hn : n ≤ 1048576) :
    Calls Tryf.prog 6 #[.slice A n c] w fun e w' => Cloned .u8 5 w A n zs e w' := by
  have heq := fun (W : World) (X : Option Addr) (l cc : Nat) => Lib.run_eql_slice_nil (P := Tryf.prog) W 22 5 X l cc 0 0 Tryf.underlying22
  rcases A with _ | a
  · obtain ⟨h1, h2, h3, h4, h5, h6⟩ := h
    have hc := h5 rfl
    obtain rfl : n = 0 := by omega
    obtain rfl : zs = [] := List.eq_nil_of_length_eq_zero h3
    go_enter Tryf.func6, Tryf.ntmps6
    go_wp2
    go_ret
    exact ⟨_, rfl, .inl ⟨rfl, rfl, rfl⟩⟩
  · have hmk := fun W => run_make_row' (P := Tryf.prog) 22 5 (.int .u8 0) 1 Tryf.underlying22 clone6_info rfl .i64 .i64 n (by omega) (by omega) W
    have hlen := h.2.2.1
    have hrd := fun k => h.read k
    have HR := Lib.hid hrd
    clear hrd
    go_enter Tryf.func6, Tryf.ntmps6
    go_wp2
    go_loopw [4] (fun i wr => ∃ k : Nat, k ≤ n ∧ i = .int .i64 k ∧ Row wr w.heap.size 5 (filled (iv .u8 zs) (.int .u8 0) k) ∧ Below w.heap.size w wr ∧ wr.heap.size = w.heap.size + 1) (fun i _ => n - (intOf i).toNat)
    case atStart =>
      refine ⟨0, Nat.zero_le _, rfl, ?_, (Below.refl _ _).alloc (Nat.le_refl _) _, by simp⟩
      rw [filled_zero, iv_length, hlen]
      exact made_row w 5 (.int .u8 0) n
    case round =>
      obtain ⟨k, hk, rfl, hrow, hbel, hsz⟩ := hrel
      have HS := Lib.hid hsz
      clear hsz
      by_cases hlt : k < n
      · obtain ⟨b, off, ha, hb, hcell⟩ := HR.out k hlt
        injection ha with ha
        subst ha
        obtain ⟨x, hx⟩ : ∃ x, x = zs.getD k 0 := ⟨_, rfl⟩
        rw [← hx] at hcell
        have c1 := cell_later hbel hcell
        have hl : k < (iv .u8 zs).length := by rw [iv_length]; omega
        have c2 := hrow.at_ (filled_at (iv .u8 zs) (.int .u8 0) k hl)
        have c3 := hrow.frozen k
        have hset := hrow.set k (.int .u8 x)
        rw [filled_set _ _ k hl _ (by rw [hx]; exact iv_at .u8 zs k (by omega))] at hset
        have HSET := Lib.hid hset
        have HB := Lib.hid hbel
        clear hset hbel hrow hcell hx
        go_wp2
        go_roundw
        case rel => exact ⟨k + 1, by omega, by go_num, HSET.out, HB.out.setCell (Nat.le_refl _) _, by simpa using HS.out⟩
        case measure => simp [intOf]; omega
      · have hkn : k = n := by omega
        subst hkn
        have HROW := Lib.hid hrow
        have HB := Lib.hid hbel
        clear hrow hbel
        go_wp2
        go_ret
        refine ⟨_, rfl, .inr ⟨by simp, rfl, ?_, HB.out, HS.out⟩⟩
        have h1 := HROW.out
        rwa [← hlen, ← iv_length .u8 zs, filled_all] at h1

set_option maxHeartbeats 1000000 in
theorem bytes4 (A0 : Option Addr) (n0 c0 : Nat) (y1 : ByteArray) (y2 : Int) (y3 : Bool) (w : World) (m0 : n0 ≤ maxLen) (m1 : y1.size ≤ maxLen) : Calls Tryf.prog 4 #[.slice A0 n0 c0, .string y1, .int .u8 y2, .bool y3] w fun e w' => e = .returned (.bool (decide (n0 + y1.size ≤ 1048576))) ∧ w = w' := by
  unfold maxLen at *
  by_cases h0 : n0 ≤ 1048576
  case neg =>
    go_enter Tryf.func4, Tryf.ntmps4
    go_wp2_with fail
    go_ret
    exact ⟨congrArg (fun b => Ending.returned (Value.bool b)) (show false = decide (n0 + y1.size ≤ 1048576) by symm; simp; omega), rfl⟩
  by_cases h1 : y1.size ≤ 1048576
  case neg =>
    go_enter Tryf.func4, Tryf.ntmps4
    go_wp2_with fail
    go_ret
    exact ⟨congrArg (fun b => Ending.returned (Value.bool b)) (show false = decide (n0 + y1.size ≤ 1048576) by symm; simp; omega), rfl⟩
  by_cases g1 : n0 + y1.size ≤ 1048576
  case neg =>
    go_enter Tryf.func4, Tryf.ntmps4
    go_wp2_with fail
    go_ret
    exact ⟨congrArg (fun b => Ending.returned (Value.bool b)) (show false = decide (n0 + y1.size ≤ 1048576) by symm; simp; omega), rfl⟩
  go_enter Tryf.func4, Tryf.ntmps4
  go_wp2_with fail
  go_ret
  exact ⟨congrArg (fun b => Ending.returned (Value.bool b)) (show true = decide (n0 + y1.size ≤ 1048576) by symm; simp; omega), rfl⟩

set_option maxRecDepth 100000 in
set_option maxHeartbeats 400000 in
theorem print15 (p : Nat) (cs : List Value) (v : Value) (zs : List Int) (s : ByteArray) (w : World) (h : Pr w p 79 9 5 cs v zs) (hb : zs.length + s.size ≤ 1000000000) :
    Calls Tryf.prog 15 #[.pointer (some ⟨p, 0, none⟩), .string s] w fun e w' => e = .returned (.tuple #[]) ∧ Printed w p 79 9 5 cs v (zs ++ nums s) w' := by
  obtain ⟨i0, hi, hz0, hz1, hz2⟩ := info_parts info5
  obtain ⟨A0, c0, rfl⟩ := h.buf.form
  have c1 := h.row.at_ h.at_
  have H := Lib.hid h
  clear h
  go_enter Tryf.func15, Tryf.ntmps15
  go_wp2_with (at_builtin; refine wpList_append_str _ rfl (.tmp 8) (.tmp 9) 22 9 rfl 5 i0 Tryf.underlying22 Tryf.underlying9 hi hz0 hz1 hz2 (.slice A0 zs.length c0) zs rfl H.out.buf s rfl hb ?_; intro A1 n1 cp1 w1 hbuf hgr hat; obtain ⟨k1, k2, k3, k4⟩ := H.out.store (by decide) hbuf (.of_grown hgr hat) hgr; have K1 := Lib.hid k1; have K2 := Lib.hid k2; clear k1 k2 hbuf hgr hat)
  go_end0
  exact ⟨rfl, _, K1.out, K2.out⟩

theorem has14 (k : Int) (w : World) (hk : k = 72057594037927936 ∨ k = 68719476736) : Calls Tryf.prog 14 #[.int .u64 0, .int .u64 k] w fun e w' => e = .returned (.bool false) ∧ w = w' := by
  rcases hk with rfl | rfl
  all_goals
    go_enter Tryf.func14, Tryf.ntmps14
    go_wp2
    go_ret
    exact ⟨rfl, rfl⟩
noncomputable def zo : Array Value := match (Tryf.prog.info? 48).bind (fun i => i.zero) with | some (.agg cs) => cs | _ => #[]
noncomputable def zp : Array Value := match (Tryf.prog.info? 79).bind (fun i => i.zero) with | some (.agg cs) => cs | _ => #[]
/-- The cells of a fresh printer that holds v as its output. -/
noncomputable def prn (v : Value) (m b : Bool) : Array Value := ((zp.setIfInBounds 30 (.bool m)).setIfInBounds 34 (.bool b)).setIfInBounds 9 v
theorem prn9 (v : Value) (m b : Bool) : (prn v m b)[9]? = some v := by kernel_rfl
theorem prn24 (v : Value) (m b : Bool) : (prn v m b)[24]? = some (.int .u64 0) := by kernel_rfl
theorem prn26 (v : Value) (m b : Bool) : (prn v m b)[26]? = some (.int .i64 0) := by kernel_rfl
theorem prn30 (v : Value) (m b : Bool) : (prn v m b)[30]? = some (.bool m) := by kernel_rfl
theorem prn31 (v : Value) (m b : Bool) : (prn v m b)[31]? = some (.bool false) := by kernel_rfl
set_option maxRecDepth 100000 in
theorem new7 (A : Option Addr) (n c : Nat) (m : Bool) (w : World) :
    Calls Tryf.prog 7 #[.slice A n c, .bool m, .bool false] w fun e w' => e = .returned (.pointer (some ⟨w.heap.size, 0, none⟩)) ∧ w.alloc (.cells (prn (.slice A n c) m false) 79) = w' := by
  go_enter Tryf.func7, Tryf.ntmps7
  go_wp2_with (first | (refine wpList_buildTo rfl 48 _ rfl (some 10) rfl ((zo.setIfInBounds 18 (.bool m)).setIfInBounds 22 (.bool false)) (by kernel_rfl) ?_) | (refine wpList_buildTo rfl 79 _ rfl (some 11) rfl (prn (.slice A n c) m false) (by kernel_rfl) ?_))
  go_ret
  exact ⟨rfl, rfl⟩
theorem js9 (p : Nat) (v : Value) (w : World) (h : w.cell? ⟨p, 9, none⟩ = some v) :
    Calls Tryf.prog 9 #[.pointer (some ⟨p, 0, none⟩)] w fun e w' => e = .returned v ∧ w = w' := by
  go_enter Tryf.func9, Tryf.ntmps9
  go_wp2
  go_ret
  exact ⟨rfl, rfl⟩
theorem by_int (s : ByteArray) (k : Nat) (h : k < s.size) : ∃ b : UInt8, s[k] = b := ⟨_, rfl⟩
theorem idx_any (s : ByteArray) (i : Nat) (h : i < s.size) : ∃ z : Int, 0 ≤ z ∧ z ≤ 255 ∧ ∀ W : World, (Instr.index 9 (.string s) (.int .i64 (i : Int))).run Tryf.prog W = .ok (.int .u8 z) W :=
  ⟨((s[i].toNat : Nat) : Int), by omega, by have := s[i].toNat_lt; omega, fun W => by simp [go_sem, h]⟩
/-- What the law's own decoding answers: nothing is said of the rune. -/
def Dcd (w : World) (e : Ending) (w' : World) : Prop := ∃ (r : Int) (n : Nat) (b : Bool), e = .returned (.tuple #[.int .i32 r, .int .i64 (n : Int), .bool b]) ∧ 1 ≤ n ∧ n ≤ 4 ∧ w = w'

set_option maxRecDepth 100000 in
set_option maxHeartbeats 8000000 in
theorem dec_a (s : ByteArray) (i : Nat) (bz : Int) (w : World) (hs : s.size ≤ 1048576) (hi : i < s.size) (hz : ∀ W : World, (Instr.index 9 (.string s) (.int .i64 (i : Int))).run Tryf.prog W = .ok (.int .u8 bz) W) (h0 : 0 ≤ bz) (h : bz < 128) : Calls Tryf.prog 10 #[.string s, .int .i64 (i : Int)] w (Dcd w) := by
  have t93212 : decide (bz < 128) = true := by simp; omega
  go_enter Tryf.func10, Tryf.ntmps10
  go_wp2_with fail
  all_goals (go_ret3; exact ⟨_, 1, _, rfl, by omega, by omega, rfl⟩)

set_option maxRecDepth 100000 in
set_option maxHeartbeats 8000000 in
theorem dec_2 (s : ByteArray) (i : Nat) (bz : Int) (w : World) (hs : s.size ≤ 1048576) (hi : i < s.size) (hz : ∀ W : World, (Instr.index 9 (.string s) (.int .i64 (i : Int))).run Tryf.prog W = .ok (.int .u8 bz) W) (h0 : 194 ≤ bz) (h : bz ≤ 223) : Calls Tryf.prog 10 #[.string s, .int .i64 (i : Int)] w (Dcd w) := by
  have t93212 : decide (bz < 128) = false := by simp; omega
  have t12475 : decide ((194 : Int) ≤ bz) = true := by simp; omega
  have t67658 : decide (bz ≤ 223) = true := by simp; omega
  by_cases hin : (s.size : Int) ≤ (i : Int) + 1
  · have tin : decide ((s.size : Int) ≤ (i : Int) + 1) = true := by simp; omega
    go_enter Tryf.func10, Tryf.ntmps10
    go_wp2_with fail
    go_ret3
    exact ⟨_, 1, _, rfl, by omega, by omega, rfl⟩
  have tin : decide ((s.size : Int) ≤ (i : Int) + 1) = false := by simp; omega
  go_enter Tryf.func10, Tryf.ntmps10
  go_wp2_with fail
  go_loop [12, 13, 14] (fun x12 x13 x14 => ∃ (k : Nat) (r : Int), 1 ≤ k ∧ k ≤ 2 ∧ x12 = .int .i32 r ∧ x13 = .int .i64 (k : Int)) (fun _ x13 _ => 5 - (intOf x13).toNat)
  case atStart => exact ⟨1, _, by omega, by omega, rfl, rfl⟩
  case round =>
    obtain ⟨k, r', hk1, hk2, rfl, rfl⟩ := hrel
    by_cases hlt : k ≤ 1
    · have tle : decide ((k : Int) ≤ 1) = true := by simp; omega
      obtain ⟨z, _, _, hz2⟩ := idx_any s (i + k) (by omega)
      have hz' : ∀ W : World, (Instr.index 9 (.string s) (.int .i64 ((i : Int) + (k : Int)))).run Tryf.prog W = .ok (.int .u8 z) W := fun W => by have := hz2 W; rwa [show ((i + k : Nat) : Int) = (i : Int) + (k : Int) by omega] at this
      clear hz2 hz
      go_wp2_with fail
      all_goals first | (go_ret3; exact ⟨_, 1, _, rfl, by omega, by omega, rfl⟩) | (go_round; (case rel => exact ⟨k + 1, _, by omega, by omega, rfl, by go_num⟩); (case measure => simp [intOf]; omega))
    · have tle : decide ((k : Int) ≤ 1) = false := by simp; omega
      go_wp2_with fail
      go_ret3
      exact ⟨_, 2, _, rfl, by omega, by omega, rfl⟩

set_option maxRecDepth 100000 in
set_option maxHeartbeats 8000000 in
theorem dec_224 (s : ByteArray) (i : Nat) (bz : Int) (w : World) (hs : s.size ≤ 1048576) (hi : i < s.size) (hz : ∀ W : World, (Instr.index 9 (.string s) (.int .i64 (i : Int))).run Tryf.prog W = .ok (.int .u8 bz) W) (h : bz = 224) : Calls Tryf.prog 10 #[.string s, .int .i64 (i : Int)] w (Dcd w) := by
  subst h
  by_cases hin : (s.size : Int) ≤ (i : Int) + 2
  · have tin : decide ((s.size : Int) ≤ (i : Int) + 2) = true := by simp; omega
    go_enter Tryf.func10, Tryf.ntmps10
    go_wp2_with fail
    go_ret3
    exact ⟨_, 1, _, rfl, by omega, by omega, rfl⟩
  have tin : decide ((s.size : Int) ≤ (i : Int) + 2) = false := by simp; omega
  go_enter Tryf.func10, Tryf.ntmps10
  go_wp2_with fail
  go_loop [12, 13, 14] (fun x12 x13 x14 => ∃ (k : Nat) (r : Int), 1 ≤ k ∧ k ≤ 3 ∧ x12 = .int .i32 r ∧ x13 = .int .i64 (k : Int)) (fun _ x13 _ => 5 - (intOf x13).toNat)
  case atStart => exact ⟨1, _, by omega, by omega, rfl, rfl⟩
  case round =>
    obtain ⟨k, r', hk1, hk2, rfl, rfl⟩ := hrel
    by_cases hlt : k ≤ 2
    · have tle : decide ((k : Int) ≤ 2) = true := by simp; omega
      obtain ⟨z, _, _, hz2⟩ := idx_any s (i + k) (by omega)
      have hz' : ∀ W : World, (Instr.index 9 (.string s) (.int .i64 ((i : Int) + (k : Int)))).run Tryf.prog W = .ok (.int .u8 z) W := fun W => by have := hz2 W; rwa [show ((i + k : Nat) : Int) = (i : Int) + (k : Int) by omega] at this
      clear hz2 hz
      go_wp2_with fail
      all_goals first | (go_ret3; exact ⟨_, 1, _, rfl, by omega, by omega, rfl⟩) | (go_round; (case rel => exact ⟨k + 1, _, by omega, by omega, rfl, by go_num⟩); (case measure => simp [intOf]; omega))
    · have tle : decide ((k : Int) ≤ 2) = false := by simp; omega
      go_wp2_with fail
      go_ret3
      exact ⟨_, 3, _, rfl, by omega, by omega, rfl⟩

set_option maxRecDepth 100000 in
set_option maxHeartbeats 8000000 in
theorem dec_237 (s : ByteArray) (i : Nat) (bz : Int) (w : World) (hs : s.size ≤ 1048576) (hi : i < s.size) (hz : ∀ W : World, (Instr.index 9 (.string s) (.int .i64 (i : Int))).run Tryf.prog W = .ok (.int .u8 bz) W) (h : bz = 237) : Calls Tryf.prog 10 #[.string s, .int .i64 (i : Int)] w (Dcd w) := by
  subst h
  by_cases hin : (s.size : Int) ≤ (i : Int) + 2
  · have tin : decide ((s.size : Int) ≤ (i : Int) + 2) = true := by simp; omega
    go_enter Tryf.func10, Tryf.ntmps10
    go_wp2_with fail
    go_ret3
    exact ⟨_, 1, _, rfl, by omega, by omega, rfl⟩
  have tin : decide ((s.size : Int) ≤ (i : Int) + 2) = false := by simp; omega
  go_enter Tryf.func10, Tryf.ntmps10
  go_wp2_with fail
  go_loop [12, 13, 14] (fun x12 x13 x14 => ∃ (k : Nat) (r : Int), 1 ≤ k ∧ k ≤ 3 ∧ x12 = .int .i32 r ∧ x13 = .int .i64 (k : Int)) (fun _ x13 _ => 5 - (intOf x13).toNat)
  case atStart => exact ⟨1, _, by omega, by omega, rfl, rfl⟩
  case round =>
    obtain ⟨k, r', hk1, hk2, rfl, rfl⟩ := hrel
    by_cases hlt : k ≤ 2
    · have tle : decide ((k : Int) ≤ 2) = true := by simp; omega
      obtain ⟨z, _, _, hz2⟩ := idx_any s (i + k) (by omega)
      have hz' : ∀ W : World, (Instr.index 9 (.string s) (.int .i64 ((i : Int) + (k : Int)))).run Tryf.prog W = .ok (.int .u8 z) W := fun W => by have := hz2 W; rwa [show ((i + k : Nat) : Int) = (i : Int) + (k : Int) by omega] at this
      clear hz2 hz
      go_wp2_with fail
      all_goals first | (go_ret3; exact ⟨_, 1, _, rfl, by omega, by omega, rfl⟩) | (go_round; (case rel => exact ⟨k + 1, _, by omega, by omega, rfl, by go_num⟩); (case measure => simp [intOf]; omega))
    · have tle : decide ((k : Int) ≤ 2) = false := by simp; omega
      go_wp2_with fail
      go_ret3
      exact ⟨_, 3, _, rfl, by omega, by omega, rfl⟩

set_option maxRecDepth 100000 in
set_option maxHeartbeats 8000000 in
theorem dec_3 (s : ByteArray) (i : Nat) (bz : Int) (w : World) (hs : s.size ≤ 1048576) (hi : i < s.size) (hz : ∀ W : World, (Instr.index 9 (.string s) (.int .i64 (i : Int))).run Tryf.prog W = .ok (.int .u8 bz) W) (h0 : 225 ≤ bz) (h : bz ≤ 239) (h2 : bz ≠ 237) : Calls Tryf.prog 10 #[.string s, .int .i64 (i : Int)] w (Dcd w) := by
  have t93212 : decide (bz < 128) = false := by simp; omega
  have t12475 : decide ((194 : Int) ≤ bz) = true := by simp; omega
  have t67658 : decide (bz ≤ 223) = false := by simp; omega
  have t4873 : decide ((224 : Int) ≤ bz) = true := by simp; omega
  have t69360 : decide (bz ≤ 239) = true := by simp; omega
  have u224 : (bz == 224) = false := by simp; omega
  have u237 : (bz == 237) = false := by simp; omega
  by_cases hin : (s.size : Int) ≤ (i : Int) + 2
  · have tin : decide ((s.size : Int) ≤ (i : Int) + 2) = true := by simp; omega
    go_enter Tryf.func10, Tryf.ntmps10
    go_wp2_with fail
    go_ret3
    exact ⟨_, 1, _, rfl, by omega, by omega, rfl⟩
  have tin : decide ((s.size : Int) ≤ (i : Int) + 2) = false := by simp; omega
  go_enter Tryf.func10, Tryf.ntmps10
  go_wp2_with fail
  go_loop [12, 13, 14] (fun x12 x13 x14 => ∃ (k : Nat) (r : Int), 1 ≤ k ∧ k ≤ 3 ∧ x12 = .int .i32 r ∧ x13 = .int .i64 (k : Int)) (fun _ x13 _ => 5 - (intOf x13).toNat)
  case atStart => exact ⟨1, _, by omega, by omega, rfl, rfl⟩
  case round =>
    obtain ⟨k, r', hk1, hk2, rfl, rfl⟩ := hrel
    by_cases hlt : k ≤ 2
    · have tle : decide ((k : Int) ≤ 2) = true := by simp; omega
      obtain ⟨z, _, _, hz2⟩ := idx_any s (i + k) (by omega)
      have hz' : ∀ W : World, (Instr.index 9 (.string s) (.int .i64 ((i : Int) + (k : Int)))).run Tryf.prog W = .ok (.int .u8 z) W := fun W => by have := hz2 W; rwa [show ((i + k : Nat) : Int) = (i : Int) + (k : Int) by omega] at this
      clear hz2 hz
      go_wp2_with fail
      all_goals first | (go_ret3; exact ⟨_, 1, _, rfl, by omega, by omega, rfl⟩) | (go_round; (case rel => exact ⟨k + 1, _, by omega, by omega, rfl, by go_num⟩); (case measure => simp [intOf]; omega))
    · have tle : decide ((k : Int) ≤ 2) = false := by simp; omega
      go_wp2_with fail
      go_ret3
      exact ⟨_, 3, _, rfl, by omega, by omega, rfl⟩

set_option maxRecDepth 100000 in
set_option maxHeartbeats 8000000 in
theorem dec_240 (s : ByteArray) (i : Nat) (bz : Int) (w : World) (hs : s.size ≤ 1048576) (hi : i < s.size) (hz : ∀ W : World, (Instr.index 9 (.string s) (.int .i64 (i : Int))).run Tryf.prog W = .ok (.int .u8 bz) W) (h : bz = 240) : Calls Tryf.prog 10 #[.string s, .int .i64 (i : Int)] w (Dcd w) := by
  subst h
  by_cases hin : (s.size : Int) ≤ (i : Int) + 3
  · have tin : decide ((s.size : Int) ≤ (i : Int) + 3) = true := by simp; omega
    go_enter Tryf.func10, Tryf.ntmps10
    go_wp2_with fail
    go_ret3
    exact ⟨_, 1, _, rfl, by omega, by omega, rfl⟩
  have tin : decide ((s.size : Int) ≤ (i : Int) + 3) = false := by simp; omega
  go_enter Tryf.func10, Tryf.ntmps10
  go_wp2_with fail
  go_loop [12, 13, 14] (fun x12 x13 x14 => ∃ (k : Nat) (r : Int), 1 ≤ k ∧ k ≤ 4 ∧ x12 = .int .i32 r ∧ x13 = .int .i64 (k : Int)) (fun _ x13 _ => 5 - (intOf x13).toNat)
  case atStart => exact ⟨1, _, by omega, by omega, rfl, rfl⟩
  case round =>
    obtain ⟨k, r', hk1, hk2, rfl, rfl⟩ := hrel
    by_cases hlt : k ≤ 3
    · have tle : decide ((k : Int) ≤ 3) = true := by simp; omega
      obtain ⟨z, _, _, hz2⟩ := idx_any s (i + k) (by omega)
      have hz' : ∀ W : World, (Instr.index 9 (.string s) (.int .i64 ((i : Int) + (k : Int)))).run Tryf.prog W = .ok (.int .u8 z) W := fun W => by have := hz2 W; rwa [show ((i + k : Nat) : Int) = (i : Int) + (k : Int) by omega] at this
      clear hz2 hz
      go_wp2_with fail
      all_goals first | (go_ret3; exact ⟨_, 1, _, rfl, by omega, by omega, rfl⟩) | (go_round; (case rel => exact ⟨k + 1, _, by omega, by omega, rfl, by go_num⟩); (case measure => simp [intOf]; omega))
    · have tle : decide ((k : Int) ≤ 3) = false := by simp; omega
      go_wp2_with fail
      go_ret3
      exact ⟨_, 4, _, rfl, by omega, by omega, rfl⟩

set_option maxRecDepth 100000 in
set_option maxHeartbeats 8000000 in
theorem dec_244 (s : ByteArray) (i : Nat) (bz : Int) (w : World) (hs : s.size ≤ 1048576) (hi : i < s.size) (hz : ∀ W : World, (Instr.index 9 (.string s) (.int .i64 (i : Int))).run Tryf.prog W = .ok (.int .u8 bz) W) (h : bz = 244) : Calls Tryf.prog 10 #[.string s, .int .i64 (i : Int)] w (Dcd w) := by
  subst h
  by_cases hin : (s.size : Int) ≤ (i : Int) + 3
  · have tin : decide ((s.size : Int) ≤ (i : Int) + 3) = true := by simp; omega
    go_enter Tryf.func10, Tryf.ntmps10
    go_wp2_with fail
    go_ret3
    exact ⟨_, 1, _, rfl, by omega, by omega, rfl⟩
  have tin : decide ((s.size : Int) ≤ (i : Int) + 3) = false := by simp; omega
  go_enter Tryf.func10, Tryf.ntmps10
  go_wp2_with fail
  go_loop [12, 13, 14] (fun x12 x13 x14 => ∃ (k : Nat) (r : Int), 1 ≤ k ∧ k ≤ 4 ∧ x12 = .int .i32 r ∧ x13 = .int .i64 (k : Int)) (fun _ x13 _ => 5 - (intOf x13).toNat)
  case atStart => exact ⟨1, _, by omega, by omega, rfl, rfl⟩
  case round =>
    obtain ⟨k, r', hk1, hk2, rfl, rfl⟩ := hrel
    by_cases hlt : k ≤ 3
    · have tle : decide ((k : Int) ≤ 3) = true := by simp; omega
      obtain ⟨z, _, _, hz2⟩ := idx_any s (i + k) (by omega)
      have hz' : ∀ W : World, (Instr.index 9 (.string s) (.int .i64 ((i : Int) + (k : Int)))).run Tryf.prog W = .ok (.int .u8 z) W := fun W => by have := hz2 W; rwa [show ((i + k : Nat) : Int) = (i : Int) + (k : Int) by omega] at this
      clear hz2 hz
      go_wp2_with fail
      all_goals first | (go_ret3; exact ⟨_, 1, _, rfl, by omega, by omega, rfl⟩) | (go_round; (case rel => exact ⟨k + 1, _, by omega, by omega, rfl, by go_num⟩); (case measure => simp [intOf]; omega))
    · have tle : decide ((k : Int) ≤ 3) = false := by simp; omega
      go_wp2_with fail
      go_ret3
      exact ⟨_, 4, _, rfl, by omega, by omega, rfl⟩

set_option maxRecDepth 100000 in
set_option maxHeartbeats 8000000 in
theorem dec_4 (s : ByteArray) (i : Nat) (bz : Int) (w : World) (hs : s.size ≤ 1048576) (hi : i < s.size) (hz : ∀ W : World, (Instr.index 9 (.string s) (.int .i64 (i : Int))).run Tryf.prog W = .ok (.int .u8 bz) W) (h0 : 241 ≤ bz) (h : bz ≤ 243) : Calls Tryf.prog 10 #[.string s, .int .i64 (i : Int)] w (Dcd w) := by
  have t93212 : decide (bz < 128) = false := by simp; omega
  have t12475 : decide ((194 : Int) ≤ bz) = true := by simp; omega
  have t67658 : decide (bz ≤ 223) = false := by simp; omega
  have t4873 : decide ((224 : Int) ≤ bz) = true := by simp; omega
  have t69360 : decide (bz ≤ 239) = false := by simp; omega
  have t5386 : decide ((240 : Int) ≤ bz) = true := by simp; omega
  have t22905 : decide (bz ≤ 244) = true := by simp; omega
  have u240 : (bz == 240) = false := by simp; omega
  have u244 : (bz == 244) = false := by simp; omega
  by_cases hin : (s.size : Int) ≤ (i : Int) + 3
  · have tin : decide ((s.size : Int) ≤ (i : Int) + 3) = true := by simp; omega
    go_enter Tryf.func10, Tryf.ntmps10
    go_wp2_with fail
    go_ret3
    exact ⟨_, 1, _, rfl, by omega, by omega, rfl⟩
  have tin : decide ((s.size : Int) ≤ (i : Int) + 3) = false := by simp; omega
  go_enter Tryf.func10, Tryf.ntmps10
  go_wp2_with fail
  go_loop [12, 13, 14] (fun x12 x13 x14 => ∃ (k : Nat) (r : Int), 1 ≤ k ∧ k ≤ 4 ∧ x12 = .int .i32 r ∧ x13 = .int .i64 (k : Int)) (fun _ x13 _ => 5 - (intOf x13).toNat)
  case atStart => exact ⟨1, _, by omega, by omega, rfl, rfl⟩
  case round =>
    obtain ⟨k, r', hk1, hk2, rfl, rfl⟩ := hrel
    by_cases hlt : k ≤ 3
    · have tle : decide ((k : Int) ≤ 3) = true := by simp; omega
      obtain ⟨z, _, _, hz2⟩ := idx_any s (i + k) (by omega)
      have hz' : ∀ W : World, (Instr.index 9 (.string s) (.int .i64 ((i : Int) + (k : Int)))).run Tryf.prog W = .ok (.int .u8 z) W := fun W => by have := hz2 W; rwa [show ((i + k : Nat) : Int) = (i : Int) + (k : Int) by omega] at this
      clear hz2 hz
      go_wp2_with fail
      all_goals first | (go_ret3; exact ⟨_, 1, _, rfl, by omega, by omega, rfl⟩) | (go_round; (case rel => exact ⟨k + 1, _, by omega, by omega, rfl, by go_num⟩); (case measure => simp [intOf]; omega))
    · have tle : decide ((k : Int) ≤ 3) = false := by simp; omega
      go_wp2_with fail
      go_ret3
      exact ⟨_, 4, _, rfl, by omega, by omega, rfl⟩

set_option maxRecDepth 100000 in
set_option maxHeartbeats 8000000 in
theorem dec_b1 (s : ByteArray) (i : Nat) (bz : Int) (w : World) (hs : s.size ≤ 1048576) (hi : i < s.size) (hz : ∀ W : World, (Instr.index 9 (.string s) (.int .i64 (i : Int))).run Tryf.prog W = .ok (.int .u8 bz) W) (h0 : 128 ≤ bz) (h : bz < 194) : Calls Tryf.prog 10 #[.string s, .int .i64 (i : Int)] w (Dcd w) := by
  have t93212 : decide (bz < 128) = false := by simp; omega
  have t12475 : decide ((194 : Int) ≤ bz) = false := by simp; omega
  have t4873 : decide ((224 : Int) ≤ bz) = false := by simp; omega
  have t5386 : decide ((240 : Int) ≤ bz) = false := by simp; omega
  go_enter Tryf.func10, Tryf.ntmps10
  go_wp2_with fail
  all_goals (go_ret3; exact ⟨_, 1, _, rfl, by omega, by omega, rfl⟩)

set_option maxRecDepth 100000 in
set_option maxHeartbeats 8000000 in
theorem dec_b2 (s : ByteArray) (i : Nat) (bz : Int) (w : World) (hs : s.size ≤ 1048576) (hi : i < s.size) (hz : ∀ W : World, (Instr.index 9 (.string s) (.int .i64 (i : Int))).run Tryf.prog W = .ok (.int .u8 bz) W) (h0 : 244 < bz) (h : bz ≤ 255) : Calls Tryf.prog 10 #[.string s, .int .i64 (i : Int)] w (Dcd w) := by
  have t93212 : decide (bz < 128) = false := by simp; omega
  have t12475 : decide ((194 : Int) ≤ bz) = true := by simp; omega
  have t67658 : decide (bz ≤ 223) = false := by simp; omega
  have t4873 : decide ((224 : Int) ≤ bz) = true := by simp; omega
  have t69360 : decide (bz ≤ 239) = false := by simp; omega
  have t5386 : decide ((240 : Int) ≤ bz) = true := by simp; omega
  have t22905 : decide (bz ≤ 244) = false := by simp; omega
  go_enter Tryf.func10, Tryf.ntmps10
  go_wp2_with fail
  all_goals (go_ret3; exact ⟨_, 1, _, rfl, by omega, by omega, rfl⟩)

theorem dec10 (s : ByteArray) (i : Nat) (w : World) (hs : s.size ≤ 1048576) (hi : i < s.size) : Calls Tryf.prog 10 #[.string s, .int .i64 (i : Int)] w (Dcd w) := by
  obtain ⟨bz, h0, h1, hz⟩ := idx_any s i hi
  by_cases c1 : bz < 128
  · exact dec_a s i bz w hs hi hz h0 c1
  by_cases c2 : bz < 194
  · exact dec_b1 s i bz w hs hi hz (by omega) c2
  by_cases c3 : bz ≤ 223
  · exact dec_2 s i bz w hs hi hz (by omega) c3
  by_cases c4 : bz = 224
  · exact dec_224 s i bz w hs hi hz c4
  by_cases c5 : bz = 237
  · exact dec_237 s i bz w hs hi hz c5
  by_cases c6 : bz ≤ 239
  · exact dec_3 s i bz w hs hi hz (by omega) c6 c5
  by_cases c7 : bz = 240
  · exact dec_240 s i bz w hs hi hz c7
  by_cases c8 : bz = 244
  · exact dec_244 s i bz w hs hi hz c8
  by_cases c9 : bz ≤ 243
  · exact dec_4 s i bz w hs hi hz (by omega) c9
  · exact dec_b2 s i bz w hs hi hz (by omega) h1

def AnyB (w : World) (e : Ending) (w' : World) : Prop := ∃ b, e = .returned (.bool b) ∧ w = w'
set_option maxHeartbeats 4000000 in
theorem valid5 (s : ByteArray) (w : World) (hs : s.size ≤ 1048576) : Calls Tryf.prog 5 #[.string s] w (AnyB w) := by
  go_enter Tryf.func5, Tryf.ntmps5
  go_wp2
  go_loop [3] (fun x => ∃ k : Nat, k ≤ s.size + 4 ∧ x = .int .i64 (k : Int)) (fun x => s.size + 4 - (intOf x).toNat)
  case atStart => exact ⟨0, Nat.zero_le _, rfl⟩
  case round =>
    obtain ⟨k, hk, rfl⟩ := hrel
    by_cases hlt : k < s.size
    · have HD := Lib.hid (dec10 s k w hs hlt)
      have tlt : decide ((k : Int) < (s.size : Int)) = true := by simp; omega
      go_wp2_with (go_at_call 10; (with_reducible refine HD.out.mono ?_); rintro e w1 ⟨r, n, b, rfl, hn1, hn4, rfl⟩)
      all_goals first | (go_ret; exact ⟨_, rfl, rfl⟩) | (go_round; (case rel => exact ⟨k + n, by omega, by go_num⟩); (case measure => simp [intOf]; omega))
    · have tlt : decide ((k : Int) < (s.size : Int)) = false := by simp; omega
      go_wp2
      go_ret
      exact ⟨_, rfl, rfl⟩
end Go.Proofs.YtmakaafjkeeooabFmt.QuA
