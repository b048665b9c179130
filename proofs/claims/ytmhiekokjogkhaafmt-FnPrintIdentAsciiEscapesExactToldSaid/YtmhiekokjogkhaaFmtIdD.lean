/- FnPrintIdentAsciiEscapesExact: the escape. -/
import Derived.Test.YtmhiekokjogkhaaFmtRows
import Derived.Test.YtmhiekokjogkhaaFmtMem
import Derived.Test.YtmhiekokjogkhaaFmtSl
import Derived.Test.YtmhiekokjogkhaaFmtIdC
import Derived.Great.BuildSlice
import Derived.Deep.RegionLaw
import Derived.WalkKit
import Derived.ProofKit
import Derived.OpenShut
import Derived.Below
import Derived.WalkLawsBesides
import Derived.Lib.Hide
import Derived.Outline
import Derived.RegionTactic
import Derived.Deep.QuietTactic
import Derived.BigQuiet
import Derived.WalkSpells
import Derived.Deep.OwnRows
import Derived.IntWalk
import Derived.Deep.DeepMust
namespace Go.Proofs.YtmhiekokjogkhaaFmt.IdD
open Go.RowKit Mem Sl
set_option linter.unusedVariables false
open Prn Pru Idn Str IdA IdB IdC Own

/-- The bytes that an escape of c prints. -/
def escOut (esc : Bool) (c : Int) : List Int := (if esc then [92] else []) ++ [c]
/-- No hexadecimal digit. -/
def NoHex (c : Int) : Prop := ¬ (48 ≤ c ∧ c ≤ 57) ∧ ¬ (97 ≤ c ∧ c ≤ 102) ∧ ¬ (65 ≤ c ∧ c ≤ 70)

set_option maxRecDepth 100000 in
set_option maxHeartbeats 4000000 in
theorem esc19_no (p : Nat) (cs : List Value) (v : Value) (zs : List Int) (c : Int) (r : ByteArray) (f : Bool) (w : World) (h : Pr w p 61 15 5 cs v zs) (h0 : 0 ≤ c) (h1 : c < 128) (hb : zs.length ≤ 100000000) :
    Calls Tryf.prog 19 #[.pointer (some ⟨p, 0, none⟩), .int .i32 c, .int .u8 0, .string r, .bool f] w fun e w' => e = .returned (.tuple #[]) ∧ Printed w p 61 15 5 cs v (zs ++ [c]) w' := by
  obtain ⟨i0, hi, hz0, hz1, hz2⟩ := info_parts info5
  have HL := Lib.hid hb
  have HX := Lib.hid h
  have hp := h.row.lt
  have HV := Lib.hid h.buf.lt
  clear h hb
  go_enter Tryf.func19, Tryf.ntmps19
  go_wp2_with (first | (go_at_call 23; refine (enc23 w.heap.size c _ h0 h1 (Row.newArr w 71 _)).mono ?_; rintro e w4 ⟨rfl, henc⟩; have HE := Lib.hid henc; clear henc))
  have hp4 : Pr w4 p 61 15 5 cs v zs := (HX.out.alloc _).other HE.out.grown (by omega) (fun e => by have := HV.out _ e; omega)
  have HP4 := Lib.hid hp4
  have HR4 := Lib.hid HE.out.row
  have HST := Lib.hid (Step.more (Step.of_below (p := p) (v := v) ((Below.refl w.heap.size w).alloc (Nat.le_refl _) _) (Nat.le_refl _)) HE.out.grown (Nat.le_refl _) : Step p w v w4 v)
  clear hp4
  obtain ⟨v5, w5, hrun, hbuf5, hgr5, hat5⟩ := run_append_ints_at (P := Tryf.prog) w4.drew 22 22 5 i0 Tryf.underlying22 hi hz0 hz1 hz2 v (zs) HP4.out.drew.buf ⟨w.heap.size, 0, none⟩ 1 4 [c] rfl (fun j hj => by obtain rfl : j = 0 := (by omega); exact HR4.out.at_ (i := 0) rfl) (by have := HL.out; simp; omega)
  obtain ⟨k1, k2, k3, k4⟩ := (HP4.out.drew).store (by decide) hbuf5 (.of_grown hgr5 hat5) hgr5
  obtain ⟨A5, cc5, hv5⟩ := hbuf5.form
  generalize (zs ++ [c]).length = n5 at hv5
  subst hv5
  have HRUN := Lib.hid hrun
  have K1 := Lib.hid k1
  have K2 := Lib.hid k2
  have c15 := HP4.out.row.at_ HP4.out.at_
  clear hrun hbuf5 hgr5 hat5 k1 k2
  go_wp2_with fail
  go_region_law (first | (refine step_append_run rfl _ _ 22 22 rfl _ _ _ w5 rfl rfl HRUN.out ?_))
  all_goals
    go_wp2_with fail
    go_end0
    exact ⟨rfl, _, K1.out, HST.out.trans (((Step.refl p w4 v).drew).trans K2.out)⟩

theorem set_cs (cs : List Value) (v v' : Value) : (cs.set 15 v).set 15 v' = cs.set 15 v' := by simp

set_option maxRecDepth 100000 in
set_option maxHeartbeats 4000000 in
theorem esc19_bs0 (p : Nat) (cs : List Value) (v : Value) (zs : List Int) (c : Int) (r : ByteArray) (f : Bool) (w : World) (h : Pr w p 61 15 5 cs v zs) (h0 : 0 ≤ c) (h1 : c < 128) (hb : zs.length ≤ 100000000) (ha : 0 ≤ c) (hc : c ≤ 47) :
    Calls Tryf.prog 19 #[.pointer (some ⟨p, 0, none⟩), .int .i32 c, .int .u8 1, .string r, .bool f] w fun e w' => e = .returned (.tuple #[]) ∧ Printed w p 61 15 5 cs v (zs ++ [92] ++ [c]) w' := by
  obtain ⟨i0, hi, hz0, hz1, hz2⟩ := info_parts info5
  have HL := Lib.hid hb
  obtain ⟨A0, cc0, rfl⟩ := h.buf.form
  have hp := h.row.lt
  have HV := Lib.hid h.buf.lt
  have HX := Lib.hid ((h.alloc (.cells #[.int .u8 0, .int .u8 0, .int .u8 0, .int .u8 0] 71)).alloc (.cells #[.int .u8 92] 5))
  have HS0 := Lib.hid (Step.of_below (p := p) (v := .slice A0 zs.length cc0) (((Below.refl w.heap.size w).alloc (Nat.le_refl _) (.cells #[.int .u8 0, .int .u8 0, .int .u8 0, .int .u8 0] 71)).alloc (by simp) (.cells #[.int .u8 92] 5)) (Nat.le_refl _))
  have HR0 := Lib.hid ((Row.newArr w 71 #[.int .u8 0, .int .u8 0, .int .u8 0, .int .u8 0]).alloc (.cells #[.int .u8 92] 5))
  have HC92 := Lib.hid (show ((w.alloc (.cells #[.int .u8 0, .int .u8 0, .int .u8 0, .int .u8 0] 71)).alloc (.cells #[.int .u8 92] 5)).cell? ⟨w.heap.size + 1, 0, none⟩ = some (.int .u8 92) by simp)
  have c15 := h.row.at_ h.at_
  clear h hb
  have t48 : decide (48 ≤ c) = false := by simp; omega
  have t57 : decide (c ≤ 57) = true := by simp; omega
  have t97 : decide (97 ≤ c) = false := by simp; omega
  have t102 : decide (c ≤ 102) = true := by simp; omega
  have t65 : decide (65 ≤ c) = false := by simp; omega
  have t70 : decide (c ≤ 70) = true := by simp; omega
  go_enter Tryf.func19, Tryf.ntmps19
  go_wp2_with (first | (at_builtin; refine wpList_append_buf _ rfl (.tmp 63) (.tmp 64) 22 rfl 5 i0 Tryf.underlying22 hi hz0 hz1 hz2 (.slice A0 zs.length cc0) zs rfl HX.out.buf ⟨w.heap.size + 1, 0, none⟩ 1 1 [92] rfl rfl (fun j hj => by obtain rfl : j = 0 := (by omega); exact HC92.out) (by have := HL.out; omega) ?_; intro A2 n2 cc2 w2 hbuf hgr hat; obtain ⟨k1, k2, k3, k4⟩ := HX.out.store (by decide) hbuf (.of_grown hgr hat) hgr; have K1 := Lib.hid k1; have K2 := Lib.hid k2; have HG := Lib.hid hgr; have HAT := Lib.hid hat; clear k1 k2 hbuf hgr hat) | (go_at_call 23; refine (enc23 w.heap.size c _ h0 h1 ((HR0.out.grown HG.out (fun e => by have := HV.out _ e.symm; omega)).far (p := ⟨p, 15, none⟩) (show w.heap.size ≠ p by omega) _)).mono ?_; rintro e w4 ⟨rfl, henc⟩; have HE := Lib.hid henc; clear henc))
  have hown : Value.ownBlock (.slice A2 n2 cc2) ≠ some w.heap.size := by
    intro e
    rcases HAT.out with h | h
    · rw [h] at e; have := HV.out _ e; omega
    · rw [h] at e; injection e with e; simp at e; omega
  have HP4 := Lib.hid (K1.out.other HE.out.grown (by omega) hown)
  have HR4 := Lib.hid HE.out.row
  have HST := Lib.hid (Step.more (HS0.out.trans K2.out) HE.out.grown (Nat.le_refl _) : Step p w (.slice A0 zs.length cc0) w4 (.slice A2 n2 cc2))
  clear hown
  obtain ⟨v5, w5, hrun, hbuf5, hgr5, hat5⟩ := run_append_ints_at (P := Tryf.prog) w4.drew 22 22 5 i0 Tryf.underlying22 hi hz0 hz1 hz2 (.slice A2 n2 cc2) (zs ++ [92]) HP4.out.drew.buf ⟨w.heap.size, 0, none⟩ 1 4 [c] rfl (fun j hj => by obtain rfl : j = 0 := (by omega); exact HR4.out.at_ (i := 0) rfl) (by have := HL.out; simp; omega)
  obtain ⟨k1, k2, k3, k4⟩ := (HP4.out.drew).store (by decide) hbuf5 (.of_grown hgr5 hat5) hgr5
  obtain ⟨A5, cc5, hv5⟩ := hbuf5.form
  generalize (zs ++ [92] ++ [c]).length = n5 at hv5
  subst hv5
  have HRUN := Lib.hid hrun
  have K5 := Lib.hid k1
  have K6 := Lib.hid k2
  have d15 := HP4.out.row.at_ HP4.out.at_
  clear hrun hbuf5 hgr5 hat5 k1 k2
  go_wp2_with fail
  go_region_law (first | (refine step_append_run rfl _ _ 22 22 rfl _ _ _ w5 rfl rfl HRUN.out ?_))
  all_goals
    go_wp2_with fail
    go_end0
    exact ⟨rfl, _, by have h9 := K5.out; rw [set_cs] at h9; exact h9, HST.out.trans (((Step.refl p w4 (.slice A2 n2 cc2)).drew).trans K6.out)⟩

set_option maxRecDepth 100000 in
set_option maxHeartbeats 4000000 in
theorem esc19_bs1 (p : Nat) (cs : List Value) (v : Value) (zs : List Int) (c : Int) (r : ByteArray) (f : Bool) (w : World) (h : Pr w p 61 15 5 cs v zs) (h0 : 0 ≤ c) (h1 : c < 128) (hb : zs.length ≤ 100000000) (ha : 58 ≤ c) (hc : c ≤ 64) :
    Calls Tryf.prog 19 #[.pointer (some ⟨p, 0, none⟩), .int .i32 c, .int .u8 1, .string r, .bool f] w fun e w' => e = .returned (.tuple #[]) ∧ Printed w p 61 15 5 cs v (zs ++ [92] ++ [c]) w' := by
  obtain ⟨i0, hi, hz0, hz1, hz2⟩ := info_parts info5
  have HL := Lib.hid hb
  obtain ⟨A0, cc0, rfl⟩ := h.buf.form
  have hp := h.row.lt
  have HV := Lib.hid h.buf.lt
  have HX := Lib.hid ((h.alloc (.cells #[.int .u8 0, .int .u8 0, .int .u8 0, .int .u8 0] 71)).alloc (.cells #[.int .u8 92] 5))
  have HS0 := Lib.hid (Step.of_below (p := p) (v := .slice A0 zs.length cc0) (((Below.refl w.heap.size w).alloc (Nat.le_refl _) (.cells #[.int .u8 0, .int .u8 0, .int .u8 0, .int .u8 0] 71)).alloc (by simp) (.cells #[.int .u8 92] 5)) (Nat.le_refl _))
  have HR0 := Lib.hid ((Row.newArr w 71 #[.int .u8 0, .int .u8 0, .int .u8 0, .int .u8 0]).alloc (.cells #[.int .u8 92] 5))
  have HC92 := Lib.hid (show ((w.alloc (.cells #[.int .u8 0, .int .u8 0, .int .u8 0, .int .u8 0] 71)).alloc (.cells #[.int .u8 92] 5)).cell? ⟨w.heap.size + 1, 0, none⟩ = some (.int .u8 92) by simp)
  have c15 := h.row.at_ h.at_
  clear h hb
  have t48 : decide (48 ≤ c) = true := by simp; omega
  have t57 : decide (c ≤ 57) = false := by simp; omega
  have t97 : decide (97 ≤ c) = false := by simp; omega
  have t102 : decide (c ≤ 102) = true := by simp; omega
  have t65 : decide (65 ≤ c) = false := by simp; omega
  have t70 : decide (c ≤ 70) = true := by simp; omega
  go_enter Tryf.func19, Tryf.ntmps19
  go_wp2_with (first | (at_builtin; refine wpList_append_buf _ rfl (.tmp 63) (.tmp 64) 22 rfl 5 i0 Tryf.underlying22 hi hz0 hz1 hz2 (.slice A0 zs.length cc0) zs rfl HX.out.buf ⟨w.heap.size + 1, 0, none⟩ 1 1 [92] rfl rfl (fun j hj => by obtain rfl : j = 0 := (by omega); exact HC92.out) (by have := HL.out; omega) ?_; intro A2 n2 cc2 w2 hbuf hgr hat; obtain ⟨k1, k2, k3, k4⟩ := HX.out.store (by decide) hbuf (.of_grown hgr hat) hgr; have K1 := Lib.hid k1; have K2 := Lib.hid k2; have HG := Lib.hid hgr; have HAT := Lib.hid hat; clear k1 k2 hbuf hgr hat) | (go_at_call 23; refine (enc23 w.heap.size c _ h0 h1 ((HR0.out.grown HG.out (fun e => by have := HV.out _ e.symm; omega)).far (p := ⟨p, 15, none⟩) (show w.heap.size ≠ p by omega) _)).mono ?_; rintro e w4 ⟨rfl, henc⟩; have HE := Lib.hid henc; clear henc))
  have hown : Value.ownBlock (.slice A2 n2 cc2) ≠ some w.heap.size := by
    intro e
    rcases HAT.out with h | h
    · rw [h] at e; have := HV.out _ e; omega
    · rw [h] at e; injection e with e; simp at e; omega
  have HP4 := Lib.hid (K1.out.other HE.out.grown (by omega) hown)
  have HR4 := Lib.hid HE.out.row
  have HST := Lib.hid (Step.more (HS0.out.trans K2.out) HE.out.grown (Nat.le_refl _) : Step p w (.slice A0 zs.length cc0) w4 (.slice A2 n2 cc2))
  clear hown
  obtain ⟨v5, w5, hrun, hbuf5, hgr5, hat5⟩ := run_append_ints_at (P := Tryf.prog) w4.drew 22 22 5 i0 Tryf.underlying22 hi hz0 hz1 hz2 (.slice A2 n2 cc2) (zs ++ [92]) HP4.out.drew.buf ⟨w.heap.size, 0, none⟩ 1 4 [c] rfl (fun j hj => by obtain rfl : j = 0 := (by omega); exact HR4.out.at_ (i := 0) rfl) (by have := HL.out; simp; omega)
  obtain ⟨k1, k2, k3, k4⟩ := (HP4.out.drew).store (by decide) hbuf5 (.of_grown hgr5 hat5) hgr5
  obtain ⟨A5, cc5, hv5⟩ := hbuf5.form
  generalize (zs ++ [92] ++ [c]).length = n5 at hv5
  subst hv5
  have HRUN := Lib.hid hrun
  have K5 := Lib.hid k1
  have K6 := Lib.hid k2
  have d15 := HP4.out.row.at_ HP4.out.at_
  clear hrun hbuf5 hgr5 hat5 k1 k2
  go_wp2_with fail
  go_region_law (first | (refine step_append_run rfl _ _ 22 22 rfl _ _ _ w5 rfl rfl HRUN.out ?_))
  all_goals
    go_wp2_with fail
    go_end0
    exact ⟨rfl, _, by have h9 := K5.out; rw [set_cs] at h9; exact h9, HST.out.trans (((Step.refl p w4 (.slice A2 n2 cc2)).drew).trans K6.out)⟩

set_option maxRecDepth 100000 in
set_option maxHeartbeats 4000000 in
theorem esc19_bs2 (p : Nat) (cs : List Value) (v : Value) (zs : List Int) (c : Int) (r : ByteArray) (f : Bool) (w : World) (h : Pr w p 61 15 5 cs v zs) (h0 : 0 ≤ c) (h1 : c < 128) (hb : zs.length ≤ 100000000) (ha : 71 ≤ c) (hc : c ≤ 96) :
    Calls Tryf.prog 19 #[.pointer (some ⟨p, 0, none⟩), .int .i32 c, .int .u8 1, .string r, .bool f] w fun e w' => e = .returned (.tuple #[]) ∧ Printed w p 61 15 5 cs v (zs ++ [92] ++ [c]) w' := by
  obtain ⟨i0, hi, hz0, hz1, hz2⟩ := info_parts info5
  have HL := Lib.hid hb
  obtain ⟨A0, cc0, rfl⟩ := h.buf.form
  have hp := h.row.lt
  have HV := Lib.hid h.buf.lt
  have HX := Lib.hid ((h.alloc (.cells #[.int .u8 0, .int .u8 0, .int .u8 0, .int .u8 0] 71)).alloc (.cells #[.int .u8 92] 5))
  have HS0 := Lib.hid (Step.of_below (p := p) (v := .slice A0 zs.length cc0) (((Below.refl w.heap.size w).alloc (Nat.le_refl _) (.cells #[.int .u8 0, .int .u8 0, .int .u8 0, .int .u8 0] 71)).alloc (by simp) (.cells #[.int .u8 92] 5)) (Nat.le_refl _))
  have HR0 := Lib.hid ((Row.newArr w 71 #[.int .u8 0, .int .u8 0, .int .u8 0, .int .u8 0]).alloc (.cells #[.int .u8 92] 5))
  have HC92 := Lib.hid (show ((w.alloc (.cells #[.int .u8 0, .int .u8 0, .int .u8 0, .int .u8 0] 71)).alloc (.cells #[.int .u8 92] 5)).cell? ⟨w.heap.size + 1, 0, none⟩ = some (.int .u8 92) by simp)
  have c15 := h.row.at_ h.at_
  clear h hb
  have t48 : decide (48 ≤ c) = true := by simp; omega
  have t57 : decide (c ≤ 57) = false := by simp; omega
  have t97 : decide (97 ≤ c) = false := by simp; omega
  have t102 : decide (c ≤ 102) = true := by simp; omega
  have t65 : decide (65 ≤ c) = true := by simp; omega
  have t70 : decide (c ≤ 70) = false := by simp; omega
  go_enter Tryf.func19, Tryf.ntmps19
  go_wp2_with (first | (at_builtin; refine wpList_append_buf _ rfl (.tmp 63) (.tmp 64) 22 rfl 5 i0 Tryf.underlying22 hi hz0 hz1 hz2 (.slice A0 zs.length cc0) zs rfl HX.out.buf ⟨w.heap.size + 1, 0, none⟩ 1 1 [92] rfl rfl (fun j hj => by obtain rfl : j = 0 := (by omega); exact HC92.out) (by have := HL.out; omega) ?_; intro A2 n2 cc2 w2 hbuf hgr hat; obtain ⟨k1, k2, k3, k4⟩ := HX.out.store (by decide) hbuf (.of_grown hgr hat) hgr; have K1 := Lib.hid k1; have K2 := Lib.hid k2; have HG := Lib.hid hgr; have HAT := Lib.hid hat; clear k1 k2 hbuf hgr hat) | (go_at_call 23; refine (enc23 w.heap.size c _ h0 h1 ((HR0.out.grown HG.out (fun e => by have := HV.out _ e.symm; omega)).far (p := ⟨p, 15, none⟩) (show w.heap.size ≠ p by omega) _)).mono ?_; rintro e w4 ⟨rfl, henc⟩; have HE := Lib.hid henc; clear henc))
  have hown : Value.ownBlock (.slice A2 n2 cc2) ≠ some w.heap.size := by
    intro e
    rcases HAT.out with h | h
    · rw [h] at e; have := HV.out _ e; omega
    · rw [h] at e; injection e with e; simp at e; omega
  have HP4 := Lib.hid (K1.out.other HE.out.grown (by omega) hown)
  have HR4 := Lib.hid HE.out.row
  have HST := Lib.hid (Step.more (HS0.out.trans K2.out) HE.out.grown (Nat.le_refl _) : Step p w (.slice A0 zs.length cc0) w4 (.slice A2 n2 cc2))
  clear hown
  obtain ⟨v5, w5, hrun, hbuf5, hgr5, hat5⟩ := run_append_ints_at (P := Tryf.prog) w4.drew 22 22 5 i0 Tryf.underlying22 hi hz0 hz1 hz2 (.slice A2 n2 cc2) (zs ++ [92]) HP4.out.drew.buf ⟨w.heap.size, 0, none⟩ 1 4 [c] rfl (fun j hj => by obtain rfl : j = 0 := (by omega); exact HR4.out.at_ (i := 0) rfl) (by have := HL.out; simp; omega)
  obtain ⟨k1, k2, k3, k4⟩ := (HP4.out.drew).store (by decide) hbuf5 (.of_grown hgr5 hat5) hgr5
  obtain ⟨A5, cc5, hv5⟩ := hbuf5.form
  generalize (zs ++ [92] ++ [c]).length = n5 at hv5
  subst hv5
  have HRUN := Lib.hid hrun
  have K5 := Lib.hid k1
  have K6 := Lib.hid k2
  have d15 := HP4.out.row.at_ HP4.out.at_
  clear hrun hbuf5 hgr5 hat5 k1 k2
  go_wp2_with fail
  go_region_law (first | (refine step_append_run rfl _ _ 22 22 rfl _ _ _ w5 rfl rfl HRUN.out ?_))
  all_goals
    go_wp2_with fail
    go_end0
    exact ⟨rfl, _, by have h9 := K5.out; rw [set_cs] at h9; exact h9, HST.out.trans (((Step.refl p w4 (.slice A2 n2 cc2)).drew).trans K6.out)⟩

set_option maxRecDepth 100000 in
set_option maxHeartbeats 4000000 in
theorem esc19_bs3 (p : Nat) (cs : List Value) (v : Value) (zs : List Int) (c : Int) (r : ByteArray) (f : Bool) (w : World) (h : Pr w p 61 15 5 cs v zs) (h0 : 0 ≤ c) (h1 : c < 128) (hb : zs.length ≤ 100000000) (ha : 103 ≤ c) (hc : c ≤ 127) :
    Calls Tryf.prog 19 #[.pointer (some ⟨p, 0, none⟩), .int .i32 c, .int .u8 1, .string r, .bool f] w fun e w' => e = .returned (.tuple #[]) ∧ Printed w p 61 15 5 cs v (zs ++ [92] ++ [c]) w' := by
  obtain ⟨i0, hi, hz0, hz1, hz2⟩ := info_parts info5
  have HL := Lib.hid hb
  obtain ⟨A0, cc0, rfl⟩ := h.buf.form
  have hp := h.row.lt
  have HV := Lib.hid h.buf.lt
  have HX := Lib.hid ((h.alloc (.cells #[.int .u8 0, .int .u8 0, .int .u8 0, .int .u8 0] 71)).alloc (.cells #[.int .u8 92] 5))
  have HS0 := Lib.hid (Step.of_below (p := p) (v := .slice A0 zs.length cc0) (((Below.refl w.heap.size w).alloc (Nat.le_refl _) (.cells #[.int .u8 0, .int .u8 0, .int .u8 0, .int .u8 0] 71)).alloc (by simp) (.cells #[.int .u8 92] 5)) (Nat.le_refl _))
  have HR0 := Lib.hid ((Row.newArr w 71 #[.int .u8 0, .int .u8 0, .int .u8 0, .int .u8 0]).alloc (.cells #[.int .u8 92] 5))
  have HC92 := Lib.hid (show ((w.alloc (.cells #[.int .u8 0, .int .u8 0, .int .u8 0, .int .u8 0] 71)).alloc (.cells #[.int .u8 92] 5)).cell? ⟨w.heap.size + 1, 0, none⟩ = some (.int .u8 92) by simp)
  have c15 := h.row.at_ h.at_
  clear h hb
  have t48 : decide (48 ≤ c) = true := by simp; omega
  have t57 : decide (c ≤ 57) = false := by simp; omega
  have t97 : decide (97 ≤ c) = true := by simp; omega
  have t102 : decide (c ≤ 102) = false := by simp; omega
  have t65 : decide (65 ≤ c) = true := by simp; omega
  have t70 : decide (c ≤ 70) = false := by simp; omega
  go_enter Tryf.func19, Tryf.ntmps19
  go_wp2_with (first | (at_builtin; refine wpList_append_buf _ rfl (.tmp 63) (.tmp 64) 22 rfl 5 i0 Tryf.underlying22 hi hz0 hz1 hz2 (.slice A0 zs.length cc0) zs rfl HX.out.buf ⟨w.heap.size + 1, 0, none⟩ 1 1 [92] rfl rfl (fun j hj => by obtain rfl : j = 0 := (by omega); exact HC92.out) (by have := HL.out; omega) ?_; intro A2 n2 cc2 w2 hbuf hgr hat; obtain ⟨k1, k2, k3, k4⟩ := HX.out.store (by decide) hbuf (.of_grown hgr hat) hgr; have K1 := Lib.hid k1; have K2 := Lib.hid k2; have HG := Lib.hid hgr; have HAT := Lib.hid hat; clear k1 k2 hbuf hgr hat) | (go_at_call 23; refine (enc23 w.heap.size c _ h0 h1 ((HR0.out.grown HG.out (fun e => by have := HV.out _ e.symm; omega)).far (p := ⟨p, 15, none⟩) (show w.heap.size ≠ p by omega) _)).mono ?_; rintro e w4 ⟨rfl, henc⟩; have HE := Lib.hid henc; clear henc))
  have hown : Value.ownBlock (.slice A2 n2 cc2) ≠ some w.heap.size := by
    intro e
    rcases HAT.out with h | h
    · rw [h] at e; have := HV.out _ e; omega
    · rw [h] at e; injection e with e; simp at e; omega
  have HP4 := Lib.hid (K1.out.other HE.out.grown (by omega) hown)
  have HR4 := Lib.hid HE.out.row
  have HST := Lib.hid (Step.more (HS0.out.trans K2.out) HE.out.grown (Nat.le_refl _) : Step p w (.slice A0 zs.length cc0) w4 (.slice A2 n2 cc2))
  clear hown
  obtain ⟨v5, w5, hrun, hbuf5, hgr5, hat5⟩ := run_append_ints_at (P := Tryf.prog) w4.drew 22 22 5 i0 Tryf.underlying22 hi hz0 hz1 hz2 (.slice A2 n2 cc2) (zs ++ [92]) HP4.out.drew.buf ⟨w.heap.size, 0, none⟩ 1 4 [c] rfl (fun j hj => by obtain rfl : j = 0 := (by omega); exact HR4.out.at_ (i := 0) rfl) (by have := HL.out; simp; omega)
  obtain ⟨k1, k2, k3, k4⟩ := (HP4.out.drew).store (by decide) hbuf5 (.of_grown hgr5 hat5) hgr5
  obtain ⟨A5, cc5, hv5⟩ := hbuf5.form
  generalize (zs ++ [92] ++ [c]).length = n5 at hv5
  subst hv5
  have HRUN := Lib.hid hrun
  have K5 := Lib.hid k1
  have K6 := Lib.hid k2
  have d15 := HP4.out.row.at_ HP4.out.at_
  clear hrun hbuf5 hgr5 hat5 k1 k2
  go_wp2_with fail
  go_region_law (first | (refine step_append_run rfl _ _ 22 22 rfl _ _ _ w5 rfl rfl HRUN.out ?_))
  all_goals
    go_wp2_with fail
    go_end0
    exact ⟨rfl, _, by have h9 := K5.out; rw [set_cs] at h9; exact h9, HST.out.trans (((Step.refl p w4 (.slice A2 n2 cc2)).drew).trans K6.out)⟩

theorem esc19_bs (p : Nat) (cs : List Value) (v : Value) (zs : List Int) (c : Int) (r : ByteArray) (f : Bool) (w : World) (h : Pr w p 61 15 5 cs v zs) (h0 : 0 ≤ c) (h1 : c < 128) (hb : zs.length ≤ 100000000) (hx : NoHex c) :
    Calls Tryf.prog 19 #[.pointer (some ⟨p, 0, none⟩), .int .i32 c, .int .u8 1, .string r, .bool f] w fun e w' => e = .returned (.tuple #[]) ∧ Printed w p 61 15 5 cs v (zs ++ [92] ++ [c]) w' := by
  unfold NoHex at hx
  by_cases a : c ≤ 47
  · exact esc19_bs0 p cs v zs c r f w h h0 h1 hb h0 a
  by_cases b : c ≤ 64
  · exact esc19_bs1 p cs v zs c r f w h h0 h1 hb (by omega) b
  by_cases d : c ≤ 96
  · exact esc19_bs2 p cs v zs c r f w h h0 h1 hb (by omega) d
  · exact esc19_bs3 p cs v zs c r f w h h0 h1 hb (by omega) (by omega)
end Go.Proofs.YtmhiekokjogkhaaFmt.IdD
