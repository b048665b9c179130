/- FnSpaceBeforeOperatorAtMostOnce: the law itself. -/
import Derived.Test.YtjgomgagaolhgaaRows
import Derived.Test.YtjgomgagaolhgaaMem
import Derived.Test.YtjgomgagaolhgaaSl
import Derived.Test.YtjgomgagaolhgaaSpaceL
import Derived.WalkKit
import Derived.ProofKit
import Derived.OpenShut
import Derived.Below
import Derived.WalkLawsBesides
import Derived.Lib.Hide
import Derived.Outline
import Derived.RegionTactic
import Derived.Deep.QuietTactic
import Derived.BigQuiet
import Derived.WalkSpells
import Derived.Deep.OwnRows
import Derived.IntWalk
import Derived.Deep.DeepMust
namespace Go.Proofs.Ytjgomgagaolhgaa.SpaceM
open Go.RowKit Mem Sl
set_option linter.unusedVariables false
open Prn Space SpaceL

theorem cl10_info : (Try.prog.info? 5).map (fun i => (i.zero, i.size, i.bytes)) = some (some (.int .u8 0), 1, 1) := by kernel_rfl
set_option maxHeartbeats 400000 in
theorem cl10 (A : Option Addr) (n c : Nat) (zs : List Int) (w : World) (h : Args.IsInts .u8 w A n c zs) (hn : n ≤ 2000000) :
    Calls Try.prog 10 #[.slice A n c] w fun e w' => Cloned .u8 5 w A n zs e w' := by
  have heq := fun (W : World) (X : Option Addr) (l cc : Nat) => Lib.run_eql_slice_nil (P := Try.prog) W 22 5 X l cc 0 0 Try.underlying22
  rcases A with _ | a
  · obtain ⟨h1, h2, h3, h4, h5, h6⟩ := h
    have hc := h5 rfl
    obtain rfl : n = 0 := by omega
    obtain rfl : zs = [] := List.eq_nil_of_length_eq_zero h3
    go_enter Try.func10, Try.ntmps10
    go_wp2
    go_ret
    exact ⟨_, rfl, .inl ⟨rfl, rfl, rfl⟩⟩
  · have hmk := fun W => run_make_row' (P := Try.prog) 22 5 (.int .u8 0) 1 Try.underlying22 cl10_info rfl .i64 .i64 n (by omega) (by omega) W
    have hlen := h.2.2.1
    have hrd := fun k => h.read k
    have HR := Lib.hid hrd
    clear hrd
    go_enter Try.func10, Try.ntmps10
    go_wp2
    go_loopw [4] (fun i wr => ∃ k : Nat, k ≤ n ∧ i = .int .i64 k ∧ Row wr w.heap.size 5 (filled (iv .u8 zs) (.int .u8 0) k) ∧ Below w.heap.size w wr ∧ wr.heap.size = w.heap.size + 1) (fun i _ => n - (intOf i).toNat)
    case atStart =>
      refine ⟨0, Nat.zero_le _, rfl, ?_, (Below.refl _ _).alloc (Nat.le_refl _) _, by simp⟩
      rw [filled_zero, iv_length, hlen]
      exact made_row w 5 (.int .u8 0) n
    case round =>
      obtain ⟨k, hk, rfl, hrow, hbel, hsz⟩ := hrel
      have HS := Lib.hid hsz
      clear hsz
      by_cases hlt : k < n
      · obtain ⟨b, off, ha, hb, hcell⟩ := HR.out k hlt
        injection ha with ha
        subst ha
        obtain ⟨x, hx⟩ : ∃ x, x = zs.getD k 0 := ⟨_, rfl⟩
        rw [← hx] at hcell
        have c1 := cell_later hbel hcell
        have hl : k < (iv .u8 zs).length := by rw [iv_length]; omega
        have c2 := hrow.at_ (filled_at (iv .u8 zs) (.int .u8 0) k hl)
        have c3 := hrow.frozen k
        have hset := hrow.set k (.int .u8 x)
        rw [filled_set _ _ k hl _ (by rw [hx]; exact iv_at .u8 zs k (by omega))] at hset
        have HSET := Lib.hid hset
        have HB := Lib.hid hbel
        clear hset hbel hrow hcell hx
        go_wp2
        go_roundw
        case rel => exact ⟨k + 1, by omega, by go_num, HSET.out, HB.out.setCell (Nat.le_refl _) _, by simpa using HS.out⟩
        case measure => simp [intOf]; omega
      · have hkn : k = n := by omega
        subst hkn
        have HROW := Lib.hid hrow
        have HB := Lib.hid hbel
        clear hrow hbel
        go_wp2
        go_ret
        refine ⟨_, rfl, .inr ⟨by simp, rfl, ?_, HB.out, HS.out⟩⟩
        have h1 := HROW.out
        rwa [← hlen, ← iv_length .u8 zs, filled_all] at h1

set_option maxHeartbeats 400000 in
theorem same14 (A B : Option Addr) (n c d : Nat) (zs : List Int) (w : World) (h : Args.IsInts .u8 w A n c zs) (h' : Args.IsInts .u8 w B n d zs) (hn : n ≤ 2000000) :
    Calls Try.prog 14 #[.slice A n c, .slice B n d] w fun e w' => e = .returned (.bool true) ∧ ∃ m, w' = w.drewN m := by
  have HR := Lib.hid (fun k => h.read k)
  have HR' := Lib.hid (fun k => h'.read k)
  have hne : ((n : Int) != (n : Int)) = false := by simp
  clear h h'
  go_enter Try.func14, Try.ntmps14
  go_wp2
  go_loopw [5] (fun i wr => ∃ k m : Nat, k ≤ n ∧ i = .int .i64 k ∧ wr = w.drewN m) (fun i _ => n - (intOf i).toNat)
  case atStart => exact ⟨0, 0, Nat.zero_le _, rfl, rfl⟩
  case round =>
    obtain ⟨k, m, hk, rfl, rfl⟩ := hrel
    by_cases hlt : k < n
    · obtain ⟨b, off, ha, hb, hcell⟩ := HR.out k hlt
      obtain ⟨b', off', ha', hb', hcell'⟩ := HR'.out k hlt
      subst ha ha'
      obtain ⟨x, hx⟩ : ∃ x, x = zs.getD k 0 := ⟨_, rfl⟩
      rw [← hx] at hcell hcell'
      clear hx
      have hxx : (x != x) = false := by simp
      go_wp2
      go_quiet (fail)
      go_wp2
      go_roundw
      case rel => exact ⟨k + 1, m + nq, by omega, by go_num, by simp⟩
      case measure => simp [intOf]; omega
    · go_wp2
      go_ret
      exact ⟨rfl, m, rfl⟩

def sp (b : Bool) : List Int := if b then [32] else []
theorem sp_len (b : Bool) (zs : List Int) : (zs ++ sp b).length = zs.length + (if b then 1 else 0) := by cases b <;> simp [sp]
theorem out_un {w w' : World} {p : Nat} {cs : List Value} {v : Value} {zs : List Int} {b : Bool} {pend prev : Int} {e : Ending} (ho : Out w p cs v zs b e w') (h : Pr w p 100 9 5 cs v zs) (hf : Fl cs pend prev) :
    e = .returned (.tuple #[]) ∧ ∃ cs' v', Pr w' p 100 9 5 cs' v' (zs ++ sp b) ∧ Fl cs' pend prev ∧ Step p w v w' v' := by
  obtain ⟨he, hb⟩ := ho
  refine ⟨he, ?_⟩
  rcases hb with ⟨rfl, v', hp, hs⟩ | ⟨rfl, q, rfl⟩
  · exact ⟨_, v', hp, hf.set_ v', hs⟩
  · have : zs ++ sp false = zs := by simp [sp]
    rw [this]
    exact ⟨cs, v, ⟨h.row, h.at_, h.buf⟩, hf, (Step.refl p w v).drewN q⟩
theorem twice (p : Nat) (cs : List Value) (v : Value) (zs : List Int) (pend prev nx : Int) (w : World) (h : Pr w p 100 9 5 cs v zs) (hf : Fl cs pend prev) (hn : zs.length ≤ 1048576) :
    ∃ b : Bool, Calls Try.prog 42 #[.pointer (some ⟨p, 0, none⟩), .int .u8 nx] w (Out w p cs v zs b) ∧
      ∀ (w' : World) (cs' : List Value) (v' : Value), Pr w' p 100 9 5 cs' v' (zs ++ sp b) → Fl cs' pend prev → Calls Try.prog 42 #[.pointer (some ⟨p, 0, none⟩), .int .u8 nx] w' (Out w' p cs' v' (zs ++ sp b) false) := by
  obtain ⟨b, h1, h2, h3⟩ := any p cs v zs pend prev nx w h hf (by omega)
  refine ⟨b, h2, fun w' cs' v' hp hf' => ?_⟩
  cases b
  · have e : zs ++ sp false = zs := by simp [sp]
    rw [e] at hp ⊢
    exact h3 rfl w' cs' v' hp hf'
  · have e : pend = zs.length := by
      rcases Classical.em (pend = zs.length) with h | h
      · exact h
      · have := h1 h; cases this
    refine away p cs' v' (zs ++ sp true) pend prev nx w' hp hf' (by rw [sp_len]; simp; omega) (by rw [sp_len, e]; simp; omega)
theorem cloned_buf {w w1 : World} {A : Option Addr} {n c : Nat} {zs : List Int} {v : Value} (h : Args.IsInts .u8 w A n c zs) (hn : n ≤ 2000000)
    (hv : (A = none ∧ v = .slice none 0 0 ∧ w = w1) ∨ (A ≠ none ∧ v = .slice (some ⟨w.heap.size, 0, none⟩) n n ∧ Row w1 w.heap.size 5 (iv .u8 zs) ∧ Below w.heap.size w w1 ∧ w1.heap.size = w.heap.size + 1)) :
    ∃ A', v = .slice A' n n ∧ Args.IsInts .u8 w1 A' n n zs ∧ Below w.heap.size w w1 := by
  rcases hv with ⟨rfl, rfl, rfl⟩ | ⟨_, rfl, hrow, hb, _⟩
  · have hc0 := h.2.2.2.2.1 rfl
    have hn0 : n = 0 := by have := h.1; omega
    subst hn0
    subst hc0
    exact ⟨none, rfl, h, Below.refl _ _⟩
  · have hl := h.2.2.1
    subst hl
    exact ⟨_, rfl, ints_of_row hrow (by unfold maxLen; omega) h.2.2.2.1, hb⟩
set_option maxHeartbeats 2000000 in
theorem body (A : Option Addr) (n c : Nat) (zs : List Int) (pe i j : Int) (w : World) (h : Args.IsInts .u8 w A n c zs) (hn : n ≤ 1048576) (hi1 : 0 ≤ i) (hi2 : i ≤ 15) (hj1 : 0 ≤ j) (hj2 : j ≤ 15) :
    Calls Try.prog 4 #[.slice A n c, .int .i64 pe, .int .i64 i, .int .i64 j] w fun e w' => e = .returned (.bool true) ∧ Below w.heap.size w w' := by
  have hd : decide (n ≤ 1048576) = true := by simp [hn]
  have g0 : decide (1048576 < (n : Int)) = false := by simp; omega
  have g0' : decide (1048576 < n) = false := by simp; omega
  have g1 : decide (i < 0) = false := by simp; omega
  have g2 : decide (15 < i) = false := by simp; omega
  have g3 : decide (j < 0) = false := by simp; omega
  have g4 : decide (15 < j) = false := by simp; omega
  have H := Lib.hid h
  clear h
  go_enter Try.func4, Try.ntmps4
  go_wp2_with (go_at_call 16; refine (zzBytes _ _ _ _ _ _ _ (by unfold maxLen; omega)).mono ?_; rintro e w' ⟨rfl, rfl⟩)
  refine (Clone.cl10 A n c zs w H.out hn).mono ?_
  rintro e w1 ⟨v, rfl, hv⟩
  obtain ⟨A1, rfl, hi1', hbuf1, hb1, hat1⟩ := IndentL.cloned_buf H.out hn hv
  have HI1 := Lib.hid hi1'
  have HB1 := Lib.hid hb1
  have HBUF1 := Lib.hid hbuf1
  have HAT1 := Lib.hid hat1
  clear hv hi1' hb1 hbuf1 hat1
  go_wp2_with fail
  refine (Clone.cl10 A1 n n zs w1 HI1.out hn).mono ?_
  rintro e w2 ⟨v, rfl, hv⟩
  obtain ⟨A2, rfl, hi2', hbuf2, hb2, hat2⟩ := IndentL.cloned_buf HI1.out hn hv
  have HBUF := Lib.hid (HBUF1.out.below hb2 (Nat.le_refl _))
  have HI2 := Lib.hid hi2'
  have HB2 := Lib.hid (HB1.out.trans (hb2.mono HB1.out.size))
  have hz1 := HB1.out.size
  have hz2 := hb2.size
  have HNE := Lib.hid (show ∀ b off, A2 = some ⟨b, off, none⟩ → b < w2.heap.size ∧ some b ≠ Value.ownBlock (.slice A1 n n) by
    intro b off hb
    have hbb := hat2 b off hb
    have hlt : b < w2.heap.size := by
      have := hi2'.2.2.2.2.2
      rcases Nat.eq_zero_or_pos n with h0 | h0
      · subst h0; have h1 := hbuf2.lt b (by rw [hb]; rfl); exact h1
      · obtain ⟨b', off', h1, h2, _⟩ := this h0
        rw [hb] at h1; injection h1 with h1; injection h1 with h1 _; omega
    refine ⟨by omega, fun e => ?_⟩
    have h3 := HBUF1.out.lt b e.symm
    omega)
  have HLOW := Lib.hid (show ∀ g, Value.ownBlock (.slice A1 n n) = some g → w.heap.size ≤ g by
    intro g hg
    cases A1 with
    | none => simp [Value.ownBlock] at hg
    | some a =>
      obtain ⟨b, off, sp⟩ := a
      have hsp : sp = none := by
        rcases HBUF1.out.2 with ⟨h0, _⟩ | ⟨g', cap, cur, h0, _⟩
        · cases h0
        · injection h0 with h0; injection h0 with h0; injection h0
      subst hsp
      have := HAT1.out b off rfl
      simp [Value.ownBlock] at hg
      omega)
  have HWF := Lib.hid HI1.out.2.2.2.1
  have HLEN := Lib.hid HI1.out.2.2.1
  clear hv hi2' hb2 hbuf2 hat2 HI1 HBUF1 HAT1
  go_wp2_with fail
  refine (opOf i w2).mono ?_
  rintro e w2' ⟨rfl, rfl⟩
  go_wp2_with fail
  obtain ⟨W, hW, hrow, hbel, hsz⟩ := made_box w2 100 (prn (.slice A1 n n) (opv i) pe)
  have hpr : Pr W w2.heap.size 100 9 5 (prn (.slice A1 n n) (opv i) pe).toList (.slice A1 n n) zs := ⟨hrow, by simpa using prn9 (.slice A1 n n) (opv i) pe, HBUF.out.below hbel (Nat.le_refl _)⟩
  have hfl : Fl (prn (.slice A1 n n) (opv i) pe).toList pe (opv i) := ⟨by simpa using prn65 (.slice A1 n n) (opv i) pe, by simpa using prn137 (.slice A1 n n) (opv i) pe⟩
  refine (new A1 n n (opv i) pe w2).mono ?_
  rintro e w3 ⟨rfl, rfl⟩
  rw [hW]
  clear hW hrow
  obtain ⟨b, hc1, hc2⟩ := twice w2.heap.size _ _ zs pe (opv i) (opv j) W hpr hfl (by have := HLEN.out; omega)
  generalize (prn (.slice A1 n n) (opv i) pe).toList = cs at *
  have HPR := Lib.hid hpr
  have HFL := Lib.hid hfl
  have HC1 := Lib.hid hc1
  have HC2 := Lib.hid hc2
  have HBW := Lib.hid (HB2.out.trans (hbel.mono (HB2.out.size)))
  have HI3 := Lib.hid (HI2.out.later hbel)
  have HSZ := Lib.hid hsz
  have HP := Lib.hid (HB2.out.size)
  clear hpr hfl hc1 hc2 hbel hsz HBUF HB2 HI2 hz1 hz2
  generalize hp : w2.heap.size = p at *
  generalize hoi : opv i = oi at *
  go_wp2_with fail
  refine (opOf j W).mono ?_
  rintro e w2' ⟨rfl, rfl⟩
  generalize hoj : opv j = oj at *
  go_wp2_with fail
  refine (zz19 p oj W cs _ zs b HC1.out).mono ?_
  intro e w5 ho
  obtain ⟨rfl, cs5, v5, hp5, hf5, hs5⟩ := out_un ho HPR.out HFL.out
  obtain ⟨A5, c5, rfl, hi5, _⟩ := hp5.buf.ints (by rw [sp_len]; have := HLEN.out; unfold maxLen; split <;> omega) (by
    intro z hz
    rcases List.mem_append.1 hz with h | h
    · exact HWF.out z h
    · unfold sp at h
      split at h
      · simp at h; subst h; decide
      · cases h)
  have HI4 := Lib.hid (hs5.ints HI3.out (fun b off h => ⟨by have := (HNE.out b off h).1; omega, (HNE.out b off h).2⟩))
  have HB5 := Lib.hid (HBW.out.trans (hs5.below (B := w.heap.size) HP.out HLOW.out (by have := HBW.out.size; omega)))
  have HP5 := Lib.hid hp5
  have HF5 := Lib.hid hf5
  have HI5 := Lib.hid hi5
  have HN5 := Lib.hid (show (zs ++ sp b).length = n + (if b then 1 else 0) by rw [sp_len, HLEN.out])
  have hc9 := hp5.row.at_ hp5.at_
  clear ho hp5 hf5 hs5 hi5 HPR HFL HC1 HBW HI3
  generalize hn5 : (zs ++ sp b).length = n5 at *
  have hn5' : n5 ≤ 1048577 := by rw [HN5.out]; split <;> omega
  go_wp2_with fail
  refine (Fresh.js15 p _ w5 hc9).mono ?_
  rintro e w' ⟨rfl, rfl⟩
  go_wp2_with fail
  refine (cl10 A5 n5 c5 (zs ++ sp b) w5 HI5.out (by omega)).mono ?_
  rintro e w6 ⟨v, rfl, hv⟩
  obtain ⟨A6, rfl, hi6, hb6⟩ := cloned_buf HI5.out (by omega) hv
  have HP6 := Lib.hid (show Pr w6 p 100 9 5 cs5 (.slice A5 n5 c5) (zs ++ sp b) from ⟨HP5.out.row.below hb6 HP5.out.row.lt, HP5.out.at_, HP5.out.buf.below hb6 (Nat.le_refl _)⟩)
  have HI65 := Lib.hid (HI5.out.later hb6)
  have HI62 := Lib.hid (HI4.out.later hb6)
  have HB6 := Lib.hid (HB5.out.trans (hb6.mono HB5.out.size))
  have HI66 := Lib.hid hi6
  clear hv hi6 hb6 hc9 HP5 HI5 HI4 HB5
  go_wp2_with fail
  refine (opOf j w6).mono ?_
  rintro e w2' ⟨rfl, rfl⟩
  rw [hoj]
  go_wp2_with fail
  refine (zz19 p oj w6 cs5 _ (zs ++ sp b) false (HC2.out w6 cs5 _ HP6.out HF5.out)).mono ?_
  rintro e w7 ⟨rfl, hno⟩
  obtain ⟨q, rfl⟩ : ∃ q, w7 = w6.drewN q := by
    rcases hno with ⟨h, _⟩ | ⟨_, h⟩
    · cases h
    · exact h
  clear hno
  have hc9 : (w6.drewN q).cell? ⟨p, 9, none⟩ = some (.slice A5 n5 c5) := HP6.out.row.at_ HP6.out.at_
  go_wp2_with fail
  refine (Fresh.js15 p _ (w6.drewN q) hc9).mono ?_
  rintro e w' ⟨rfl, rfl⟩
  have HD := Lib.hid (fun q => below_drewN (Below.refl w6.heap.size w6) q)
  clear hc9
  go_wp2_with fail
  refine (same14 A6 A5 n5 n5 c5 (zs ++ sp b) (w6.drewN q) (HI66.out.later (HD.out q)) (HI65.out.later (HD.out q)) (by omega)).mono ?_
  rintro e w8 ⟨rfl, q2, rfl⟩
  have e9 : (w6.drewN q).drewN q2 = w6.drewN (q + q2) := by simp
  rw [e9]
  clear e9
  generalize q + q2 = q3
  go_wp2_with fail
  refine (hasPre A6 A2 n5 n5 n n zs (sp b) (w6.drewN q3) (HI66.out.later (HD.out q3)) (HI62.out.later (HD.out q3)) (by omega)).mono ?_
  rintro e w8 ⟨rfl, q4, rfl⟩
  have e9 : (w6.drewN q3).drewN q4 = w6.drewN (q3 + q4) := by simp
  rw [e9]
  clear e9
  generalize q3 + q4 = q5
  have HFIN := Lib.hid (below_drewN HB6.out q5)
  have HI8 := Lib.hid (HI66.out.later (HD.out q5))
  have HLL := Lib.hid HLEN.out
  generalize w6.drewN q5 = w9 at *
  clear HC2 HB6 HD HP6 HI65 HI62 HI66 HF5 hn5' HNE HLOW HWF
  have hn5'' := HN5.out
  cases b
  · simp at hn5''
    subst hn5''
    have e1 : ((n5 : Int) == (n5 : Int)) = true := by simp
    go_wp2_with fail
    go_ret
    exact ⟨rfl, HFIN.out⟩
  · simp at hn5''
    subst hn5''
    have e1 : ((n : Int) + 1 == (n : Int)) = false := beq_eq_false_iff_ne.2 (by omega)
    have e2 : ((n : Int) + 1 == (n : Int) + 1) = true := by simp
    obtain ⟨b, off, ha, hb, hcell⟩ := HI8.out.read n (by omega)
    subst ha
    have hg : (zs ++ sp true).getD n 0 = 32 := by
      have := HLL.out
      subst this
      simp [sp, List.getD]
    rw [hg] at hcell
    have hk : (n : Int) < (n : Int) + 1 := by omega
    go_wp2_with fail
    go_ret
    exact ⟨rfl, HFIN.out⟩
theorem law (A0 : Option Addr) (n0 c0 : Nat) (z0 : List Int) (a1 : Int) (a2 : Int) (a3 : Int) (w : World) (w0 : Args.IsInts .u8 w A0 n0 c0 z0) (w1 : (Lit.int .i64 a1).wf = true) (w2 : (Lit.int .i64 a2).wf = true) (w3 : (Lit.int .i64 a3).wf = true) :
    Calls Try.prog 4 #[.slice A0 n0 c0, .int .i64 a1, .int .i64 a2, .int .i64 a3] w fun e w' => e = .returned (.bool true) ∧ Below w.heap.size w w' := by
  have hm : n0 ≤ maxLen := Nat.le_trans w0.1 w0.2.1
  by_cases hn : n0 ≤ 1048576
  · have hd : decide (n0 ≤ 1048576) = true := by simp [hn]
    have g0 : decide (1048576 < (n0 : Int)) = false := by simp; omega
    have g0' : decide (1048576 < n0) = false := by simp; omega
    by_cases h1 : a2 < 0
    · have g1 : decide (a2 < 0) = true := by simp; omega
      go_enter Try.func4, Try.ntmps4
      go_wp2_with (go_at_call 16; refine (zzBytes _ _ _ _ _ _ _ hm).mono ?_; rintro e w' ⟨rfl, rfl⟩)
      go_ret
      exact ⟨rfl, Below.refl _ _⟩
    have g1 : decide (a2 < 0) = false := by simp; omega
    by_cases h2 : 15 < a2
    · have g2 : decide (15 < a2) = true := by simp; omega
      go_enter Try.func4, Try.ntmps4
      go_wp2_with (go_at_call 16; refine (zzBytes _ _ _ _ _ _ _ hm).mono ?_; rintro e w' ⟨rfl, rfl⟩)
      go_ret
      exact ⟨rfl, Below.refl _ _⟩
    have g2 : decide (15 < a2) = false := by simp; omega
    by_cases h3 : a3 < 0
    · have g3 : decide (a3 < 0) = true := by simp; omega
      go_enter Try.func4, Try.ntmps4
      go_wp2_with (go_at_call 16; refine (zzBytes _ _ _ _ _ _ _ hm).mono ?_; rintro e w' ⟨rfl, rfl⟩)
      go_ret
      exact ⟨rfl, Below.refl _ _⟩
    have g3 : decide (a3 < 0) = false := by simp; omega
    by_cases h4 : 15 < a3
    · have g4 : decide (15 < a3) = true := by simp; omega
      go_enter Try.func4, Try.ntmps4
      go_wp2_with (go_at_call 16; refine (zzBytes _ _ _ _ _ _ _ hm).mono ?_; rintro e w' ⟨rfl, rfl⟩)
      go_ret
      exact ⟨rfl, Below.refl _ _⟩
    exact body A0 n0 c0 z0 a1 a2 a3 w w0 hn (by omega) (by omega) (by omega) (by omega)
  · have hd : decide (n0 ≤ 1048576) = false := by simp [hn]
    go_enter Try.func4, Try.ntmps4
    go_wp2_with (go_at_call 16; refine (zzBytes _ _ _ _ _ _ _ hm).mono ?_; rintro e w' ⟨rfl, rfl⟩)
    go_ret
    exact ⟨rfl, Below.refl _ _⟩
end Go.Proofs.Ytjgomgagaolhgaa.SpaceM
