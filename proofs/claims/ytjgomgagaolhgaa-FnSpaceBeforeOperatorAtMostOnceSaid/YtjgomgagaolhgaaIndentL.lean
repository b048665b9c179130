/- FnPrintIndentMatchesClampedWidth: the law. -/
import Derived.Test.YtjgomgagaolhgaaRows
import Derived.Test.YtjgomgagaolhgaaMem
import Derived.Test.YtjgomgagaolhgaaSl
import Derived.Test.YtjgomgagaolhgaaIndent
import Derived.Test.YtjgomgagaolhgaaClone
import Derived.Great.BuildSlice
import Derived.WalkKit
import Derived.ProofKit
import Derived.OpenShut
import Derived.Below
import Derived.WalkLawsBesides
import Derived.Lib.Hide
import Derived.Outline
import Derived.RegionTactic
import Derived.Deep.QuietTactic
import Derived.BigQuiet
import Derived.WalkSpells
import Derived.Deep.OwnRows
import Derived.IntWalk
import Derived.Deep.DeepMust
namespace Go.Proofs.Ytjgomgagaolhgaa.IndentL
open Go.RowKit Mem Sl
set_option linter.unusedVariables false
open Prn Indent

noncomputable def zo : Array Value := match (Try.prog.info? 70).bind (fun i => i.zero) with | some (.agg cs) => cs | _ => #[]
noncomputable def zp : Array Value := match (Try.prog.info? 100).bind (fun i => i.zero) with | some (.agg cs) => cs | _ => #[]
noncomputable def opt (m : Bool) (i l : Int) : Array Value := ((zo.setIfInBounds 16 (.bool m)).setIfInBounds 13 (.int .i64 i)).setIfInBounds 14 (.int .i64 l)
noncomputable def prn (v : Value) (m n : Bool) (i l : Int) : Array Value := ((((zp.setIfInBounds 9 v).setIfInBounds 59 (.bool n)).setIfInBounds 28 (.bool m)).setIfInBounds 25 (.int .i64 i)).setIfInBounds 26 (.int .i64 l)
theorem prn9 (v : Value) (m n : Bool) (i l : Int) : (prn v m n i l)[9]? = some v := by kernel_rfl
theorem prn25 (v : Value) (m n : Bool) (i l : Int) : (prn v m n i l)[25]? = some (.int .i64 i) := by kernel_rfl
theorem prn26 (v : Value) (m n : Bool) (i l : Int) : (prn v m n i l)[26]? = some (.int .i64 l) := by kernel_rfl
theorem prn28 (v : Value) (m n : Bool) (i l : Int) : (prn v m n i l)[28]? = some (.bool m) := by kernel_rfl
theorem prn59 (v : Value) (m n : Bool) (i l : Int) : (prn v m n i l)[59]? = some (.bool n) := by kernel_rfl
theorem prnOpt (v : Value) (m n : Bool) (i l : Int) : Opt (prn v m n i l).toList m n i l :=
  ⟨by simpa using prn25 v m n i l, by simpa using prn26 v m n i l, by simpa using prn28 v m n i l, by simpa using prn59 v m n i l⟩
/-- what ZZprintIndent gives. -/
def Done (w : World) (v : Value) (zs : List Int) (j : Nat) (flag : Bool) (e : Ending) (w' : World) : Prop :=
  ∃ A n c, e = .returned (.tuple #[.slice A n c, .bool flag]) ∧ Buf w' 5 (.slice A n c) (zs ++ spaces j) ∧ Step w.heap.size w v w' (.slice A n c)
theorem step_new {w W w' : World} {v v' : Value} (hb : Below w.heap.size w W) (hs : Step w.heap.size W v w' v') (hz : W.heap.size = w.heap.size + 1) : Step w.heap.size w v w' v' := by
  refine (Step.of_below hb (Nat.le_refl _)).trans ⟨hs.os, hs.tape, hs.output, hs.size, hs.block, hs.at_⟩

set_option maxRecDepth 100000 in
set_option maxHeartbeats 1000000 in
theorem zz_mini (A : Option Addr) (k c : Nat) (zs : List Int) (nxt : Bool) (i l : Int) (w : World) (h : Buf w 5 (.slice A k c) zs)  :
    Calls Try.prog 26 #[.slice A k c, .bool true, .bool nxt, .int .i64 i, .int .i64 l] w (Done w (.slice A k c) zs (0) nxt) := by
  obtain ⟨W, hW, hrow, hbel, hsz⟩ := made_box w 100 (prn (.slice A k c) true nxt i l)
  have hopt := prnOpt (.slice A k c) true nxt i l
  have hpr : Pr W w.heap.size 100 9 5 (prn (.slice A k c) true nxt i l).toList (.slice A k c) zs := ⟨hrow, by simpa using prn9 (.slice A k c) true nxt i l, h.below hbel (Nat.le_refl _)⟩
  have HW := Lib.hid hW
  have HPR := Lib.hid hpr
  have HOPT := Lib.hid hopt
  have HBEL := Lib.hid hbel
  have HSZ := Lib.hid hsz
  clear hW hrow hbel hsz hopt hpr h
  go_enter Try.func26, Try.ntmps26
  go_wp2_with (first | (refine wpList_buildTo rfl 70 _ rfl (some 18) rfl (opt true i l) (by kernel_rfl) ?_) | (refine wpList_buildTo rfl 100 _ rfl (some 19) rfl (prn (.slice A k c) true nxt i l) (by kernel_rfl) ?_))
  rw [HW.out]
  generalize prn (.slice A k c) true nxt i l = cs at *
  refine (ind_mini _ _ nxt i l W HPR.out.row HOPT.out).mono ?_
  rintro e w1 ⟨rfl, rfl⟩
  have d1 := HPR.out.row.at_ HPR.out.at_
  have d2 := HPR.out.row.at_ HOPT.out.c59
  go_wp2_with fail
  go_quiet (fail)
  go_wp2_with fail
  go_ret2
  exact ⟨A, k, c, rfl, by simpa [spaces] using (HPR.out.buf.drewN _), (step_new HBEL.out (Step.refl _ _ _) HSZ.out).drewN _⟩

set_option maxRecDepth 100000 in
set_option maxHeartbeats 1000000 in
theorem zz_next (A : Option Addr) (k c : Nat) (zs : List Int) (i l : Int) (w : World) (h : Buf w 5 (.slice A k c) zs) (hb : zs.length + 1 ≤ 1000000000) :
    Calls Try.prog 26 #[.slice A k c, .bool false, .bool true, .int .i64 i, .int .i64 l] w (Done w (.slice A k c) zs (1) false) := by
  obtain ⟨W, hW, hrow, hbel, hsz⟩ := made_box w 100 (prn (.slice A k c) false true i l)
  have hopt := prnOpt (.slice A k c) false true i l
  have hpr : Pr W w.heap.size 100 9 5 (prn (.slice A k c) false true i l).toList (.slice A k c) zs := ⟨hrow, by simpa using prn9 (.slice A k c) false true i l, h.below hbel (Nat.le_refl _)⟩
  have HW := Lib.hid hW
  have HPR := Lib.hid hpr
  have HOPT := Lib.hid hopt
  have HBEL := Lib.hid hbel
  have HSZ := Lib.hid hsz
  clear hW hrow hbel hsz hopt hpr h
  go_enter Try.func26, Try.ntmps26
  go_wp2_with (first | (refine wpList_buildTo rfl 70 _ rfl (some 18) rfl (opt false i l) (by kernel_rfl) ?_) | (refine wpList_buildTo rfl 100 _ rfl (some 19) rfl (prn (.slice A k c) false true i l) (by kernel_rfl) ?_))
  rw [HW.out]
  generalize prn (.slice A k c) false true i l = cs at *
  refine (ind_next _ _ _ zs i l W HPR.out HOPT.out hb).mono ?_
  rintro e w1 ⟨rfl, v', w2, hp, hs, rfl⟩
  obtain ⟨A', c', hv⟩ := hp.buf.form
  generalize (zs ++ spaces 1).length = n' at hv
  subst hv
  have d0 := hp.row.set 59 (.bool false)
  have d1 := d0.at_ (i := 9) (v := _) (by rw [List.getElem?_set_ne (by decide)]; exact hp.at_)
  have d2 := d0.at_ (i := 59) (v := .bool false) (by rw [List.getElem?_set_self]; have h1 := (HOPT.out.set_ (.slice A' n' c')).c59; exact (List.getElem?_eq_some_iff.1 h1).1)
  have HB := Lib.hid (hp.buf.set_ (hp.buf.ne hp.row (by decide)) 59 (.bool false))
  have HS := Lib.hid (step_new HBEL.out (hs.set_ 59 (.bool false)) HSZ.out)
  clear hp hs d0
  obtain ⟨W2, hW2⟩ : ∃ W2, w2.setCell ⟨w.heap.size, 59, none⟩ (.bool false) = W2 := ⟨_, rfl⟩
  rw [hW2] at d1 d2 HB HS ⊢
  clear hW2
  go_wp2_with fail
  go_quiet (fail)
  go_wp2_with fail
  go_ret2
  exact ⟨A', _, c', rfl, HB.out.drewN _, HS.out.drewN _⟩

set_option maxRecDepth 100000 in
set_option maxHeartbeats 1000000 in
theorem zz_loop (A : Option Addr) (k c : Nat) (zs : List Int) (i l : Int) (w : World) (h : Buf w 5 (.slice A k c) zs) (hi1 : -1073741824 ≤ i) (hi2 : i ≤ 65536) (hl : l ≤ 9223372036854775807) (hb : zs.length ≤ 1048576) :
    Calls Try.prog 26 #[.slice A k c, .bool false, .bool false, .int .i64 i, .int .i64 l] w (Done w (.slice A k c) zs (2 * wid i l) false) := by
  obtain ⟨W, hW, hrow, hbel, hsz⟩ := made_box w 100 (prn (.slice A k c) false false i l)
  have hopt := prnOpt (.slice A k c) false false i l
  have hpr : Pr W w.heap.size 100 9 5 (prn (.slice A k c) false false i l).toList (.slice A k c) zs := ⟨hrow, by simpa using prn9 (.slice A k c) false false i l, h.below hbel (Nat.le_refl _)⟩
  have HW := Lib.hid hW
  have HPR := Lib.hid hpr
  have HOPT := Lib.hid hopt
  have HBEL := Lib.hid hbel
  have HSZ := Lib.hid hsz
  clear hW hrow hbel hsz hopt hpr h
  go_enter Try.func26, Try.ntmps26
  go_wp2_with (first | (refine wpList_buildTo rfl 70 _ rfl (some 18) rfl (opt false i l) (by kernel_rfl) ?_) | (refine wpList_buildTo rfl 100 _ rfl (some 19) rfl (prn (.slice A k c) false false i l) (by kernel_rfl) ?_))
  rw [HW.out]
  generalize prn (.slice A k c) false false i l = cs at *
  refine (ind_loop _ _ _ zs i l W HPR.out HOPT.out hi1 hi2 hl hb).mono ?_
  rintro e w1 ⟨rfl, v', hp, hs⟩
  obtain ⟨A', c', hv⟩ := hp.buf.form
  generalize (zs ++ spaces (2 * wid i l)).length = n' at hv
  subst hv
  have d1 := hp.row.at_ hp.at_
  have d2 := hp.row.at_ (HOPT.out.set_ (.slice A' n' c')).c59
  have HB := Lib.hid hp.buf
  have HS := Lib.hid (step_new HBEL.out hs HSZ.out)
  clear hp hs
  go_wp2_with fail
  go_quiet (fail)
  go_wp2_with fail
  go_ret2
  exact ⟨A', _, c', rfl, HB.out.drewN _, HS.out.drewN _⟩

set_option maxHeartbeats 1000000 in
/-- zzSpacesAfter: the second slice's numbers, then j blanks. -/
theorem after (A B : Option Addr) (n c m d j : Nat) (zs : List Int) (w : World) (h : Args.IsInts .u8 w A n c (zs ++ spaces j)) (h' : Args.IsInts .u8 w B m d zs) (hn : n ≤ 2000000) :
    Calls Try.prog 27 #[.slice A n c, .slice B m d] w fun e w' => e = .returned (.int .i64 j) ∧ ∃ q, w' = w.drewN q := by
  have l1 := h.2.2.1
  have l2 := h'.2.2.1
  have hnm : n = m + j := by rw [← l1, ← l2]; simp [spaces]
  subst hnm
  have HR := Lib.hid (fun k => h.read k)
  have HR' := Lib.hid (fun k => h'.read k)
  have hd : decide (m + j < m) = false := by simp
  have hd' : decide ((m : Int) + j < m) = false := by simp; omega
  have G1 := Lib.hid (fun (k : Nat) (hk : k < m) => (show (zs ++ spaces j).getD k 0 = zs.getD k 0 by simp [List.getD, List.getElem?_append_left (show k < zs.length by omega)]))
  have G2 := Lib.hid (fun (k : Nat) (hk : m ≤ k) (hk2 : k < m + j) => (show (zs ++ spaces j).getD k 0 = 32 by rw [List.getD, List.getElem?_append_right (show zs.length ≤ k by omega), spaces, List.getElem?_replicate, if_pos (by omega)]; rfl))
  clear h h' l1 l2
  go_enter Try.func27, Try.ntmps27
  go_wp2
  go_loopw [5] (fun i wr => ∃ k q : Nat, k ≤ m ∧ i = .int .i64 k ∧ wr = w.drewN q) (fun i _ => m - (intOf i).toNat)
  case atStart => exact ⟨0, 0, Nat.zero_le _, rfl, rfl⟩
  case round =>
    obtain ⟨k, q, hk, rfl, rfl⟩ := hrel
    by_cases hlt : k < m
    · obtain ⟨b, off, ha, hb, hcell⟩ := HR.out k (by omega)
      obtain ⟨b', off', ha', hb', hcell'⟩ := HR'.out k hlt
      subst ha ha'
      rw [G1.out k hlt] at hcell
      obtain ⟨x, hx⟩ : ∃ x, x = zs.getD k 0 := ⟨_, rfl⟩
      rw [← hx] at hcell hcell'
      clear hx
      have hxx : (x != x) = false := by simp
      have hk3 : k < m + j := by omega
      have hk4 : (k : Int) < (m : Int) + j := by omega
      go_wp2
      go_quiet (fail)
      go_wp2
      go_roundw
      case rel => exact ⟨k + 1, q + nq, by omega, by go_num, by simp⟩
      case measure => simp [intOf]; omega
    · obtain rfl : k = m := by omega
      clear hlt hk
      go_wp2
      go_loop [6] (fun i => ∃ x : Nat, k ≤ x ∧ x ≤ k + j ∧ i = .int .i64 x) (fun i => k + j - (intOf i).toNat)
      case atStart => exact ⟨k, Nat.le_refl _, by omega, rfl⟩
      case round =>
        obtain ⟨x, hx1, hx2, rfl⟩ := hrel
        by_cases hlt : x < k + j
        · obtain ⟨b, off, ha, hb, hcell⟩ := HR.out x hlt
          subst ha
          rw [G2.out x hx1 hlt] at hcell
          have hlt' : (x : Int) < (k : Int) + j := by omega
          go_wp2
          go_round
          case rel => exact ⟨x + 1, by omega, by omega, by go_num⟩
          case measure => simp [intOf]; omega
        · have hlt' : ¬ (x : Int) < (k : Int) + j := by omega
          go_wp2
          go_ret
          exact ⟨ret_int (by omega), q, rfl⟩
theorem pairs (i l : Int) (w : World) (hi : -1073741824 ≤ i) (hi2 : i ≤ 65536) (hlm : l ≤ 9223372036854775807) :
    Calls Try.prog 28 #[.int .i64 i, .int .i64 l] w fun e w' => e = .returned (.int .i64 (wid i l)) ∧ w = w' := by
  by_cases h0 : i < 0
  · by_cases hl : 0 < l
    · have e1 : decide (0 < l) = true := by simp [hl]
      have e2 : decide (l / 2 < 0) = false := by simp; omega
      have HW := Lib.hid (show (0 : Int) = wid i l by unfold wid; rw [if_neg (by omega)]; omega)
      go_enter Try.func28, Try.ntmps28
      go_wp2
      go_ret
      exact ⟨ret_int HW.out, rfl⟩
    · have e1 : decide (0 < l) = false := by simp; omega
      have HW := Lib.hid (show (0 : Int) = wid i l by unfold wid; rw [if_neg (by omega)]; omega)
      go_enter Try.func28, Try.ntmps28
      go_wp2
      go_ret
      exact ⟨ret_int HW.out, rfl⟩
  · by_cases hl : 0 < l
    · have e1 : decide (0 < l) = true := by simp [hl]
      by_cases hg : l / 2 < i
      · have e2 : decide (l / 2 < i) = true := by simp [hg]
        have HW := Lib.hid (show l / 2 = wid i l by unfold wid; rw [if_pos ⟨hl, by omega⟩]; omega)
        go_enter Try.func28, Try.ntmps28
        go_wp2
        go_ret
        exact ⟨ret_int HW.out, rfl⟩
      · have e2 : decide (l / 2 < i) = false := by simp; omega
        have HW := Lib.hid (show i = wid i l by unfold wid; split <;> omega)
        go_enter Try.func28, Try.ntmps28
        go_wp2
        go_ret
        exact ⟨ret_int HW.out, rfl⟩
    · have e1 : decide (0 < l) = false := by simp; omega
      have HW := Lib.hid (show i = wid i l by unfold wid; rw [if_neg (by omega)]; omega)
      go_enter Try.func28, Try.ntmps28
      go_wp2
      go_ret
      exact ⟨ret_int HW.out, rfl⟩

theorem zzBytes (A : Option Addr) (n c : Nat) (a1 a2 : Bool) (i j : Int) (w : World) (hs : n ≤ maxLen) :
    Calls Try.prog 24 #[.slice A n c, .bool a1, .bool a2, .int .i64 i, .int .i64 j] w fun e w' => e = .returned (.bool (decide (n ≤ 1048576))) ∧ w = w' := by
  unfold maxLen at hs
  by_cases h : n ≤ 1048576
  · go_enter Try.func24, Try.ntmps24
    go_wp2
    go_ret
    exact ⟨ret_bool (by simp [h]), rfl⟩
  · go_enter Try.func24, Try.ntmps24
    go_wp2
    go_ret
    exact ⟨ret_bool (by simp [h]), rfl⟩
/-- A clone as a buffer and as numbers; where it lies. -/
theorem cloned_buf {w w1 : World} {A : Option Addr} {n c : Nat} {zs : List Int} {v : Value} (h : Args.IsInts .u8 w A n c zs) (hn : n ≤ 1048576)
    (hv : (A = none ∧ v = .slice none 0 0 ∧ w = w1) ∨ (A ≠ none ∧ v = .slice (some ⟨w.heap.size, 0, none⟩) n n ∧ Row w1 w.heap.size 5 (iv .u8 zs) ∧ Below w.heap.size w w1 ∧ w1.heap.size = w.heap.size + 1)) :
    ∃ A', v = .slice A' n n ∧ Args.IsInts .u8 w1 A' n n zs ∧ Buf w1 5 (.slice A' n n) zs ∧ Below w.heap.size w w1 ∧ (∀ b off, A' = some ⟨b, off, none⟩ → b = w.heap.size) := by
  rcases hv with ⟨rfl, rfl, rfl⟩ | ⟨_, rfl, hrow, hb, _⟩
  · have hc0 := h.2.2.2.2.1 rfl
    have hn0 : n = 0 := by have := h.1; omega
    subst hn0
    subst hc0
    have hz : zs = [] := List.eq_nil_of_length_eq_zero h.2.2.1
    subst hz
    exact ⟨none, rfl, h, buf_nil w 5, Below.refl _ _, fun b off h => by cases h⟩
  · have hl := h.2.2.1
    subst hl
    exact ⟨_, rfl, ints_of_row hrow (by unfold maxLen; omega) h.2.2.2.1, buf_of_row hrow (by unfold maxLen; omega), hb, fun b off h => by injection h with h; injection h with h1 h2; exact h1.symm⟩
theorem own_of {A : Option Addr} {n c g : Nat} (h : Value.ownBlock (.slice A n c) = some g) : ∃ off sp, A = some ⟨g, off, sp⟩ := by
  cases A with
  | none => simp [Value.ownBlock] at h
  | some a => exact ⟨a.off, a.spot, by simp [Value.ownBlock] at h; subst h; rfl⟩
set_option maxHeartbeats 2000000 in
theorem body (A : Option Addr) (n c : Nat) (zs : List Int) (mini nxt : Bool) (i l : Int) (w : World) (h : Args.IsInts .u8 w A n c zs) (hn : n ≤ 1048576) (hi1 : -1073741824 ≤ i) (hi2 : i ≤ 65536) (hl : l ≤ 9223372036854775807) :
    Calls Try.prog 6 #[.slice A n c, .bool mini, .bool nxt, .int .i64 i, .int .i64 l] w fun e w' => e = .returned (.bool true) ∧ Below w.heap.size w w' := by
  have hd : decide (n ≤ 1048576) = true := by simp [hn]
  have g1 : decide (65536 < i) = false := by simp; omega
  have g2 : decide (i < -1073741824) = false := by simp; omega
  have H := Lib.hid h
  clear h
  go_enter Try.func6, Try.ntmps6
  go_wp2_with (go_at_call 24; refine (zzBytes _ _ _ _ _ _ _ _ (by unfold maxLen; omega)).mono ?_; rintro e w' ⟨rfl, rfl⟩)
  refine (Clone.cl25 A n c zs w H.out hn).mono ?_
  rintro e w1 ⟨v, rfl, hv⟩
  obtain ⟨A1, rfl, hi1', hbuf1, hb1, hat1⟩ := cloned_buf H.out hn hv
  have HI1 := Lib.hid hi1'
  have HB1 := Lib.hid hb1
  have HBUF1 := Lib.hid hbuf1
  have HAT1 := Lib.hid hat1
  clear hv hi1' hb1 hbuf1 hat1
  go_wp2_with fail
  refine (Clone.cl25 A1 n n zs w1 HI1.out hn).mono ?_
  rintro e w2 ⟨v, rfl, hv⟩
  obtain ⟨A2, rfl, hi2', hbuf2, hb2, hat2⟩ := cloned_buf HI1.out hn hv
  have HBUF := Lib.hid (HBUF1.out.below hb2 (Nat.le_refl _))
  have HI2 := Lib.hid hi2'
  have HB2 := Lib.hid (HB1.out.trans (hb2.mono HB1.out.size))
  have hz1 := HB1.out.size
  have hz2 := hb2.size
  have HNE := Lib.hid (show ∀ b off, A2 = some ⟨b, off, none⟩ → b ≠ w2.heap.size ∧ some b ≠ Value.ownBlock (.slice A1 n n) by
    intro b off hb
    have hbb := hat2 b off hb
    have hlt : b < w2.heap.size := by
      have := hi2'.2.2.2.2.2
      rcases Nat.eq_zero_or_pos n with h0 | h0
      · subst h0; have h1 := hbuf2.lt b (by rw [hb]; rfl); exact h1
      · obtain ⟨b', off', h1, h2, _⟩ := this h0
        rw [hb] at h1; injection h1 with h1; injection h1 with h1 _; omega
    refine ⟨by omega, fun e => ?_⟩
    have h3 := HBUF1.out.lt b e.symm
    omega)
  have HLOW := Lib.hid (show ∀ g, Value.ownBlock (.slice A1 n n) = some g → w.heap.size ≤ g by
    intro g hg
    cases A1 with
    | none => simp [Value.ownBlock] at hg
    | some a =>
      obtain ⟨b, off, sp⟩ := a
      have hsp : sp = none := by
        rcases HBUF1.out.2 with ⟨h0, _⟩ | ⟨g', cap, cur, h0, _⟩
        · cases h0
        · injection h0 with h0; injection h0 with h0; injection h0
      subst hsp
      have := HAT1.out b off rfl
      simp [Value.ownBlock] at hg
      omega)
  have HWF := Lib.hid HI1.out.2.2.2.1
  have HLEN := Lib.hid HI1.out.2.2.1
  clear hv hi2' hb2 hbuf2 hat2 HI1 HBUF1 HAT1
  go_wp2_with fail
  have hcall : ∃ (j : Nat) (flag : Bool), j ≤ 131072 ∧ (mini = true → j = 0 ∧ flag = nxt) ∧ (mini = false → nxt = true → j = 1 ∧ flag = false) ∧ (mini = false → nxt = false → j = 2 * wid i l ∧ flag = false) ∧
      Calls Try.prog 26 #[.slice A1 n n, .bool mini, .bool nxt, .int .i64 i, .int .i64 l] w2 (Done w2 (.slice A1 n n) zs j flag) := by
    have hlen := HLEN.out
    cases mini
    · cases nxt
      · exact ⟨2 * wid i l, false, by have : wid i l ≤ 65536 := (by unfold wid; split <;> omega); omega, by simp, by simp, by simp, zz_loop A1 n n zs i l w2 HBUF.out hi1 hi2 hl (by omega)⟩
      · exact ⟨1, false, by omega, by simp, by simp, by simp, zz_next A1 n n zs i l w2 HBUF.out (by omega)⟩
    · exact ⟨0, nxt, by omega, by simp, by simp, by simp, zz_mini A1 n n zs nxt i l w2 HBUF.out⟩
  obtain ⟨j, flag, hj, t1, t2, t3, hc⟩ := hcall
  have T1 := Lib.hid t1
  have T2 := Lib.hid t2
  have T3 := Lib.hid t3
  refine hc.mono ?_
  clear hc t1 t2 t3
  rintro e w3 ⟨A3, n3, c3, rfl, hbuf3, hst3⟩
  have HI3 := Lib.hid (hst3.ints HI2.out HNE.out)
  have HB3 := Lib.hid (HB2.out.trans ((hst3.below (B := w.heap.size) (by omega) HLOW.out (by omega))))
  have hlen3 : (zs ++ spaces j).length ≤ 2000000 := by have := HLEN.out; simp [spaces]; omega
  obtain ⟨A3', c3', hv3, hi3, _⟩ := hbuf3.ints (by unfold maxLen; omega) (by
    intro z hz
    rcases List.mem_append.1 hz with h | h
    · exact HWF.out z h
    · rw [List.eq_of_mem_replicate h]; decide)
  injection hv3 with hA hn3 hc3
  subst hA hn3 hc3
  have HI4 := Lib.hid hi3
  have HL3 := Lib.hid hlen3
  clear hbuf3 hst3 hi3 hlen3
  generalize (zs ++ spaces j).length = n3 at *
  go_wp2_with fail
  refine (after A3 A2 n3 c3 n n j zs w3 HI4.out HI3.out HL3.out).mono ?_
  rintro e w4 ⟨rfl, q, rfl⟩
  have HB4 := Lib.hid (below_drewN HB3.out q)
  cases mini
  · cases nxt
    · obtain ⟨hj', hf⟩ := T3.out rfl rfl
      subst hj' hf
      have hww : wid i l ≤ 65536 := by unfold wid; split <;> omega
      have e1 : (2 * ((wid i l : Nat) : Int) == 2 * ((wid i l : Nat) : Int)) = true := by simp
      go_wp2_with (go_at_call 28; refine (pairs i l _ hi1 hi2 hl).mono ?_; rintro e w' ⟨rfl, rfl⟩)
      go_ret
      exact ⟨rfl, HB4.out⟩
    · obtain ⟨hj', hf⟩ := T2.out rfl rfl
      subst hj' hf
      go_wp2_with fail
      go_ret
      exact ⟨rfl, HB4.out⟩
  · obtain ⟨hj', hf⟩ := T1.out rfl
    subst hj' hf
    have e1 : (flag == flag) = true := by simp
    go_wp2_with fail
    go_ret
    exact ⟨rfl, HB4.out⟩

theorem law (A0 : Option Addr) (n0 c0 : Nat) (z0 : List Int) (a1 : Bool) (a2 : Bool) (a3 : Int) (a4 : Int) (w : World) (w0 : Args.IsInts .u8 w A0 n0 c0 z0) (w3 : (Lit.int .i64 a3).wf = true) (w4 : (Lit.int .i64 a4).wf = true) :
    Calls Try.prog 6 #[.slice A0 n0 c0, .bool a1, .bool a2, .int .i64 a3, .int .i64 a4] w fun e w' => e = .returned (.bool true) ∧ Below w.heap.size w w' := by
  have hm : n0 ≤ maxLen := Nat.le_trans w0.1 w0.2.1
  obtain ⟨_, hl⟩ := bounds_i64 w4
  by_cases hn : n0 ≤ 1048576
  · have hd : decide (n0 ≤ 1048576) = true := by simp [hn]
    by_cases h2 : a3 ≤ 65536
    · by_cases h1 : -1073741824 ≤ a3
      · exact body A0 n0 c0 z0 a1 a2 a3 a4 w w0 hn h1 h2 hl
      · have g1 : decide (65536 < a3) = false := by simp; omega
        have g2 : decide (a3 < -1073741824) = true := by simp; omega
        go_enter Try.func6, Try.ntmps6
        go_wp2_with (go_at_call 24; refine (zzBytes _ _ _ _ _ _ _ _ hm).mono ?_; rintro e w' ⟨rfl, rfl⟩)
        go_ret
        exact ⟨rfl, Below.refl _ _⟩
    · have g1 : decide (65536 < a3) = true := by simp; omega
      go_enter Try.func6, Try.ntmps6
      go_wp2_with (go_at_call 24; refine (zzBytes _ _ _ _ _ _ _ _ hm).mono ?_; rintro e w' ⟨rfl, rfl⟩)
      go_ret
      exact ⟨rfl, Below.refl _ _⟩
  · have hd : decide (n0 ≤ 1048576) = false := by simp [hn]
    go_enter Try.func6, Try.ntmps6
    go_wp2_with (go_at_call 24; refine (zzBytes _ _ _ _ _ _ _ _ hm).mono ?_; rintro e w' ⟨rfl, rfl⟩)
    go_ret
    exact ⟨rfl, Below.refl _ _⟩
end Go.Proofs.Ytjgomgagaolhgaa.IndentL
