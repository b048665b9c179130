/- FnPrintQuotedPicksShorterQuote: helpers. -/
import Derived.Test.YtmgkjkfhhdkkmaaFmtRows
import Derived.Test.YtmgkjkfhhdkkmaaFmtMem
import Derived.Test.YtmgkjkfhhdkkmaaFmtSl
import Derived.Test.YtmgkjkfhhdkkmaaFmtPrn
import Derived.Test.YtmgkjkfhhdkkmaaFmtPru
import Derived.Test.YtmgkjkfhhdkkmaaFmtStr
import Derived.Test.YtmgkjkfhhdkkmaaFmtLine
import Derived.Test.YtmgkjkfhhdkkmaaFmtUtf
import Derived.Test.YtmgkjkfhhdkkmaaFmtQt
import Derived.Test.YtmgkjkfhhdkkmaaFmtShelf
import Derived.Test.YtmgkjkfhhdkkmaaFmtOwn
import Derived.Great.BuildSlice
import Derived.Deep.RegionLaw
import Derived.Laws.RangeAny
import Derived.WalkKit
import Derived.ProofKit
import Derived.OpenShut
import Derived.Below
import Derived.WalkLawsBesides
import Derived.Lib.Hide
import Derived.Outline
import Derived.RegionTactic
import Derived.Deep.QuietTactic
import Derived.BigQuiet
import Derived.WalkSpells
import Derived.Deep.OwnRows
import Derived.IntWalk
import Derived.Deep.DeepMust
namespace Go.Proofs.YtmgkjkfhhdkkmaaFmt.PqA
open Go.RowKit Mem Sl
set_option linter.unusedVariables false
open Prn Pru Str Line Qt Own
theorem info5 : (Tryf.prog.info? 5).map (fun i => (i.zero, i.size, i.bytes)) = some (some (.int .u8 0), 1, 1) := by kernel_rfl

theorem clone6_info : (Tryf.prog.info? 5).map (fun i => (i.zero, i.size, i.bytes)) = some (some (.int .u8 0), 1, 1) := by kernel_rfl
set_option maxHeartbeats 400000 in
theorem clone6 (A : Option Addr) (n c : Nat) (zs : List Int) (w : World) (h : Args.IsInts .u8 w A n c zs) (hn : n ≤ 1048576) :
    Calls Tryf.prog 6 #[.slice A n c] w fun e w' => Cloned .u8 5 w A n zs e w' := by
  have heq := fun (W : World) (X : Option Addr) (l cc : Nat) => Lib.run_eql_slice_nil (P := Tryf.prog) W 22 5 X l cc 0 0 Tryf.underlying22
  rcases A with _ | a
  · obtain ⟨h1, h2, h3, h4, h5, h6⟩ := h
    have hc := h5 rfl
    obtain rfl : n = 0 := by omega
    obtain rfl : zs = [] := List.eq_nil_of_length_eq_zero h3
    go_enter Tryf.func6, Tryf.ntmps6
    go_wp2
    go_ret
    exact ⟨_, rfl, .inl ⟨rfl, rfl, rfl⟩⟩
  · have hmk := fun W => run_make_row' (P := Tryf.prog) 22 5 (.int .u8 0) 1 Tryf.underlying22 clone6_info rfl .i64 .i64 n (by omega) (by omega) W
    have hlen := h.2.2.1
    have hrd := fun k => h.read k
    have HR := Lib.hid hrd
    clear hrd
    go_enter Tryf.func6, Tryf.ntmps6
    go_wp2
    go_loopw [4] (fun i wr => ∃ k : Nat, k ≤ n ∧ i = .int .i64 k ∧ Row wr w.heap.size 5 (filled (iv .u8 zs) (.int .u8 0) k) ∧ Below w.heap.size w wr ∧ wr.heap.size = w.heap.size + 1) (fun i _ => n - (intOf i).toNat)
    case atStart =>
      refine ⟨0, Nat.zero_le _, rfl, ?_, (Below.refl _ _).alloc (Nat.le_refl _) _, by simp⟩
      rw [filled_zero, iv_length, hlen]
      exact made_row w 5 (.int .u8 0) n
    case round =>
      obtain ⟨k, hk, rfl, hrow, hbel, hsz⟩ := hrel
      have HS := Lib.hid hsz
      clear hsz
      by_cases hlt : k < n
      · obtain ⟨b, off, ha, hb, hcell⟩ := HR.out k hlt
        injection ha with ha
        subst ha
        obtain ⟨x, hx⟩ : ∃ x, x = zs.getD k 0 := ⟨_, rfl⟩
        rw [← hx] at hcell
        have c1 := cell_later hbel hcell
        have hl : k < (iv .u8 zs).length := by rw [iv_length]; omega
        have c2 := hrow.at_ (filled_at (iv .u8 zs) (.int .u8 0) k hl)
        have c3 := hrow.frozen k
        have hset := hrow.set k (.int .u8 x)
        rw [filled_set _ _ k hl _ (by rw [hx]; exact iv_at .u8 zs k (by omega))] at hset
        have HSET := Lib.hid hset
        have HB := Lib.hid hbel
        clear hset hbel hrow hcell hx
        go_wp2
        go_roundw
        case rel => exact ⟨k + 1, by omega, by go_num, HSET.out, HB.out.setCell (Nat.le_refl _) _, by simpa using HS.out⟩
        case measure => simp [intOf]; omega
      · have hkn : k = n := by omega
        subst hkn
        have HROW := Lib.hid hrow
        have HB := Lib.hid hbel
        clear hrow hbel
        go_wp2
        go_ret
        refine ⟨_, rfl, .inr ⟨by simp, rfl, ?_, HB.out, HS.out⟩⟩
        have h1 := HROW.out
        rwa [← hlen, ← iv_length .u8 zs, filled_all] at h1

set_option maxHeartbeats 400000 in
theorem same9 (A B : Option Addr) (n c d : Nat) (zs : List Int) (w : World) (h : Args.IsInts .u8 w A n c zs) (h' : Args.IsInts .u8 w B n d zs) (hn : n ≤ 16777216) :
    Calls Tryf.prog 9 #[.slice A n c, .slice B n d] w fun e w' => e = .returned (.bool true) ∧ ∃ m, w' = w.drewN m := by
  have HR := Lib.hid (fun k => h.read k)
  have HR' := Lib.hid (fun k => h'.read k)
  have hne : ((n : Int) != (n : Int)) = false := by simp
  clear h h'
  go_enter Tryf.func9, Tryf.ntmps9
  go_wp2
  go_loopw [5] (fun i wr => ∃ k m : Nat, k ≤ n ∧ i = .int .i64 k ∧ wr = w.drewN m) (fun i _ => n - (intOf i).toNat)
  case atStart => exact ⟨0, 0, Nat.zero_le _, rfl, rfl⟩
  case round =>
    obtain ⟨k, m, hk, rfl, rfl⟩ := hrel
    by_cases hlt : k < n
    · obtain ⟨b, off, ha, hb, hcell⟩ := HR.out k hlt
      obtain ⟨b', off', ha', hb', hcell'⟩ := HR'.out k hlt
      subst ha ha'
      obtain ⟨x, hx⟩ : ∃ x, x = zs.getD k 0 := ⟨_, rfl⟩
      rw [← hx] at hcell hcell'
      clear hx
      have hxx : (x != x) = false := by simp
      go_wp2
      go_quiet (fail)
      go_wp2
      go_roundw
      case rel => exact ⟨k + 1, m + nq, by omega, by go_num, by simp⟩
      case measure => simp [intOf]; omega
    · go_wp2
      go_ret
      exact ⟨rfl, m, rfl⟩

set_option maxHeartbeats 1000000 in
theorem bytes4 (A0 : Option Addr) (n0 c0 : Nat) (y1 : Int) (y2 : ByteArray) (y3 : Int) (w : World) (m0 : n0 ≤ maxLen) (m2 : y2.size ≤ maxLen) : Calls Tryf.prog 4 #[.slice A0 n0 c0, .int .i64 y1, .string y2, .int .u8 y3] w fun e w' => e = .returned (.bool (decide (n0 + y2.size ≤ 1048576))) ∧ w = w' := by
  unfold maxLen at *
  by_cases h0 : n0 ≤ 1048576
  case neg =>
    go_enter Tryf.func4, Tryf.ntmps4
    go_wp2_with fail
    go_ret
    exact ⟨congrArg (fun b => Ending.returned (Value.bool b)) (show false = decide (n0 + y2.size ≤ 1048576) by symm; simp; omega), rfl⟩
  by_cases h1 : y2.size ≤ 1048576
  case neg =>
    go_enter Tryf.func4, Tryf.ntmps4
    go_wp2_with fail
    go_ret
    exact ⟨congrArg (fun b => Ending.returned (Value.bool b)) (show false = decide (n0 + y2.size ≤ 1048576) by symm; simp; omega), rfl⟩
  by_cases g1 : n0 + y2.size ≤ 1048576
  case neg =>
    go_enter Tryf.func4, Tryf.ntmps4
    go_wp2_with fail
    go_ret
    exact ⟨congrArg (fun b => Ending.returned (Value.bool b)) (show false = decide (n0 + y2.size ≤ 1048576) by symm; simp; omega), rfl⟩
  go_enter Tryf.func4, Tryf.ntmps4
  go_wp2_with fail
  go_ret
  exact ⟨congrArg (fun b => Ending.returned (Value.bool b)) (show true = decide (n0 + y2.size ≤ 1048576) by symm; simp; omega), rfl⟩

set_option maxHeartbeats 1000000 in
theorem len13 (A : Option Addr) (n c p e0 : Nat) (s0 : Int) (zs : List Int) (cs : List Value) (w : World) (h : Args.IsInts .u8 w A n c zs) (hn : n ≤ 2097152) (hrow : Row w p 57 cs)
    (hj : cs[15]? = some (.slice A n c)) (hs : cs[41]? = some (.int .i64 s0)) (he : cs[42]? = some (.int .i64 e0)) (hen : e0 ≤ n) (hs0 : 0 ≤ s0) (hsn : s0 ≤ n) :
    Calls Tryf.prog 13 #[.pointer (some ⟨p, 0, none⟩)] w fun e w' => e = .returned (.int .i64 ((n : Int) - nlFrom zs e0 s0 n)) ∧ LineDone w p 57 cs 41 42 (nlFrom zs e0 s0 n) n w' := by
  have HR := Lib.hid (fun k => h.read k)
  have c1 := hrow.at_ hj
  have c2 := hrow.at_ hs
  have c3 := hrow.at_ he
  have f1 := hrow.frozen 41
  have f2 := hrow.frozen 42
  have HROW := Lib.hid hrow
  have HS := Lib.hid hs
  clear h hrow hj he hs
  go_enter Tryf.func13, Tryf.ntmps13
  go_wp2
  go_loop [6] (fun i => ∃ k : Nat, k ≤ n ∧ e0 ≤ k ∧ i = .int .i64 k ∧ Hid (nlFrom zs e0 s0 n = nlFrom zs e0 s0 k)) (fun i => (intOf i).toNat)
  case atStart => exact ⟨n, Nat.le_refl _, hen, rfl, rfl⟩
  case round =>
    obtain ⟨k, hk, hek, rfl, HE⟩ := hrel
    by_cases hlt : e0 < k
    · obtain ⟨j, rfl⟩ : ∃ j, k = j + 1 := ⟨k - 1, by omega⟩
      obtain ⟨b, off, ha, hb, hcell⟩ := HR.out j (by omega)
      subst ha
      obtain ⟨x, hx⟩ : ∃ x, x = zs.getD j 0 := ⟨_, rfl⟩
      rw [← hx] at hcell
      have HX := Lib.hid hx
      clear hx
      have hd : decide ((e0 : Int) < (j : Int) + 1) = true := by simp; omega
      have hd' : (e0 : Int) < (j : Int) + 1 := by omega
      by_cases h13 : (x == 13) = true
      · have HF := Lib.hid (nl_hit zs e0 s0 j (by omega) (by rw [← HX.out]; simp [isNl]; simp at h13; omega))
        go_wp2
        go_ret
        exact line_done_hit HROW.out HE.out HF.out
      · have h13' : (x == 13) = false := by simpa using h13
        by_cases h10 : (x == 10) = true
        · have HF := Lib.hid (nl_hit zs e0 s0 j (by omega) (by rw [← HX.out]; simp [isNl]; simp at h10; omega))
          go_wp2
          go_ret
          exact line_done_hit HROW.out HE.out HF.out
        · have h10' : (x == 10) = false := by simpa using h10
          have HF := Lib.hid (nl_miss zs e0 s0 j (by omega) (by rw [← HX.out]; simp [isNl, h13', h10']))
          clear h13 h10
          go_wp2
          go_round
          case rel => exact ⟨j, by omega, by omega, by go_num, HE.out.trans HF.out⟩
          case measure => simp [intOf]
    · have HF := Lib.hid (nl_stop zs e0 s0 k (by omega))
      go_wp2
      go_ret
      exact line_done_miss HROW.out HE.out HF.out HS.out
def fU (n : Nat) : Bool := n == 39 || n == 34 || n == 40 || n == 41 || n == 32 || n == 9 || n == 92 || n == 10 || n == 13 || n == 12
def fS (n : Nat) : Bool := n == 39 || n == 92 || n == 10 || n == 13 || n == 12
def fD (n : Nat) : Bool := n == 34 || n == 92 || n == 10 || n == 13 || n == 12

theorem fU_hi : ∀ n, 128 ≤ n → fU n = false := by intro n h; simp [fU]; omega
theorem fS_hi : ∀ n, 128 ≤ n → fS n = false := by intro n h; simp [fS]; omega
theorem fD_hi : ∀ n, 128 ≤ n → fD n = false := by intro n h; simp [fD]; omega
/-- The quote that is chosen. -/
def bq (s : ByteArray) (f : Bool) : Int :=
  if (f && decide (Utf.cnt fU s s.size < 2 + Utf.cnt fS s s.size) && decide (Utf.cnt fU s s.size < 2 + Utf.cnt fD s s.size)) = true then 0 else if 2 + Utf.cnt fS s s.size < 2 + Utf.cnt fD s s.size then 39 else 34
theorem bq_eq (s : ByteArray) (f : Bool) : bq s f = if (f && decide (Utf.cnt fU s s.size < 2 + Utf.cnt fS s s.size) && decide (Utf.cnt fU s s.size < 2 + Utf.cnt fD s s.size)) = true then 0 else if 2 + Utf.cnt fS s s.size < 2 + Utf.cnt fD s s.size then 39 else 34 := rfl
def Rel (s : ByteArray) (w : World) (u a b : Value) (wr : World) : Prop :=
  ∃ pos : Nat, pos ≤ s.size ∧ wr = w.iter s pos ∧ u = .int .i64 (Utf.cnt fU s pos : Nat) ∧ a = .int .i64 (2 + (Utf.cnt fS s pos : Nat) : Int) ∧ b = .int .i64 (2 + (Utf.cnt fD s pos : Nat) : Int)
set_option maxRecDepth 100000 in
set_option maxHeartbeats 4000000 in
theorem best (s : ByteArray) (f : Bool) (w : World) (hs : s.size ≤ 1048576) :
    Calls Tryf.prog 12 #[.string s, .bool f] w fun e w' => e = .returned (.int .u8 (bq s f)) ∧ Below w.heap.size w w' := by
  go_enter Tryf.func12, Tryf.ntmps12
  go_wp2
  go_loopw [5, 6, 7] (fun u a b wr => Rel s w u a b wr) (fun _ _ _ wr => s.size - wr.iterPos w.heap.size)
  case atStart => exact ⟨0, Nat.zero_le _, rfl, rfl, rfl, rfl⟩
  case round =>
    obtain ⟨pos, hp, rfl, rfl, rfl, rfl⟩ := hrel
    have l1 := Utf.cnt_le fU s pos
    have l2 := Utf.cnt_le fS s pos
    have l3 := Utf.cnt_le fD s pos
    by_cases hlt : pos < s.size
    · have hnx : ∀ ty, (Instr.next (.pointer (some ⟨w.heap.size, 0, none⟩)) true ty).run Tryf.prog (w.iter s pos) = _ := fun ty => run_next_any w s pos ty hlt
      have s1 := step_cnt fU fU_hi s pos hlt
      have s2 := step_cnt fS fS_hi s pos hlt
      have s3 := step_cnt fD fD_hi s pos hlt
      obtain ⟨d1, d2⟩ := wd_pos s pos hlt
      unfold wd ru at s1 s2 s3
      unfold wd at d1 d2
      have hnext : ∃ pos' : Nat, pos' = pos + (Utf8.decode s pos).2 := ⟨_, rfl⟩
      obtain ⟨pos', hpos'⟩ := hnext
      rw [← hpos'] at hnx s1 s2 s3 d2
      have hr : ∃ r : Nat, r = (Utf8.decode s pos).1 := ⟨_, rfl⟩
      obtain ⟨r, hr⟩ := hr
      rw [← hr] at hnx s1 s2 s3
      have hlt' : pos < pos' := by omega
      have S1 := Lib.hid s1
      have S2 := Lib.hid s2
      have S3 := Lib.hid s3
      clear hpos' hr s1 s2 s3 d1
      by_cases h39 : r = 39
      · subst h39
        go_wp2
        go_roundw
        case rel => exact ⟨pos', d2, rfl, by rw [S1.out]; first | rfl | go_num, by rw [S2.out]; first | rfl | go_num, by rw [S3.out]; first | rfl | go_num⟩
        case measure => simp; omega
      by_cases h34 : r = 34
      · subst h34
        go_wp2
        go_roundw
        case rel => exact ⟨pos', d2, rfl, by rw [S1.out]; first | rfl | go_num, by rw [S2.out]; first | rfl | go_num, by rw [S3.out]; first | rfl | go_num⟩
        case measure => simp; omega
      by_cases h40 : r = 40
      · subst h40
        go_wp2
        go_roundw
        case rel => exact ⟨pos', d2, rfl, by rw [S1.out]; first | rfl | go_num, by rw [S2.out]; first | rfl | go_num, by rw [S3.out]; first | rfl | go_num⟩
        case measure => simp; omega
      by_cases h41 : r = 41
      · subst h41
        go_wp2
        go_roundw
        case rel => exact ⟨pos', d2, rfl, by rw [S1.out]; first | rfl | go_num, by rw [S2.out]; first | rfl | go_num, by rw [S3.out]; first | rfl | go_num⟩
        case measure => simp; omega
      by_cases h32 : r = 32
      · subst h32
        go_wp2
        go_roundw
        case rel => exact ⟨pos', d2, rfl, by rw [S1.out]; first | rfl | go_num, by rw [S2.out]; first | rfl | go_num, by rw [S3.out]; first | rfl | go_num⟩
        case measure => simp; omega
      by_cases h9 : r = 9
      · subst h9
        go_wp2
        go_roundw
        case rel => exact ⟨pos', d2, rfl, by rw [S1.out]; first | rfl | go_num, by rw [S2.out]; first | rfl | go_num, by rw [S3.out]; first | rfl | go_num⟩
        case measure => simp; omega
      by_cases h92 : r = 92
      · subst h92
        go_wp2
        go_roundw
        case rel => exact ⟨pos', d2, rfl, by rw [S1.out]; first | rfl | go_num, by rw [S2.out]; first | rfl | go_num, by rw [S3.out]; first | rfl | go_num⟩
        case measure => simp; omega
      by_cases h10 : r = 10
      · subst h10
        go_wp2
        go_roundw
        case rel => exact ⟨pos', d2, rfl, by rw [S1.out]; first | rfl | go_num, by rw [S2.out]; first | rfl | go_num, by rw [S3.out]; first | rfl | go_num⟩
        case measure => simp; omega
      by_cases h13 : r = 13
      · subst h13
        go_wp2
        go_roundw
        case rel => exact ⟨pos', d2, rfl, by rw [S1.out]; first | rfl | go_num, by rw [S2.out]; first | rfl | go_num, by rw [S3.out]; first | rfl | go_num⟩
        case measure => simp; omega
      by_cases h12 : r = 12
      · subst h12
        go_wp2
        go_roundw
        case rel => exact ⟨pos', d2, rfl, by rw [S1.out]; first | rfl | go_num, by rw [S2.out]; first | rfl | go_num, by rw [S3.out]; first | rfl | go_num⟩
        case measure => simp; omega
      have q39 : ((r : Int) == 39) = false := by simp; omega
      have q34 : ((r : Int) == 34) = false := by simp; omega
      have q40 : ((r : Int) == 40) = false := by simp; omega
      have q41 : ((r : Int) == 41) = false := by simp; omega
      have q32 : ((r : Int) == 32) = false := by simp; omega
      have q9 : ((r : Int) == 9) = false := by simp; omega
      have q92 : ((r : Int) == 92) = false := by simp; omega
      have q10 : ((r : Int) == 10) = false := by simp; omega
      have q13 : ((r : Int) == 13) = false := by simp; omega
      have q12 : ((r : Int) == 12) = false := by simp; omega
      rw [show fU r = false by simp [fU]; omega] at S1
      rw [show fS r = false by simp [fS]; omega] at S2
      rw [show fD r = false by simp [fD]; omega] at S3
      clear h39 h34 h40 h41 h32 h9 h92 h10 h13 h12
      go_wp2
      go_roundw
      case rel => exact ⟨pos', d2, rfl, by rw [S1.out]; first | rfl | go_num, by rw [S2.out]; first | rfl | go_num, by rw [S3.out]; first | rfl | go_num⟩
      case measure => simp; omega
    · have hnx : ∀ ty, (Instr.next (.pointer (some ⟨w.heap.size, 0, none⟩)) true ty).run Tryf.prog (w.iter s pos) = _ := fun ty => run_next_end w s pos ty hlt
      obtain rfl : pos = s.size := by omega
      have HB : Below w.heap.size w (w.iter s s.size) := (Below.refl _ _).alloc (Nat.le_refl _) _
      have HBH := Lib.hid HB
      have HQ := Lib.hid (bq_eq s f)
      clear HB hlt hp
      generalize Utf.cnt fU s s.size = u at *
      generalize Utf.cnt fS s s.size = a at *
      generalize Utf.cnt fD s s.size = b at *
      cases f
      · by_cases hab : a < b
        · have e3 : decide ((2 : Int) + (a : Int) < 2 + (b : Int)) = true := by simp; omega
          have HR := Lib.hid (show bq s false = 39 by rw [HQ.out]; simp [hab])
          go_wp2
          go_ret
          exact ⟨ret_int HR.out.symm, HBH.out⟩
        · have e3 : decide ((2 : Int) + (a : Int) < 2 + (b : Int)) = false := by simp; omega
          have HR := Lib.hid (show bq s false = 34 by rw [HQ.out]; simp [hab])
          go_wp2
          go_ret
          exact ⟨ret_int HR.out.symm, HBH.out⟩
      · by_cases h1 : u < 2 + a
        · have e1 : decide ((u : Int) < 2 + (a : Int)) = true := by simp; omega
          by_cases h2 : u < 2 + b
          · have e2 : decide ((u : Int) < 2 + (b : Int)) = true := by simp; omega
            have HR := Lib.hid (show bq s true = 0 by rw [HQ.out]; simp [h1, h2])
            go_wp2
            go_ret
            exact ⟨ret_int HR.out.symm, HBH.out⟩
          · have e2 : decide ((u : Int) < 2 + (b : Int)) = false := by simp; omega
            by_cases hab : a < b
            · have e3 : decide ((2 : Int) + (a : Int) < 2 + (b : Int)) = true := by simp; omega
              have HR := Lib.hid (show bq s true = 39 by rw [HQ.out]; simp [h1, h2, hab])
              go_wp2
              go_ret
              exact ⟨ret_int HR.out.symm, HBH.out⟩
            · have e3 : decide ((2 : Int) + (a : Int) < 2 + (b : Int)) = false := by simp; omega
              have HR := Lib.hid (show bq s true = 34 by rw [HQ.out]; simp [h1, h2, hab])
              go_wp2
              go_ret
              exact ⟨ret_int HR.out.symm, HBH.out⟩
        · have e1 : decide ((u : Int) < 2 + (a : Int)) = false := by simp; omega
          by_cases hab : a < b
          · have e3 : decide ((2 : Int) + (a : Int) < 2 + (b : Int)) = true := by simp; omega
            have HR := Lib.hid (show bq s true = 39 by rw [HQ.out]; simp [h1, hab])
            go_wp2
            go_ret
            exact ⟨ret_int HR.out.symm, HBH.out⟩
          · have e3 : decide ((2 : Int) + (a : Int) < 2 + (b : Int)) = false := by simp; omega
            have HR := Lib.hid (show bq s true = 34 by rw [HQ.out]; simp [h1, hab])
            go_wp2
            go_ret
            exact ⟨ret_int HR.out.symm, HBH.out⟩

/-- Behind EncodeRune of an ASCII rune into block b. -/
structure Encd (w : World) (b : Nat) (c : Int) (w' : World) : Prop where
  row : Row w' b 71 [.int .u8 c, .int .u8 0, .int .u8 0, .int .u8 0]
  grown : w.grownBy w' (some b)
  size : w'.heap.size = w.heap.size
theorem enc20 (b : Nat) (c : Int) (w : World) (h0 : 0 ≤ c) (h1 : c < 128) (hr : Row w b 71 [.int .u8 0, .int .u8 0, .int .u8 0, .int .u8 0]) :
    Calls Tryf.prog 20 #[.slice (some ⟨b, 0, none⟩) 4 4, .int .i32 c] w fun e w' => e = .returned (.int .i64 1) ∧ Encd w b c w' := by
  have c0 := hr.at_ (i := 0) rfl
  have f0 := hr.frozen 0
  have HE := Lib.hid (show Encd w b c (w.setCell ⟨b, 0, none⟩ (.int .u8 c)) from ⟨hr.set 0 _, grown_set (grown_refl _ _) _ _, by simp⟩)
  have w1 : IntKind.u32.wrap c = c := IntWalk.u32_in _ (by omega)
  have w2 : IntKind.u8.wrap c = c := IntWalk.u8_in _ (by omega)
  have t2 : decide (c ≤ 127) = true := by simp; omega
  clear hr
  go_enter Tryf.func20, Tryf.ntmps20
  go_wp2
  go_ret
  exact ⟨rfl, HE.out⟩
/-- No hexadecimal digit. -/
def NoHex (c : Int) : Prop := ¬ (48 ≤ c ∧ c ≤ 57) ∧ ¬ (97 ≤ c ∧ c ≤ 102) ∧ ¬ (65 ≤ c ∧ c ≤ 70)

theorem set_cs (cs : List Value) (v v' : Value) : (cs.set 15 v).set 15 v' = cs.set 15 v' := by simp

set_option maxRecDepth 100000 in
set_option maxHeartbeats 4000000 in
theorem esc17_bs0 (p : Nat) (cs : List Value) (v : Value) (zs : List Int) (c : Int) (r : ByteArray) (f : Bool) (w : World) (h : Pr w p 57 15 5 cs v zs) (h0 : 0 ≤ c) (h1 : c < 128) (hb : zs.length ≤ 100000000) (ha : 0 ≤ c) (hc : c ≤ 47) :
    Calls Tryf.prog 17 #[.pointer (some ⟨p, 0, none⟩), .int .i32 c, .int .u8 1, .string r, .bool f] w fun e w' => e = .returned (.tuple #[]) ∧ Printed w p 57 15 5 cs v (zs ++ [92] ++ [c]) w' := by
  obtain ⟨i0, hi, hz0, hz1, hz2⟩ := info_parts info5
  have HL := Lib.hid hb
  obtain ⟨A0, cc0, rfl⟩ := h.buf.form
  have hp := h.row.lt
  have HV := Lib.hid h.buf.lt
  have HX := Lib.hid ((h.alloc (.cells #[.int .u8 0, .int .u8 0, .int .u8 0, .int .u8 0] 71)).alloc (.cells #[.int .u8 92] 5))
  have HS0 := Lib.hid (Step.of_below (p := p) (v := .slice A0 zs.length cc0) (((Below.refl w.heap.size w).alloc (Nat.le_refl _) (.cells #[.int .u8 0, .int .u8 0, .int .u8 0, .int .u8 0] 71)).alloc (by simp) (.cells #[.int .u8 92] 5)) (Nat.le_refl _))
  have HR0 := Lib.hid ((Row.newArr w 71 #[.int .u8 0, .int .u8 0, .int .u8 0, .int .u8 0]).alloc (.cells #[.int .u8 92] 5))
  have HC92 := Lib.hid (show ((w.alloc (.cells #[.int .u8 0, .int .u8 0, .int .u8 0, .int .u8 0] 71)).alloc (.cells #[.int .u8 92] 5)).cell? ⟨w.heap.size + 1, 0, none⟩ = some (.int .u8 92) by simp)
  have c15 := h.row.at_ h.at_
  clear h hb
  have t48 : decide (48 ≤ c) = false := by simp; omega
  have t57 : decide (c ≤ 57) = true := by simp; omega
  have t97 : decide (97 ≤ c) = false := by simp; omega
  have t102 : decide (c ≤ 102) = true := by simp; omega
  have t65 : decide (65 ≤ c) = false := by simp; omega
  have t70 : decide (c ≤ 70) = true := by simp; omega
  go_enter Tryf.func17, Tryf.ntmps17
  go_wp2_with (first | (at_builtin; refine wpList_append_buf _ rfl (.tmp 63) (.tmp 64) 22 rfl 5 i0 Tryf.underlying22 hi hz0 hz1 hz2 (.slice A0 zs.length cc0) zs rfl HX.out.buf ⟨w.heap.size + 1, 0, none⟩ 1 1 [92] rfl rfl (fun j hj => by obtain rfl : j = 0 := (by omega); exact HC92.out) (by have := HL.out; omega) ?_; intro A2 n2 cc2 w2 hbuf hgr hat; obtain ⟨k1, k2, k3, k4⟩ := HX.out.store (by decide) hbuf (.of_grown hgr hat) hgr; have K1 := Lib.hid k1; have K2 := Lib.hid k2; have HG := Lib.hid hgr; have HAT := Lib.hid hat; clear k1 k2 hbuf hgr hat) | (go_at_call 20; refine (enc20 w.heap.size c _ h0 h1 ((HR0.out.grown HG.out (fun e => by have := HV.out _ e.symm; omega)).far (p := ⟨p, 15, none⟩) (show w.heap.size ≠ p by omega) _)).mono ?_; rintro e w4 ⟨rfl, henc⟩; have HE := Lib.hid henc; clear henc))
  have hown : Value.ownBlock (.slice A2 n2 cc2) ≠ some w.heap.size := by
    intro e
    rcases HAT.out with h | h
    · rw [h] at e; have := HV.out _ e; omega
    · rw [h] at e; injection e with e; simp at e; omega
  have HP4 := Lib.hid (K1.out.other HE.out.grown (by omega) hown)
  have HR4 := Lib.hid HE.out.row
  have HST := Lib.hid (Step.more (HS0.out.trans K2.out) HE.out.grown (Nat.le_refl _) : Step p w (.slice A0 zs.length cc0) w4 (.slice A2 n2 cc2))
  clear hown
  obtain ⟨v5, w5, hrun, hbuf5, hgr5, hat5⟩ := run_append_ints_at (P := Tryf.prog) w4.drew 22 22 5 i0 Tryf.underlying22 hi hz0 hz1 hz2 (.slice A2 n2 cc2) (zs ++ [92]) HP4.out.drew.buf ⟨w.heap.size, 0, none⟩ 1 4 [c] rfl (fun j hj => by obtain rfl : j = 0 := (by omega); exact HR4.out.at_ (i := 0) rfl) (by have := HL.out; simp; omega)
  obtain ⟨k1, k2, k3, k4⟩ := (HP4.out.drew).store (by decide) hbuf5 (.of_grown hgr5 hat5) hgr5
  obtain ⟨A5, cc5, hv5⟩ := hbuf5.form
  generalize (zs ++ [92] ++ [c]).length = n5 at hv5
  subst hv5
  have HRUN := Lib.hid hrun
  have K5 := Lib.hid k1
  have K6 := Lib.hid k2
  have d15 := HP4.out.row.at_ HP4.out.at_
  clear hrun hbuf5 hgr5 hat5 k1 k2
  go_wp2_with fail
  go_region_law (first | (refine step_append_run rfl _ _ 22 22 rfl _ _ _ w5 rfl rfl HRUN.out ?_))
  all_goals
    go_wp2_with fail
    go_end0
    exact ⟨rfl, _, by have h9 := K5.out; rw [set_cs] at h9; exact h9, HST.out.trans (((Step.refl p w4 (.slice A2 n2 cc2)).drew).trans K6.out)⟩

set_option maxRecDepth 100000 in
set_option maxHeartbeats 4000000 in
theorem esc17_bs1 (p : Nat) (cs : List Value) (v : Value) (zs : List Int) (c : Int) (r : ByteArray) (f : Bool) (w : World) (h : Pr w p 57 15 5 cs v zs) (h0 : 0 ≤ c) (h1 : c < 128) (hb : zs.length ≤ 100000000) (ha : 58 ≤ c) (hc : c ≤ 64) :
    Calls Tryf.prog 17 #[.pointer (some ⟨p, 0, none⟩), .int .i32 c, .int .u8 1, .string r, .bool f] w fun e w' => e = .returned (.tuple #[]) ∧ Printed w p 57 15 5 cs v (zs ++ [92] ++ [c]) w' := by
  obtain ⟨i0, hi, hz0, hz1, hz2⟩ := info_parts info5
  have HL := Lib.hid hb
  obtain ⟨A0, cc0, rfl⟩ := h.buf.form
  have hp := h.row.lt
  have HV := Lib.hid h.buf.lt
  have HX := Lib.hid ((h.alloc (.cells #[.int .u8 0, .int .u8 0, .int .u8 0, .int .u8 0] 71)).alloc (.cells #[.int .u8 92] 5))
  have HS0 := Lib.hid (Step.of_below (p := p) (v := .slice A0 zs.length cc0) (((Below.refl w.heap.size w).alloc (Nat.le_refl _) (.cells #[.int .u8 0, .int .u8 0, .int .u8 0, .int .u8 0] 71)).alloc (by simp) (.cells #[.int .u8 92] 5)) (Nat.le_refl _))
  have HR0 := Lib.hid ((Row.newArr w 71 #[.int .u8 0, .int .u8 0, .int .u8 0, .int .u8 0]).alloc (.cells #[.int .u8 92] 5))
  have HC92 := Lib.hid (show ((w.alloc (.cells #[.int .u8 0, .int .u8 0, .int .u8 0, .int .u8 0] 71)).alloc (.cells #[.int .u8 92] 5)).cell? ⟨w.heap.size + 1, 0, none⟩ = some (.int .u8 92) by simp)
  have c15 := h.row.at_ h.at_
  clear h hb
  have t48 : decide (48 ≤ c) = true := by simp; omega
  have t57 : decide (c ≤ 57) = false := by simp; omega
  have t97 : decide (97 ≤ c) = false := by simp; omega
  have t102 : decide (c ≤ 102) = true := by simp; omega
  have t65 : decide (65 ≤ c) = false := by simp; omega
  have t70 : decide (c ≤ 70) = true := by simp; omega
  go_enter Tryf.func17, Tryf.ntmps17
  go_wp2_with (first | (at_builtin; refine wpList_append_buf _ rfl (.tmp 63) (.tmp 64) 22 rfl 5 i0 Tryf.underlying22 hi hz0 hz1 hz2 (.slice A0 zs.length cc0) zs rfl HX.out.buf ⟨w.heap.size + 1, 0, none⟩ 1 1 [92] rfl rfl (fun j hj => by obtain rfl : j = 0 := (by omega); exact HC92.out) (by have := HL.out; omega) ?_; intro A2 n2 cc2 w2 hbuf hgr hat; obtain ⟨k1, k2, k3, k4⟩ := HX.out.store (by decide) hbuf (.of_grown hgr hat) hgr; have K1 := Lib.hid k1; have K2 := Lib.hid k2; have HG := Lib.hid hgr; have HAT := Lib.hid hat; clear k1 k2 hbuf hgr hat) | (go_at_call 20; refine (enc20 w.heap.size c _ h0 h1 ((HR0.out.grown HG.out (fun e => by have := HV.out _ e.symm; omega)).far (p := ⟨p, 15, none⟩) (show w.heap.size ≠ p by omega) _)).mono ?_; rintro e w4 ⟨rfl, henc⟩; have HE := Lib.hid henc; clear henc))
  have hown : Value.ownBlock (.slice A2 n2 cc2) ≠ some w.heap.size := by
    intro e
    rcases HAT.out with h | h
    · rw [h] at e; have := HV.out _ e; omega
    · rw [h] at e; injection e with e; simp at e; omega
  have HP4 := Lib.hid (K1.out.other HE.out.grown (by omega) hown)
  have HR4 := Lib.hid HE.out.row
  have HST := Lib.hid (Step.more (HS0.out.trans K2.out) HE.out.grown (Nat.le_refl _) : Step p w (.slice A0 zs.length cc0) w4 (.slice A2 n2 cc2))
  clear hown
  obtain ⟨v5, w5, hrun, hbuf5, hgr5, hat5⟩ := run_append_ints_at (P := Tryf.prog) w4.drew 22 22 5 i0 Tryf.underlying22 hi hz0 hz1 hz2 (.slice A2 n2 cc2) (zs ++ [92]) HP4.out.drew.buf ⟨w.heap.size, 0, none⟩ 1 4 [c] rfl (fun j hj => by obtain rfl : j = 0 := (by omega); exact HR4.out.at_ (i := 0) rfl) (by have := HL.out; simp; omega)
  obtain ⟨k1, k2, k3, k4⟩ := (HP4.out.drew).store (by decide) hbuf5 (.of_grown hgr5 hat5) hgr5
  obtain ⟨A5, cc5, hv5⟩ := hbuf5.form
  generalize (zs ++ [92] ++ [c]).length = n5 at hv5
  subst hv5
  have HRUN := Lib.hid hrun
  have K5 := Lib.hid k1
  have K6 := Lib.hid k2
  have d15 := HP4.out.row.at_ HP4.out.at_
  clear hrun hbuf5 hgr5 hat5 k1 k2
  go_wp2_with fail
  go_region_law (first | (refine step_append_run rfl _ _ 22 22 rfl _ _ _ w5 rfl rfl HRUN.out ?_))
  all_goals
    go_wp2_with fail
    go_end0
    exact ⟨rfl, _, by have h9 := K5.out; rw [set_cs] at h9; exact h9, HST.out.trans (((Step.refl p w4 (.slice A2 n2 cc2)).drew).trans K6.out)⟩

set_option maxRecDepth 100000 in
set_option maxHeartbeats 4000000 in
theorem esc17_bs2 (p : Nat) (cs : List Value) (v : Value) (zs : List Int) (c : Int) (r : ByteArray) (f : Bool) (w : World) (h : Pr w p 57 15 5 cs v zs) (h0 : 0 ≤ c) (h1 : c < 128) (hb : zs.length ≤ 100000000) (ha : 71 ≤ c) (hc : c ≤ 96) :
    Calls Tryf.prog 17 #[.pointer (some ⟨p, 0, none⟩), .int .i32 c, .int .u8 1, .string r, .bool f] w fun e w' => e = .returned (.tuple #[]) ∧ Printed w p 57 15 5 cs v (zs ++ [92] ++ [c]) w' := by
  obtain ⟨i0, hi, hz0, hz1, hz2⟩ := info_parts info5
  have HL := Lib.hid hb
  obtain ⟨A0, cc0, rfl⟩ := h.buf.form
  have hp := h.row.lt
  have HV := Lib.hid h.buf.lt
  have HX := Lib.hid ((h.alloc (.cells #[.int .u8 0, .int .u8 0, .int .u8 0, .int .u8 0] 71)).alloc (.cells #[.int .u8 92] 5))
  have HS0 := Lib.hid (Step.of_below (p := p) (v := .slice A0 zs.length cc0) (((Below.refl w.heap.size w).alloc (Nat.le_refl _) (.cells #[.int .u8 0, .int .u8 0, .int .u8 0, .int .u8 0] 71)).alloc (by simp) (.cells #[.int .u8 92] 5)) (Nat.le_refl _))
  have HR0 := Lib.hid ((Row.newArr w 71 #[.int .u8 0, .int .u8 0, .int .u8 0, .int .u8 0]).alloc (.cells #[.int .u8 92] 5))
  have HC92 := Lib.hid (show ((w.alloc (.cells #[.int .u8 0, .int .u8 0, .int .u8 0, .int .u8 0] 71)).alloc (.cells #[.int .u8 92] 5)).cell? ⟨w.heap.size + 1, 0, none⟩ = some (.int .u8 92) by simp)
  have c15 := h.row.at_ h.at_
  clear h hb
  have t48 : decide (48 ≤ c) = true := by simp; omega
  have t57 : decide (c ≤ 57) = false := by simp; omega
  have t97 : decide (97 ≤ c) = false := by simp; omega
  have t102 : decide (c ≤ 102) = true := by simp; omega
  have t65 : decide (65 ≤ c) = true := by simp; omega
  have t70 : decide (c ≤ 70) = false := by simp; omega
  go_enter Tryf.func17, Tryf.ntmps17
  go_wp2_with (first | (at_builtin; refine wpList_append_buf _ rfl (.tmp 63) (.tmp 64) 22 rfl 5 i0 Tryf.underlying22 hi hz0 hz1 hz2 (.slice A0 zs.length cc0) zs rfl HX.out.buf ⟨w.heap.size + 1, 0, none⟩ 1 1 [92] rfl rfl (fun j hj => by obtain rfl : j = 0 := (by omega); exact HC92.out) (by have := HL.out; omega) ?_; intro A2 n2 cc2 w2 hbuf hgr hat; obtain ⟨k1, k2, k3, k4⟩ := HX.out.store (by decide) hbuf (.of_grown hgr hat) hgr; have K1 := Lib.hid k1; have K2 := Lib.hid k2; have HG := Lib.hid hgr; have HAT := Lib.hid hat; clear k1 k2 hbuf hgr hat) | (go_at_call 20; refine (enc20 w.heap.size c _ h0 h1 ((HR0.out.grown HG.out (fun e => by have := HV.out _ e.symm; omega)).far (p := ⟨p, 15, none⟩) (show w.heap.size ≠ p by omega) _)).mono ?_; rintro e w4 ⟨rfl, henc⟩; have HE := Lib.hid henc; clear henc))
  have hown : Value.ownBlock (.slice A2 n2 cc2) ≠ some w.heap.size := by
    intro e
    rcases HAT.out with h | h
    · rw [h] at e; have := HV.out _ e; omega
    · rw [h] at e; injection e with e; simp at e; omega
  have HP4 := Lib.hid (K1.out.other HE.out.grown (by omega) hown)
  have HR4 := Lib.hid HE.out.row
  have HST := Lib.hid (Step.more (HS0.out.trans K2.out) HE.out.grown (Nat.le_refl _) : Step p w (.slice A0 zs.length cc0) w4 (.slice A2 n2 cc2))
  clear hown
  obtain ⟨v5, w5, hrun, hbuf5, hgr5, hat5⟩ := run_append_ints_at (P := Tryf.prog) w4.drew 22 22 5 i0 Tryf.underlying22 hi hz0 hz1 hz2 (.slice A2 n2 cc2) (zs ++ [92]) HP4.out.drew.buf ⟨w.heap.size, 0, none⟩ 1 4 [c] rfl (fun j hj => by obtain rfl : j = 0 := (by omega); exact HR4.out.at_ (i := 0) rfl) (by have := HL.out; simp; omega)
  obtain ⟨k1, k2, k3, k4⟩ := (HP4.out.drew).store (by decide) hbuf5 (.of_grown hgr5 hat5) hgr5
  obtain ⟨A5, cc5, hv5⟩ := hbuf5.form
  generalize (zs ++ [92] ++ [c]).length = n5 at hv5
  subst hv5
  have HRUN := Lib.hid hrun
  have K5 := Lib.hid k1
  have K6 := Lib.hid k2
  have d15 := HP4.out.row.at_ HP4.out.at_
  clear hrun hbuf5 hgr5 hat5 k1 k2
  go_wp2_with fail
  go_region_law (first | (refine step_append_run rfl _ _ 22 22 rfl _ _ _ w5 rfl rfl HRUN.out ?_))
  all_goals
    go_wp2_with fail
    go_end0
    exact ⟨rfl, _, by have h9 := K5.out; rw [set_cs] at h9; exact h9, HST.out.trans (((Step.refl p w4 (.slice A2 n2 cc2)).drew).trans K6.out)⟩

set_option maxRecDepth 100000 in
set_option maxHeartbeats 4000000 in
theorem esc17_bs3 (p : Nat) (cs : List Value) (v : Value) (zs : List Int) (c : Int) (r : ByteArray) (f : Bool) (w : World) (h : Pr w p 57 15 5 cs v zs) (h0 : 0 ≤ c) (h1 : c < 128) (hb : zs.length ≤ 100000000) (ha : 103 ≤ c) (hc : c ≤ 127) :
    Calls Tryf.prog 17 #[.pointer (some ⟨p, 0, none⟩), .int .i32 c, .int .u8 1, .string r, .bool f] w fun e w' => e = .returned (.tuple #[]) ∧ Printed w p 57 15 5 cs v (zs ++ [92] ++ [c]) w' := by
  obtain ⟨i0, hi, hz0, hz1, hz2⟩ := info_parts info5
  have HL := Lib.hid hb
  obtain ⟨A0, cc0, rfl⟩ := h.buf.form
  have hp := h.row.lt
  have HV := Lib.hid h.buf.lt
  have HX := Lib.hid ((h.alloc (.cells #[.int .u8 0, .int .u8 0, .int .u8 0, .int .u8 0] 71)).alloc (.cells #[.int .u8 92] 5))
  have HS0 := Lib.hid (Step.of_below (p := p) (v := .slice A0 zs.length cc0) (((Below.refl w.heap.size w).alloc (Nat.le_refl _) (.cells #[.int .u8 0, .int .u8 0, .int .u8 0, .int .u8 0] 71)).alloc (by simp) (.cells #[.int .u8 92] 5)) (Nat.le_refl _))
  have HR0 := Lib.hid ((Row.newArr w 71 #[.int .u8 0, .int .u8 0, .int .u8 0, .int .u8 0]).alloc (.cells #[.int .u8 92] 5))
  have HC92 := Lib.hid (show ((w.alloc (.cells #[.int .u8 0, .int .u8 0, .int .u8 0, .int .u8 0] 71)).alloc (.cells #[.int .u8 92] 5)).cell? ⟨w.heap.size + 1, 0, none⟩ = some (.int .u8 92) by simp)
  have c15 := h.row.at_ h.at_
  clear h hb
  have t48 : decide (48 ≤ c) = true := by simp; omega
  have t57 : decide (c ≤ 57) = false := by simp; omega
  have t97 : decide (97 ≤ c) = true := by simp; omega
  have t102 : decide (c ≤ 102) = false := by simp; omega
  have t65 : decide (65 ≤ c) = true := by simp; omega
  have t70 : decide (c ≤ 70) = false := by simp; omega
  go_enter Tryf.func17, Tryf.ntmps17
  go_wp2_with (first | (at_builtin; refine wpList_append_buf _ rfl (.tmp 63) (.tmp 64) 22 rfl 5 i0 Tryf.underlying22 hi hz0 hz1 hz2 (.slice A0 zs.length cc0) zs rfl HX.out.buf ⟨w.heap.size + 1, 0, none⟩ 1 1 [92] rfl rfl (fun j hj => by obtain rfl : j = 0 := (by omega); exact HC92.out) (by have := HL.out; omega) ?_; intro A2 n2 cc2 w2 hbuf hgr hat; obtain ⟨k1, k2, k3, k4⟩ := HX.out.store (by decide) hbuf (.of_grown hgr hat) hgr; have K1 := Lib.hid k1; have K2 := Lib.hid k2; have HG := Lib.hid hgr; have HAT := Lib.hid hat; clear k1 k2 hbuf hgr hat) | (go_at_call 20; refine (enc20 w.heap.size c _ h0 h1 ((HR0.out.grown HG.out (fun e => by have := HV.out _ e.symm; omega)).far (p := ⟨p, 15, none⟩) (show w.heap.size ≠ p by omega) _)).mono ?_; rintro e w4 ⟨rfl, henc⟩; have HE := Lib.hid henc; clear henc))
  have hown : Value.ownBlock (.slice A2 n2 cc2) ≠ some w.heap.size := by
    intro e
    rcases HAT.out with h | h
    · rw [h] at e; have := HV.out _ e; omega
    · rw [h] at e; injection e with e; simp at e; omega
  have HP4 := Lib.hid (K1.out.other HE.out.grown (by omega) hown)
  have HR4 := Lib.hid HE.out.row
  have HST := Lib.hid (Step.more (HS0.out.trans K2.out) HE.out.grown (Nat.le_refl _) : Step p w (.slice A0 zs.length cc0) w4 (.slice A2 n2 cc2))
  clear hown
  obtain ⟨v5, w5, hrun, hbuf5, hgr5, hat5⟩ := run_append_ints_at (P := Tryf.prog) w4.drew 22 22 5 i0 Tryf.underlying22 hi hz0 hz1 hz2 (.slice A2 n2 cc2) (zs ++ [92]) HP4.out.drew.buf ⟨w.heap.size, 0, none⟩ 1 4 [c] rfl (fun j hj => by obtain rfl : j = 0 := (by omega); exact HR4.out.at_ (i := 0) rfl) (by have := HL.out; simp; omega)
  obtain ⟨k1, k2, k3, k4⟩ := (HP4.out.drew).store (by decide) hbuf5 (.of_grown hgr5 hat5) hgr5
  obtain ⟨A5, cc5, hv5⟩ := hbuf5.form
  generalize (zs ++ [92] ++ [c]).length = n5 at hv5
  subst hv5
  have HRUN := Lib.hid hrun
  have K5 := Lib.hid k1
  have K6 := Lib.hid k2
  have d15 := HP4.out.row.at_ HP4.out.at_
  clear hrun hbuf5 hgr5 hat5 k1 k2
  go_wp2_with fail
  go_region_law (first | (refine step_append_run rfl _ _ 22 22 rfl _ _ _ w5 rfl rfl HRUN.out ?_))
  all_goals
    go_wp2_with fail
    go_end0
    exact ⟨rfl, _, by have h9 := K5.out; rw [set_cs] at h9; exact h9, HST.out.trans (((Step.refl p w4 (.slice A2 n2 cc2)).drew).trans K6.out)⟩

theorem esc17_bs (p : Nat) (cs : List Value) (v : Value) (zs : List Int) (c : Int) (r : ByteArray) (f : Bool) (w : World) (h : Pr w p 57 15 5 cs v zs) (h0 : 0 ≤ c) (h1 : c < 128) (hb : zs.length ≤ 100000000) (hx : NoHex c) :
    Calls Tryf.prog 17 #[.pointer (some ⟨p, 0, none⟩), .int .i32 c, .int .u8 1, .string r, .bool f] w fun e w' => e = .returned (.tuple #[]) ∧ Printed w p 57 15 5 cs v (zs ++ [92] ++ [c]) w' := by
  unfold NoHex at hx
  by_cases a : c ≤ 47
  · exact esc17_bs0 p cs v zs c r f w h h0 h1 hb h0 a
  by_cases b : c ≤ 64
  · exact esc17_bs1 p cs v zs c r f w h h0 h1 hb (by omega) b
  by_cases d : c ≤ 96
  · exact esc17_bs2 p cs v zs c r f w h h0 h1 hb (by omega) d
  · exact esc17_bs3 p cs v zs c r f w h h0 h1 hb (by omega) (by omega)

theorem has15 (w : World) : Calls Tryf.prog 15 #[.int .u16 0, .int .u16 64] w fun e w' => e = .returned (.bool false) ∧ w = w' := by
  go_enter Tryf.func15, Tryf.ntmps15
  go_wp2
  go_ret
  exact ⟨rfl, rfl⟩
theorem by_int (s : ByteArray) (k : Nat) (h : k < s.size) : ∃ b : UInt8, s[k] = b ∧ (b.toNat : Int) = (Dec.by_ s k : Int) := ⟨_, rfl, by rw [Dec.by_at s k h]⟩
def Good (s : ByteArray) (j : Nat) : Prop := Dec.by_ s j ≠ 0 ∧ Dec.by_ s j ≠ 13 ∧ Dec.by_ s j ≠ 10 ∧ Dec.by_ s j ≠ 12 ∧ (j + 2 < s.size → ¬ (Dec.by_ s j = 239 ∧ Dec.by_ s (j + 1) = 187 ∧ Dec.by_ s (j + 2) = 191))
def Rch (s : ByteArray) (w : World) (e : Ending) (w' : World) : Prop := ∃ b, e = .returned (.bool b) ∧ (b = false → Plain s) ∧ w = w'

set_option maxHeartbeats 2000000 in
theorem reach5 (s : ByteArray) (w : World) (hs : s.size ≤ 1048576) : Calls Tryf.prog 5 #[.string s] w (Rch s w) := by
  go_enter Tryf.func5, Tryf.ntmps5
  go_wp2
  go_loop [3] (fun i => ∃ k : Nat, k ≤ s.size ∧ i = .int .i64 k ∧ Hid (∀ j, j < k → Good s j)) (fun i => s.size - (intOf i).toNat)
  case atStart => exact ⟨0, Nat.zero_le _, rfl, Lib.hid (fun j hj => by omega)⟩
  case round =>
    obtain ⟨k, hk, rfl, HG⟩ := hrel
    by_cases hlt : k < s.size
    · obtain ⟨b, hb, hbm⟩ := by_int s k hlt
      obtain ⟨m, hbe⟩ : ∃ m, Dec.by_ s k = m := ⟨_, rfl⟩
      rw [hbe] at hbm
      by_cases c0 : m = 0
      case pos =>
        subst c0
        go_wp2
        go_ret
        exact ⟨true, rfl, fun h => (by cases h), rfl⟩
      by_cases c13 : m = 13
      case pos =>
        have t0 : ((m : Int) == 0) = false := by simp; omega
        subst c13
        go_wp2
        go_ret
        exact ⟨true, rfl, fun h => (by cases h), rfl⟩
      by_cases c10 : m = 10
      case pos =>
        have t0 : ((m : Int) == 0) = false := by simp; omega
        have t13 : ((m : Int) == 13) = false := by simp; omega
        subst c10
        go_wp2
        go_ret
        exact ⟨true, rfl, fun h => (by cases h), rfl⟩
      by_cases c12 : m = 12
      case pos =>
        have t0 : ((m : Int) == 0) = false := by simp; omega
        have t13 : ((m : Int) == 13) = false := by simp; omega
        have t10 : ((m : Int) == 10) = false := by simp; omega
        subst c12
        go_wp2
        go_ret
        exact ⟨true, rfl, fun h => (by cases h), rfl⟩
      have t0 : ((m : Int) == 0) = false := by simp; omega
      have t13 : ((m : Int) == 13) = false := by simp; omega
      have t10 : ((m : Int) == 10) = false := by simp; omega
      have t12 : ((m : Int) == 12) = false := by simp; omega
      by_cases d0 : m = 239
      case neg =>
        have u0 : ((m : Int) == 239) = false := by simp; omega
        have HG2 := Lib.hid (show ∀ j, j < k + 1 → Good s j from fun j hj => by
          rcases Nat.lt_or_ge j k with h | h
          · exact HG.out j h
          · obtain rfl : j = k := by omega
            unfold Good
            rw [hbe]; exact ⟨c0, c13, c10, c12, fun _ h => d0 h.1⟩)
        clear hbe
        go_wp2
        go_round
        case rel => exact ⟨k + 1, by omega, by go_num, HG2⟩
        case measure => simp [intOf]; omega
      subst d0
      by_cases d1 : k + 2 < s.size
      case neg =>
        have u1 : decide ((k : Int) + 2 < (s.size : Int)) = false := by simp; omega
        have HG2 := Lib.hid (show ∀ j, j < k + 1 → Good s j from fun j hj => by
          rcases Nat.lt_or_ge j k with h | h
          · exact HG.out j h
          · obtain rfl : j = k := by omega
            unfold Good
            rw [hbe]; exact ⟨by omega, by omega, by omega, by omega, fun h => absurd h d1⟩)
        clear hbe
        go_wp2
        go_round
        case rel => exact ⟨k + 1, by omega, by go_num, HG2⟩
        case measure => simp [intOf]; omega
      have u1 : decide ((k : Int) + 2 < (s.size : Int)) = true := by simp; omega
      obtain ⟨b1, hb1, hbm1⟩ := by_int s (k + 1) (by omega)
      obtain ⟨m1, hbe1⟩ : ∃ m, Dec.by_ s (k + 1) = m := ⟨_, rfl⟩
      rw [hbe1] at hbm1
      have hk1 : k + 1 < s.size := by omega
      by_cases d2 : m1 = 187
      case neg =>
        have u2 : ((m1 : Int) == 187) = false := by simp; omega
        have HG2 := Lib.hid (show ∀ j, j < k + 1 → Good s j from fun j hj => by
          rcases Nat.lt_or_ge j k with h | h
          · exact HG.out j h
          · obtain rfl : j = k := by omega
            unfold Good
            rw [hbe, hbe1]; exact ⟨by omega, by omega, by omega, by omega, fun _ h => d2 h.2.1⟩)
        clear hbe hbe1
        go_wp2
        go_round
        case rel => exact ⟨k + 1, by omega, by go_num, HG2⟩
        case measure => simp [intOf]; omega
      subst d2
      obtain ⟨b2, hb2, hbm2⟩ := by_int s (k + 2) d1
      obtain ⟨m2, hbe2⟩ : ∃ m, Dec.by_ s (k + 2) = m := ⟨_, rfl⟩
      rw [hbe2] at hbm2
      by_cases d3 : m2 = 191
      case neg =>
        have u3 : ((m2 : Int) == 191) = false := by simp; omega
        have HG2 := Lib.hid (show ∀ j, j < k + 1 → Good s j from fun j hj => by
          rcases Nat.lt_or_ge j k with h | h
          · exact HG.out j h
          · obtain rfl : j = k := by omega
            unfold Good
            rw [hbe, hbe1, hbe2]; exact ⟨by omega, by omega, by omega, by omega, fun _ h => d3 h.2.2⟩)
        clear hbe hbe1 hbe2
        go_wp2
        go_round
        case rel => exact ⟨k + 1, by omega, by go_num, HG2⟩
        case measure => simp [intOf]; omega
      subst d3
      go_wp2
      go_ret
      exact ⟨true, rfl, fun h => (by cases h), rfl⟩
    · obtain rfl : k = s.size := by omega
      have HP := Lib.hid (show Plain s from ⟨fun i hi => by have := HG.out i hi; unfold Good at this; exact ⟨this.1, this.2.1, this.2.2.1, this.2.2.2.1⟩, fun i hi => (HG.out i (by omega)).2.2.2.2 hi⟩)
      go_wp2
      go_ret
      exact ⟨false, rfl, fun _ => HP.out, rfl⟩
end Go.Proofs.YtmgkjkfhhdkkmaaFmt.PqA
