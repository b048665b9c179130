/- FnBestQuoteSwapSymmetry: the law. -/
import Derived.Test.YtjgomgagaolhgaaRows
import Derived.Test.YtjgomgagaolhgaaMem
import Derived.Test.YtjgomgagaolhgaaSl
import Derived.Test.YtjgomgagaolhgaaUtf
import Derived.Test.YtjgomgagaolhgaaPrn
import Derived.Test.YtjgomgagaolhgaaStr
import Derived.Lib.OthersKept
import Derived.Laws.BytesString
import Derived.WalkKit
import Derived.ProofKit
import Derived.OpenShut
import Derived.Below
import Derived.WalkLawsBesides
import Derived.Lib.Hide
import Derived.Outline
import Derived.RegionTactic
import Derived.Deep.QuietTactic
import Derived.BigQuiet
import Derived.WalkSpells
import Derived.Deep.OwnRows
import Derived.IntWalk
import Derived.Deep.DeepMust
namespace Go.Proofs.Ytjgomgagaolhgaa.Quote
open Go.RowKit Mem Sl
set_option linter.unusedVariables false
open Prn Utf Str
def fU (n : Nat) : Bool := n == 39 || n == 34 || n == 40 || n == 41 || n == 32 || n == 9 || n == 92 || n == 10 || n == 13 || n == 12
def fS (n : Nat) : Bool := n == 39 || n == 92 || n == 10 || n == 13 || n == 12
def fD (n : Nat) : Bool := n == 34 || n == 92 || n == 10 || n == 13 || n == 12

theorem step_cnt (f : Nat → Bool) (hf : ∀ n, 128 ≤ n → f n = false) (s : ByteArray) (pos : Nat) (h : pos < s.size) :
    cnt f s (pos + (Utf8.decode s pos).2) = cnt f s pos + if f (Utf8.decode s pos).1 then 1 else 0 := by
  by_cases ha : (s[pos]'h).toNat < 128
  · rw [decode_ascii s pos h ha]
    simp only [cnt, get_at' s pos h]
  · obtain ⟨h1, h2, h3⟩ := dec_span s pos h (by omega)
    rw [cnt_skip f s pos _ (fun j hj => hf _ (h3 j hj)), hf _ (decode_high s pos h (by omega)).1]
    simp
theorem fU_hi : ∀ n, 128 ≤ n → fU n = false := by intro n h; simp [fU]; omega
theorem fS_hi : ∀ n, 128 ≤ n → fS n = false := by intro n h; simp [fS]; omega
theorem fD_hi : ∀ n, 128 ≤ n → fD n = false := by intro n h; simp [fD]; omega
theorem dec_pos (s : ByteArray) (pos : Nat) (h : pos < s.size) : 1 ≤ (Utf8.decode s pos).2 ∧ pos + (Utf8.decode s pos).2 ≤ s.size := by
  by_cases ha : (s[pos]'h).toNat < 128
  · rw [decode_ascii s pos h ha]; exact ⟨Nat.le_refl _, h⟩
  · obtain ⟨h1, h2, _⟩ := dec_span s pos h (by omega)
    exact ⟨h1, h2⟩
/-- The quote that is chosen. -/
def bq (s : ByteArray) (f : Bool) : Int :=
  if (f && decide (cnt fU s s.size < 2 + cnt fS s s.size) && decide (cnt fU s s.size < 2 + cnt fD s s.size)) = true then 0 else if 2 + cnt fS s s.size < 2 + cnt fD s s.size then 39 else 34
theorem bq_eq (s : ByteArray) (f : Bool) : bq s f = if (f && decide (cnt fU s s.size < 2 + cnt fS s s.size) && decide (cnt fU s s.size < 2 + cnt fD s s.size)) = true then 0 else if 2 + cnt fS s s.size < 2 + cnt fD s s.size then 39 else 34 := rfl
def Rel (s : ByteArray) (w : World) (u a b : Value) (wr : World) : Prop :=
  ∃ pos : Nat, pos ≤ s.size ∧ wr = w.iter s pos ∧ u = .int .i64 (cnt fU s pos : Nat) ∧ a = .int .i64 (2 + (cnt fS s pos : Nat) : Int) ∧ b = .int .i64 (2 + (cnt fD s pos : Nat) : Int)
set_option maxRecDepth 100000 in
set_option maxHeartbeats 4000000 in
theorem best (s : ByteArray) (f : Bool) (w : World) (hs : s.size ≤ 1048576) :
    Calls Try.prog 47 #[.string s, .bool f] w fun e w' => e = .returned (.int .u8 (bq s f)) ∧ Below w.heap.size w w' := by
  go_enter Try.func47, Try.ntmps47
  go_wp2
  go_loopw [5, 6, 7] (fun u a b wr => Rel s w u a b wr) (fun _ _ _ wr => s.size - wr.iterPos w.heap.size)
  case atStart => exact ⟨0, Nat.zero_le _, rfl, rfl, rfl, rfl⟩
  case round =>
    obtain ⟨pos, hp, rfl, rfl, rfl, rfl⟩ := hrel
    have l1 := cnt_le fU s pos
    have l2 := cnt_le fS s pos
    have l3 := cnt_le fD s pos
    by_cases hlt : pos < s.size
    · have hnx : ∀ ty, (Instr.next (.pointer (some ⟨w.heap.size, 0, none⟩)) true ty).run Try.prog (w.iter s pos) = _ := fun ty => run_next_any w s pos ty hlt
      have s1 := step_cnt fU fU_hi s pos hlt
      have s2 := step_cnt fS fS_hi s pos hlt
      have s3 := step_cnt fD fD_hi s pos hlt
      obtain ⟨d1, d2⟩ := dec_pos s pos hlt
      have hnext : ∃ pos' : Nat, pos' = pos + (Utf8.decode s pos).2 := ⟨_, rfl⟩
      obtain ⟨pos', hpos'⟩ := hnext
      rw [← hpos'] at hnx s1 s2 s3 d2
      have hr : ∃ r : Nat, r = (Utf8.decode s pos).1 := ⟨_, rfl⟩
      obtain ⟨r, hr⟩ := hr
      rw [← hr] at hnx s1 s2 s3
      have hlt' : pos < pos' := by omega
      have S1 := Lib.hid s1
      have S2 := Lib.hid s2
      have S3 := Lib.hid s3
      clear hpos' hr s1 s2 s3 d1
      by_cases h39 : r = 39
      · subst h39
        go_wp2
        go_roundw
        case rel => exact ⟨pos', d2, rfl, by rw [S1.out]; first | rfl | go_num, by rw [S2.out]; first | rfl | go_num, by rw [S3.out]; first | rfl | go_num⟩
        case measure => simp; omega
      by_cases h34 : r = 34
      · subst h34
        go_wp2
        go_roundw
        case rel => exact ⟨pos', d2, rfl, by rw [S1.out]; first | rfl | go_num, by rw [S2.out]; first | rfl | go_num, by rw [S3.out]; first | rfl | go_num⟩
        case measure => simp; omega
      by_cases h40 : r = 40
      · subst h40
        go_wp2
        go_roundw
        case rel => exact ⟨pos', d2, rfl, by rw [S1.out]; first | rfl | go_num, by rw [S2.out]; first | rfl | go_num, by rw [S3.out]; first | rfl | go_num⟩
        case measure => simp; omega
      by_cases h41 : r = 41
      · subst h41
        go_wp2
        go_roundw
        case rel => exact ⟨pos', d2, rfl, by rw [S1.out]; first | rfl | go_num, by rw [S2.out]; first | rfl | go_num, by rw [S3.out]; first | rfl | go_num⟩
        case measure => simp; omega
      by_cases h32 : r = 32
      · subst h32
        go_wp2
        go_roundw
        case rel => exact ⟨pos', d2, rfl, by rw [S1.out]; first | rfl | go_num, by rw [S2.out]; first | rfl | go_num, by rw [S3.out]; first | rfl | go_num⟩
        case measure => simp; omega
      by_cases h9 : r = 9
      · subst h9
        go_wp2
        go_roundw
        case rel => exact ⟨pos', d2, rfl, by rw [S1.out]; first | rfl | go_num, by rw [S2.out]; first | rfl | go_num, by rw [S3.out]; first | rfl | go_num⟩
        case measure => simp; omega
      by_cases h92 : r = 92
      · subst h92
        go_wp2
        go_roundw
        case rel => exact ⟨pos', d2, rfl, by rw [S1.out]; first | rfl | go_num, by rw [S2.out]; first | rfl | go_num, by rw [S3.out]; first | rfl | go_num⟩
        case measure => simp; omega
      by_cases h10 : r = 10
      · subst h10
        go_wp2
        go_roundw
        case rel => exact ⟨pos', d2, rfl, by rw [S1.out]; first | rfl | go_num, by rw [S2.out]; first | rfl | go_num, by rw [S3.out]; first | rfl | go_num⟩
        case measure => simp; omega
      by_cases h13 : r = 13
      · subst h13
        go_wp2
        go_roundw
        case rel => exact ⟨pos', d2, rfl, by rw [S1.out]; first | rfl | go_num, by rw [S2.out]; first | rfl | go_num, by rw [S3.out]; first | rfl | go_num⟩
        case measure => simp; omega
      by_cases h12 : r = 12
      · subst h12
        go_wp2
        go_roundw
        case rel => exact ⟨pos', d2, rfl, by rw [S1.out]; first | rfl | go_num, by rw [S2.out]; first | rfl | go_num, by rw [S3.out]; first | rfl | go_num⟩
        case measure => simp; omega
      have q39 : ((r : Int) == 39) = false := by simp; omega
      have q34 : ((r : Int) == 34) = false := by simp; omega
      have q40 : ((r : Int) == 40) = false := by simp; omega
      have q41 : ((r : Int) == 41) = false := by simp; omega
      have q32 : ((r : Int) == 32) = false := by simp; omega
      have q9 : ((r : Int) == 9) = false := by simp; omega
      have q92 : ((r : Int) == 92) = false := by simp; omega
      have q10 : ((r : Int) == 10) = false := by simp; omega
      have q13 : ((r : Int) == 13) = false := by simp; omega
      have q12 : ((r : Int) == 12) = false := by simp; omega
      rw [show fU r = false by simp [fU]; omega] at S1
      rw [show fS r = false by simp [fS]; omega] at S2
      rw [show fD r = false by simp [fD]; omega] at S3
      clear h39 h34 h40 h41 h32 h9 h92 h10 h13 h12
      go_wp2
      go_roundw
      case rel => exact ⟨pos', d2, rfl, by rw [S1.out]; first | rfl | go_num, by rw [S2.out]; first | rfl | go_num, by rw [S3.out]; first | rfl | go_num⟩
      case measure => simp; omega
    · have hnx : ∀ ty, (Instr.next (.pointer (some ⟨w.heap.size, 0, none⟩)) true ty).run Try.prog (w.iter s pos) = _ := fun ty => run_next_end w s pos ty hlt
      obtain rfl : pos = s.size := by omega
      have HB : Below w.heap.size w (w.iter s s.size) := (Below.refl _ _).alloc (Nat.le_refl _) _
      have HBH := Lib.hid HB
      have HQ := Lib.hid (bq_eq s f)
      clear HB hlt hp
      generalize cnt fU s s.size = u at *
      generalize cnt fS s s.size = a at *
      generalize cnt fD s s.size = b at *
      cases f
      · by_cases hab : a < b
        · have e3 : decide ((2 : Int) + (a : Int) < 2 + (b : Int)) = true := by simp; omega
          have HR := Lib.hid (show bq s false = 39 by rw [HQ.out]; simp [hab])
          go_wp2
          go_ret
          exact ⟨ret_int HR.out.symm, HBH.out⟩
        · have e3 : decide ((2 : Int) + (a : Int) < 2 + (b : Int)) = false := by simp; omega
          have HR := Lib.hid (show bq s false = 34 by rw [HQ.out]; simp [hab])
          go_wp2
          go_ret
          exact ⟨ret_int HR.out.symm, HBH.out⟩
      · by_cases h1 : u < 2 + a
        · have e1 : decide ((u : Int) < 2 + (a : Int)) = true := by simp; omega
          by_cases h2 : u < 2 + b
          · have e2 : decide ((u : Int) < 2 + (b : Int)) = true := by simp; omega
            have HR := Lib.hid (show bq s true = 0 by rw [HQ.out]; simp [h1, h2])
            go_wp2
            go_ret
            exact ⟨ret_int HR.out.symm, HBH.out⟩
          · have e2 : decide ((u : Int) < 2 + (b : Int)) = false := by simp; omega
            by_cases hab : a < b
            · have e3 : decide ((2 : Int) + (a : Int) < 2 + (b : Int)) = true := by simp; omega
              have HR := Lib.hid (show bq s true = 39 by rw [HQ.out]; simp [h1, h2, hab])
              go_wp2
              go_ret
              exact ⟨ret_int HR.out.symm, HBH.out⟩
            · have e3 : decide ((2 : Int) + (a : Int) < 2 + (b : Int)) = false := by simp; omega
              have HR := Lib.hid (show bq s true = 34 by rw [HQ.out]; simp [h1, h2, hab])
              go_wp2
              go_ret
              exact ⟨ret_int HR.out.symm, HBH.out⟩
        · have e1 : decide ((u : Int) < 2 + (a : Int)) = false := by simp; omega
          by_cases hab : a < b
          · have e3 : decide ((2 : Int) + (a : Int) < 2 + (b : Int)) = true := by simp; omega
            have HR := Lib.hid (show bq s true = 39 by rw [HQ.out]; simp [h1, hab])
            go_wp2
            go_ret
            exact ⟨ret_int HR.out.symm, HBH.out⟩
          · have e3 : decide ((2 : Int) + (a : Int) < 2 + (b : Int)) = false := by simp; omega
            have HR := Lib.hid (show bq s true = 34 by rw [HQ.out]; simp [h1, hab])
            go_wp2
            go_ret
            exact ⟨ret_int HR.out.symm, HBH.out⟩

theorem best39 (s : ByteArray) (f : Bool) (w : World) (hs : s.size ≤ 1048576) :
    Calls Try.prog 39 #[.string s, .bool f] w fun e w' => e = .returned (.int .u8 (bq s f)) ∧ Below w.heap.size w w' := by
  have H := Lib.hid (best s f w hs)
  go_enter Try.func39, Try.ntmps39
  go_wp2_with fail
  refine H.out.mono ?_
  rintro e w1 ⟨rfl, hb⟩
  go_wp2_with fail
  go_ret
  exact ⟨rfl, hb⟩
def sw (z : Int) : Int := if z = 39 then 34 else if z = 34 then 39 else z
theorem info5 : (Try.prog.info? 5).map (fun i => (i.zero, i.size, i.bytes)) = some (some (.int .u8 0), 1, 1) := by kernel_rfl
theorem nums_at (s : ByteArray) (k : Nat) (h : k < s.size) : (nums s)[k]? = some ((s[k]).toNat : Int) := by
  unfold nums
  rw [List.getElem?_map]
  have : s.data.toList[k]? = some s[k] := by
    rw [List.getElem?_eq_getElem (by simpa using h)]
    simp [ByteArray.getElem_eq_getElem_data]
  rw [this]; rfl
theorem sw_wf {z : Int} (h : (Lit.int .u8 z).wf = true) : (Lit.int .u8 (sw z)).wf = true := by
  unfold sw
  split
  · decide
  · split
    · decide
    · exact h
set_option maxHeartbeats 1000000 in
theorem swap (s : ByteArray) (w : World) (hs : s.size ≤ 1048576) :
    Calls Try.prog 38 #[.string s] w fun e w' => e = .returned (.string (bytesOf ((nums s).map sw))) ∧ Below w.heap.size w w' := by
  have hmk := fun W => run_make_row' (P := Try.prog) 22 5 (.int .u8 0) 1 Try.underlying22 info5 rfl .i64 .i64 s.size (by omega) (by omega) W
  obtain ⟨xs, hxs⟩ : ∃ xs, xs = (nums s).map sw := ⟨_, rfl⟩
  have hlen : xs.length = s.size := by rw [hxs, List.length_map, nums_length]
  have HX := Lib.hid hxs
  have HL := Lib.hid hlen
  rw [← hxs]
  clear hxs hlen
  go_enter Try.func38, Try.ntmps38
  go_wp2
  go_loopw [4] (fun i wr => ∃ k : Nat, k ≤ s.size ∧ i = .int .i64 k ∧ Row wr w.heap.size 5 (filled (iv .u8 xs) (.int .u8 0) k) ∧ Below w.heap.size w wr) (fun i _ => s.size - (intOf i).toNat)
  case atStart =>
    refine ⟨0, Nat.zero_le _, rfl, ?_, (Below.refl _ _).alloc (Nat.le_refl _) _⟩
    rw [filled_zero, iv_length, HL.out]
    exact made_row w 5 (.int .u8 0) s.size
  case round =>
    obtain ⟨k, hk, rfl, hrow, hbel⟩ := hrel
    by_cases hlt : k < s.size
    · have hl : k < (iv .u8 xs).length := by rw [iv_length, HL.out]; exact hlt
      have c2 := hrow.at_ (filled_at (iv .u8 xs) (.int .u8 0) k hl)
      have c3 := hrow.frozen k
      have hx : (iv .u8 xs)[k]? = some (.int .u8 (sw ((s[k]).toNat : Int))) := by
        rw [HX.out]; unfold iv
        rw [List.getElem?_map, List.getElem?_map, nums_at s k hlt]; rfl
      have hset := hrow.set k (.int .u8 (sw ((s[k]).toNat : Int)))
      rw [filled_set _ _ k hl _ hx] at hset
      have HSET := Lib.hid hset
      have HB := Lib.hid hbel
      clear hset hrow hbel hx
      by_cases h39 : (((s[k]).toNat : Int) == 39) = true
      · rw [show sw ((s[k]).toNat : Int) = 34 by simp at h39; simp [sw]; omega] at HSET
        go_wp2
        go_roundw
        case rel => exact ⟨k + 1, by omega, by go_num, HSET.out, HB.out.setCell (Nat.le_refl _) _⟩
        case measure => simp [intOf]; omega
      · have h39' : (((s[k]).toNat : Int) == 39) = false := by simpa using h39
        by_cases h34 : (((s[k]).toNat : Int) == 34) = true
        · rw [show sw ((s[k]).toNat : Int) = 39 by simp at h34; simp [sw]; omega] at HSET
          clear h39
          go_wp2
          go_roundw
          case rel => exact ⟨k + 1, by omega, by go_num, HSET.out, HB.out.setCell (Nat.le_refl _) _⟩
          case measure => simp [intOf]; omega
        · have h34' : (((s[k]).toNat : Int) == 34) = false := by simpa using h34
          rw [show sw ((s[k]).toNat : Int) = ((s[k]).toNat : Int) by simp at h34' h39'; simp [sw]; omega] at HSET
          clear h39 h34
          go_wp2
          go_roundw
          case rel => exact ⟨k + 1, by omega, by go_num, HSET.out, HB.out.setCell (Nat.le_refl _) _⟩
          case measure => simp [intOf]; omega
    · obtain rfl : k = s.size := by omega
      have h1 := hrow
      rw [← HL.out, ← iv_length .u8 xs, filled_all] at h1
      have hi := ints_of_row h1 (by rw [HL.out]; unfold maxLen; omega) (by rw [HX.out]; intro z hz; obtain ⟨y, hy, rfl⟩ := List.mem_map.1 hz; exact sw_wf (nums_wf s y hy))
      rw [HL.out] at hi
      have hcv := run_string (P := Try.prog) (T := 22) (STR := 9) (E := 5) Try.underlying22 Try.underlying5 Try.underlying9 hi
      have HB := Lib.hid hbel
      clear h1 hi hrow hbel hlt hk
      go_wp2
      go_ret
      exact ⟨rfl, HB.out⟩

theorem get_swap (s : ByteArray) (i : Nat) (h : i < s.size) : (((bytesOf ((nums s).map sw)).get! i).toNat : Int) = sw ((s.get! i).toNat : Int) := by
  have hsz : i < (bytesOf ((nums s).map sw)).size := by rw [bytesOf_size, List.length_map, nums_length]; exact h
  have h1 := nums_at _ i hsz
  rw [nums_bytesOf _ (by intro z hz; obtain ⟨y, hy, rfl⟩ := List.mem_map.1 hz; exact sw_wf (nums_wf s y hy)), List.getElem?_map, nums_at s i h] at h1
  rw [get_at' _ i hsz, get_at' s i h]
  simpa using h1.symm
theorem swU (n m : Nat) (h : (m : Int) = sw (n : Int)) : fU m = fU n ∧ fS m = fD n ∧ fD m = fS n := by
  unfold sw at h
  split at h
  · obtain rfl : n = 39 := by omega
    obtain rfl : m = 34 := by omega
    decide
  · split at h
    · obtain rfl : n = 34 := by omega
      obtain rfl : m = 39 := by omega
      decide
    · obtain rfl : m = n := by omega
      have a1 : (m == 39) = false := by simp; omega
      have a2 : (m == 34) = false := by simp; omega
      simp [fU, fS, fD, a1, a2]
theorem pairs (s : ByteArray) (f : Bool) :
    (bq s f = 0 ∧ bq (bytesOf ((nums s).map sw)) f = 0) ∨ (bq s f = 39 ∧ bq (bytesOf ((nums s).map sw)) f = 34) ∨ (bq s f = 34 ∧ bq (bytesOf ((nums s).map sw)) f = 39) ∨ (bq s f = 34 ∧ bq (bytesOf ((nums s).map sw)) f = 34) := by
  have hsz : (bytesOf ((nums s).map sw)).size = s.size := by rw [bytesOf_size, List.length_map, nums_length]
  have k1 := cnt_congr_lt fU fU (bytesOf ((nums s).map sw)) s s.size (fun i hi => (swU _ _ (get_swap s i hi)).1)
  have k2 := cnt_congr_lt fS fD (bytesOf ((nums s).map sw)) s s.size (fun i hi => (swU _ _ (get_swap s i hi)).2.1)
  have k3 := cnt_congr_lt fD fS (bytesOf ((nums s).map sw)) s s.size (fun i hi => (swU _ _ (get_swap s i hi)).2.2)
  rw [bq_eq, bq_eq, hsz, k1, k2, k3]
  generalize cnt fU s s.size = u
  generalize cnt fS s s.size = a
  generalize cnt fD s s.size = b
  cases f
  · simp only [Bool.false_and, Bool.false_eq_true, if_false]
    rcases Nat.lt_trichotomy a b with h | h | h
    · exact .inr (.inl ⟨if_pos (by omega), if_neg (by omega)⟩)
    · exact .inr (.inr (.inr ⟨if_neg (by omega), if_neg (by omega)⟩))
    · exact .inr (.inr (.inl ⟨if_neg (by omega), if_pos (by omega)⟩))
  · by_cases h1 : u < 2 + a
    · by_cases h2 : u < 2 + b
      · exact .inl ⟨by simp [h1, h2], by simp [h1, h2]⟩
      · rcases Nat.lt_trichotomy a b with h | h | h
        · exact .inr (.inl ⟨by simp [h1, h2]; omega, by simp [h2]; omega⟩)
        · exact .inr (.inr (.inr ⟨by simp [h1, h2]; omega, by simp [h2]; omega⟩))
        · exact .inr (.inr (.inl ⟨by simp [h1, h2]; omega, by simp [h2]; omega⟩))
    · rcases Nat.lt_trichotomy a b with h | h | h
      · exact .inr (.inl ⟨by simp [h1]; omega, by simp [h1]; omega⟩)
      · exact .inr (.inr (.inr ⟨by simp [h1]; omega, by simp [h1]; omega⟩))
      · exact .inr (.inr (.inl ⟨by simp [h1]; omega, by simp [h1]; omega⟩))
theorem zzBytes (s : ByteArray) (f : Bool) (w : World) (hs : s.size ≤ maxLen) :
    Calls Try.prog 37 #[.string s, .bool f] w fun e w' => e = .returned (.bool (decide (s.size ≤ 1048576))) ∧ w = w' := by
  unfold maxLen at hs
  by_cases h : s.size ≤ 1048576
  · go_enter Try.func37, Try.ntmps37
    go_wp2
    go_ret
    exact ⟨ret_bool (by simp [h]), rfl⟩
  · go_enter Try.func37, Try.ntmps37
    go_wp2
    go_ret
    exact ⟨ret_bool (by simp [h]), rfl⟩
set_option maxHeartbeats 2000000 in
theorem law (a0 : ByteArray) (a1 : Bool) (w : World) (w0 : a0.size ≤ maxLen) :
    Calls Try.prog 8 #[.string a0, .bool a1] w fun e w' => e = .returned (.bool true) ∧ Below w.heap.size w w' := by
  by_cases hs : a0.size ≤ 1048576
  · have hd : decide (a0.size ≤ 1048576) = true := by simp [hs]
    have hsz : (bytesOf ((nums a0).map sw)).size = a0.size := by rw [bytesOf_size, List.length_map, nums_length]
    have HP := pairs a0 a1
    have H1 := Lib.hid (fun W => best39 a0 a1 W hs)
    have H2 := Lib.hid (fun W => best39 (bytesOf ((nums a0).map sw)) a1 W (by omega))
    have H3 := Lib.hid (fun W => swap a0 W hs)
    generalize bytesOf ((nums a0).map sw) = t at *
    clear hsz
    rcases HP with ⟨e1, e2⟩ | ⟨e1, e2⟩ | ⟨e1, e2⟩ | ⟨e1, e2⟩
    all_goals
      rw [e1] at H1
      rw [e2] at H2
      clear e1 e2
      go_enter Try.func8, Try.ntmps8
      go_wp2_with (go_at_call 37; refine (zzBytes _ _ _ w0).mono ?_; rintro e w' ⟨rfl, rfl⟩)
      refine (H3.out _).mono ?_
      rintro e wa ⟨rfl, ha⟩
      have HA := Lib.hid ha
      clear ha
      go_wp2_with fail
      refine (H1.out _).mono ?_
      rintro e wb ⟨rfl, hb⟩
      have HB := Lib.hid (HA.out.trans (hb.mono HA.out.size))
      clear hb
      go_wp2_with fail
      refine (H2.out _).mono ?_
      rintro e wc ⟨rfl, hc⟩
      have HC := Lib.hid (HB.out.trans (hc.mono HB.out.size))
      clear hc
      go_wp2
      go_ret
      exact ⟨rfl, HC.out⟩
  · have hd : decide (a0.size ≤ 1048576) = false := by simp [hs]
    go_enter Try.func8, Try.ntmps8
    go_wp2_with (go_at_call 37; refine (zzBytes _ _ _ w0).mono ?_; rintro e w' ⟨rfl, rfl⟩)
    go_ret
    exact ⟨rfl, Below.refl _ _⟩
end Go.Proofs.Ytjgomgagaolhgaa.Quote
