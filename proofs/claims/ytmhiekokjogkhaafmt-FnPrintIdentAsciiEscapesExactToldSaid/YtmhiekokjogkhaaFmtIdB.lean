/- FnPrintIdentAsciiEscapesExact: the domain, the model, the lexer, the escape. -/
import Derived.Test.YtmhiekokjogkhaaFmtRows
import Derived.Test.YtmhiekokjogkhaaFmtMem
import Derived.Test.YtmhiekokjogkhaaFmtSl
import Derived.Test.YtmhiekokjogkhaaFmtIdA
import Derived.Test.YtmhiekokjogkhaaFmtShelf
import Derived.Test.YtmhiekokjogkhaaFmtOwn
import Derived.Great.BuildSlice
import Derived.Deep.RegionLaw
import Derived.WalkKit
import Derived.ProofKit
import Derived.OpenShut
import Derived.Below
import Derived.WalkLawsBesides
import Derived.Lib.Hide
import Derived.Outline
import Derived.RegionTactic
import Derived.Deep.QuietTactic
import Derived.BigQuiet
import Derived.WalkSpells
import Derived.Deep.OwnRows
import Derived.IntWalk
import Derived.Deep.DeepMust
namespace Go.Proofs.YtmhiekokjogkhaaFmt.IdB
open Go.RowKit Mem Sl
set_option linter.unusedVariables false
open Prn Pru Idn Str IdA Own

/-- The texts that the law speaks of. -/
def Dom (s : ByteArray) : Prop := (∀ k, k < s.size → 0 < (nums s).getD k 0 ∧ (nums s).getD k 0 < 128 ∧ (nums s).getD k 0 ≠ 10 ∧ (nums s).getD k 0 ≠ 12 ∧ (nums s).getD k 0 ≠ 13) ∧ (0 < s.size → digB ((nums s).getD 0 0) = false)
def Dm (s : ByteArray) (w : World) (e : Ending) (w' : World) : Prop := ∃ b, e = .returned (.bool b) ∧ (b = true → Dom s) ∧ w = w'
theorem byte_at (s : ByteArray) (k : Nat) (h : k < s.size) : ∃ b : UInt8, s[k] = b ∧ (nums s).getD k 0 = ((b.toNat : Nat) : Int) := ⟨_, rfl, nums_at s k h⟩
theorem tail0 (s : ByteArray) (k : Nat) (h : k < s.size) : (s.extract k s.size).data.toList[0]? = some s[k] := by
  have h1 : (s.extract k s.size).data.toList = (s.data.toList.drop k).take (s.size - k) := by simp
  rw [h1, List.getElem?_take, if_pos (by omega), List.getElem?_drop, List.getElem?_eq_getElem (by simpa using h)]
  rfl

set_option maxHeartbeats 1000000 in
theorem dom5 (s : ByteArray) (w : World) (hs : s.size ≤ 1048576) : Calls Tryf.prog 5 #[.string s] w (Dm s w) := by
  by_cases h0 : 0 < s.size
  · obtain ⟨b0, hb0, hnb0⟩ := byte_at s 0 h0
    have HD0 := Lib.hid (dig12 (b0.toNat : Int) w (by omega) (by have := b0.toNat_lt; omega))
    have HN0 := Lib.hid hnb0
    clear hnb0
    cases hd : digB (b0.toNat : Int)
    · rw [hd] at HD0
      have HF := Lib.hid hd
      clear hd
      go_enter Tryf.func5, Tryf.ntmps5
      go_wp2_with (first | (go_at_call 12; refine HD0.out.mono ?_; rintro e w' ⟨rfl, rfl⟩))
      go_loop [3] (fun i => ∃ k : Nat, k ≤ s.size ∧ i = .int .i64 k ∧ Hid (∀ j, j < k → 0 < (nums s).getD j 0 ∧ (nums s).getD j 0 < 128 ∧ (nums s).getD j 0 ≠ 10 ∧ (nums s).getD j 0 ≠ 12 ∧ (nums s).getD j 0 ≠ 13)) (fun i => s.size - (intOf i).toNat)
      case atStart => exact ⟨0, Nat.zero_le _, rfl, Lib.hid (fun j hj => by omega)⟩
      case round =>
        obtain ⟨k, hk, rfl, HG⟩ := hrel
        by_cases hlt : k < s.size
        · obtain ⟨b, hb, hnb⟩ := byte_at s k hlt
          have HN := Lib.hid hnb
          clear hnb
          by_cases hgood : 0 < b.toNat ∧ b.toNat < 128 ∧ b.toNat ≠ 10 ∧ b.toNat ≠ 12 ∧ b.toNat ≠ 13
          · have HG2 := Lib.hid (show ∀ j, j < k + 1 → 0 < (nums s).getD j 0 ∧ (nums s).getD j 0 < 128 ∧ (nums s).getD j 0 ≠ 10 ∧ (nums s).getD j 0 ≠ 12 ∧ (nums s).getD j 0 ≠ 13 from fun j hj => by
              rcases Nat.lt_or_ge j k with h | h
              · exact HG.out j h
              · obtain rfl : j = k := by omega
                rw [HN.out]; omega)
            have t0 : ((b.toNat : Int) == 0) = false := by simp; omega
            have t1 : decide (128 ≤ (b.toNat : Int)) = false := by simp; omega
            have t2 : ((b.toNat : Int) == 10) = false := by simp; omega
            have t3 : ((b.toNat : Int) == 12) = false := by simp; omega
            have t4 : ((b.toNat : Int) == 13) = false := by simp; omega
            clear hgood
            go_wp2
            go_round
            case rel => exact ⟨k + 1, by omega, by go_num, HG2⟩
            case measure => simp [intOf]; omega
          · have hbn : ∃ m : Int, (b.toNat : Int) = m ∧ 0 ≤ m ∧ ¬ (0 < m ∧ m < 128 ∧ m ≠ 10 ∧ m ≠ 12 ∧ m ≠ 13) := ⟨_, rfl, by omega, by omega⟩
            obtain ⟨m, hbm, hm0, hmb⟩ := hbn
            clear hgood HN
            by_cases c0 : m = 0
            case pos =>
              have tc0 : (m == 0) = true := by simp; omega
              clear hmb
              go_wp2
              go_ret
              exact ⟨false, rfl, fun h => (by cases h), rfl⟩
            by_cases c1 : 128 ≤ m
            case pos =>
              have tc0 : (m == 0) = false := by simp; omega
              have tc1 : decide (128 ≤ m) = true := by simp; omega
              clear hmb
              go_wp2
              go_ret
              exact ⟨false, rfl, fun h => (by cases h), rfl⟩
            by_cases c2 : m = 10
            case pos =>
              have tc0 : (m == 0) = false := by simp; omega
              have tc1 : decide (128 ≤ m) = false := by simp; omega
              have tc2 : (m == 10) = true := by simp; omega
              clear hmb
              go_wp2
              go_ret
              exact ⟨false, rfl, fun h => (by cases h), rfl⟩
            by_cases c3 : m = 12
            case pos =>
              have tc0 : (m == 0) = false := by simp; omega
              have tc1 : decide (128 ≤ m) = false := by simp; omega
              have tc2 : (m == 10) = false := by simp; omega
              have tc3 : (m == 12) = true := by simp; omega
              clear hmb
              go_wp2
              go_ret
              exact ⟨false, rfl, fun h => (by cases h), rfl⟩
            have tc0 : (m == 0) = false := by simp; omega
            have tc1 : decide (128 ≤ m) = false := by simp; omega
            have tc2 : (m == 10) = false := by simp; omega
            have tc3 : (m == 12) = false := by simp; omega
            have tc4 : (m == 13) = true := by simp; omega
            clear hmb
            go_wp2
            go_ret
            exact ⟨false, rfl, fun h => (by cases h), rfl⟩
        · obtain rfl : k = s.size := by omega
          have HD := Lib.hid (show Dom s from ⟨HG.out, fun _ => by rw [HN0.out]; exact HF.out⟩)
          go_wp2
          go_ret
          exact ⟨true, rfl, fun _ => HD.out, rfl⟩

    · rw [hd] at HD0
      clear hd
      go_enter Tryf.func5, Tryf.ntmps5
      go_wp2_with (first | (go_at_call 12; refine HD0.out.mono ?_; rintro e w' ⟨rfl, rfl⟩))
      go_ret
      exact ⟨false, rfl, fun h => (by cases h), rfl⟩
  · have HZ := Lib.hid h0
    have t0 : decide (0 < s.size) = false := by simpa using h0
    have t0' : decide ((0 : Int) < (s.size : Int)) = false := by have := h0; simp only [decide_eq_false_iff_not]; omega
    clear h0
    go_enter Tryf.func5, Tryf.ntmps5
    go_wp2
    go_loop [3] (fun i => ∃ k : Nat, k ≤ s.size ∧ i = .int .i64 k ∧ Hid (∀ j, j < k → 0 < (nums s).getD j 0 ∧ (nums s).getD j 0 < 128 ∧ (nums s).getD j 0 ≠ 10 ∧ (nums s).getD j 0 ≠ 12 ∧ (nums s).getD j 0 ≠ 13)) (fun i => s.size - (intOf i).toNat)
    case atStart => exact ⟨0, Nat.zero_le _, rfl, Lib.hid (fun j hj => by omega)⟩
    case round =>
      obtain ⟨k, hk, rfl, HG⟩ := hrel
      by_cases hlt : k < s.size
      · obtain ⟨b, hb, hnb⟩ := byte_at s k hlt
        have HN := Lib.hid hnb
        clear hnb
        by_cases hgood : 0 < b.toNat ∧ b.toNat < 128 ∧ b.toNat ≠ 10 ∧ b.toNat ≠ 12 ∧ b.toNat ≠ 13
        · have HG2 := Lib.hid (show ∀ j, j < k + 1 → 0 < (nums s).getD j 0 ∧ (nums s).getD j 0 < 128 ∧ (nums s).getD j 0 ≠ 10 ∧ (nums s).getD j 0 ≠ 12 ∧ (nums s).getD j 0 ≠ 13 from fun j hj => by
            rcases Nat.lt_or_ge j k with h | h
            · exact HG.out j h
            · obtain rfl : j = k := by omega
              rw [HN.out]; omega)
          have t0 : ((b.toNat : Int) == 0) = false := by simp; omega
          have t1 : decide (128 ≤ (b.toNat : Int)) = false := by simp; omega
          have t2 : ((b.toNat : Int) == 10) = false := by simp; omega
          have t3 : ((b.toNat : Int) == 12) = false := by simp; omega
          have t4 : ((b.toNat : Int) == 13) = false := by simp; omega
          clear hgood
          go_wp2
          go_round
          case rel => exact ⟨k + 1, by omega, by go_num, HG2⟩
          case measure => simp [intOf]; omega
        · have hbn : ∃ m : Int, (b.toNat : Int) = m ∧ 0 ≤ m ∧ ¬ (0 < m ∧ m < 128 ∧ m ≠ 10 ∧ m ≠ 12 ∧ m ≠ 13) := ⟨_, rfl, by omega, by omega⟩
          obtain ⟨m, hbm, hm0, hmb⟩ := hbn
          clear hgood HN
          by_cases c0 : m = 0
          case pos =>
            have tc0 : (m == 0) = true := by simp; omega
            clear hmb
            go_wp2
            go_ret
            exact ⟨false, rfl, fun h => (by cases h), rfl⟩
          by_cases c1 : 128 ≤ m
          case pos =>
            have tc0 : (m == 0) = false := by simp; omega
            have tc1 : decide (128 ≤ m) = true := by simp; omega
            clear hmb
            go_wp2
            go_ret
            exact ⟨false, rfl, fun h => (by cases h), rfl⟩
          by_cases c2 : m = 10
          case pos =>
            have tc0 : (m == 0) = false := by simp; omega
            have tc1 : decide (128 ≤ m) = false := by simp; omega
            have tc2 : (m == 10) = true := by simp; omega
            clear hmb
            go_wp2
            go_ret
            exact ⟨false, rfl, fun h => (by cases h), rfl⟩
          by_cases c3 : m = 12
          case pos =>
            have tc0 : (m == 0) = false := by simp; omega
            have tc1 : decide (128 ≤ m) = false := by simp; omega
            have tc2 : (m == 10) = false := by simp; omega
            have tc3 : (m == 12) = true := by simp; omega
            clear hmb
            go_wp2
            go_ret
            exact ⟨false, rfl, fun h => (by cases h), rfl⟩
          have tc0 : (m == 0) = false := by simp; omega
          have tc1 : decide (128 ≤ m) = false := by simp; omega
          have tc2 : (m == 10) = false := by simp; omega
          have tc3 : (m == 12) = false := by simp; omega
          have tc4 : (m == 13) = true := by simp; omega
          clear hmb
          go_wp2
          go_ret
          exact ⟨false, rfl, fun h => (by cases h), rfl⟩
      · obtain rfl : k = s.size := by omega
        have HD := Lib.hid (show Dom s from ⟨HG.out, fun h => absurd h HZ.out⟩)
        go_wp2
        go_ret
        exact ⟨true, rfl, fun _ => HD.out, rfl⟩

set_option maxHeartbeats 2000000 in
theorem starts14 (s : ByteArray) (w : World) (hs : s.size ≤ 1048576) : Calls Tryf.prog 14 #[.string s] w fun e w' => e = .returned (.bool (startB (nums s))) ∧ w = w' := by
  by_cases z : s.size = 0
  case pos =>
    have HR := Lib.hid (startB_cons0 (nums s) (by rw [nums_length]; exact z))
    go_enter Tryf.func14, Tryf.ntmps14
    go_wp2
    go_ret
    exact ⟨ret_bool HR.out.symm, rfl⟩
  have hp0 : 0 < s.size := Nat.pos_of_ne_zero z
  have tz : ((s.size : Int) == 0) = false := by rw [beq_eq_false_iff_ne]; omega
  obtain ⟨b0, hb0, hn0⟩ := byte_at s 0 hp0
  have k0 : (0 : Int) ≤ (b0.toNat : Int) ∧ (b0.toNat : Int) ≤ 255 := by have := b0.toNat_lt; omega
  generalize hc : (b0.toNat : Int) = c at hn0 k0
  have H0 := Lib.hid (let20 c w k0.1 k0.2)
  by_cases m : s.size = 1
  case pos =>
    have HS := Lib.hid ((startB_one (nums s) (by rw [nums_length]; exact m)).trans (by rw [hn0]))
    have tm : decide ((1 : Int) < (s.size : Int)) = false := by simp; omega
    clear hn0 k0 z m
    cases l : letB c
    · rw [l] at H0 HS
      clear l
      by_cases u : c = 95
      · subst u
        have HR := Lib.hid (show startB (nums s) = true by rw [HS.out]; try simp)
        go_enter Tryf.func14, Tryf.ntmps14
        go_wp2_with (first | (go_at_call 20; refine H0.out.mono ?_; rintro e w1 ⟨rfl, rfl⟩))
        go_ret
        exact ⟨ret_bool HR.out.symm, rfl⟩

      · have u1 : (c == 95) = false := by simp [u]
        rw [u1] at HS
        by_cases v : c = 45
        · subst v
          clear u
          have HR := Lib.hid (show startB (nums s) = false by rw [HS.out]; try simp)
          go_enter Tryf.func14, Tryf.ntmps14
          go_wp2_with (first | (go_at_call 20; refine H0.out.mono ?_; rintro e w1 ⟨rfl, rfl⟩))
          go_ret
          exact ⟨ret_bool HR.out.symm, rfl⟩

        · have v1 : (c == 45) = false := by simp [v]
          clear u v
          have HR := Lib.hid (show startB (nums s) = false by rw [HS.out]; try simp)
          go_enter Tryf.func14, Tryf.ntmps14
          go_wp2_with (first | (go_at_call 20; refine H0.out.mono ?_; rintro e w1 ⟨rfl, rfl⟩))
          go_ret
          exact ⟨ret_bool HR.out.symm, rfl⟩

    · rw [l] at H0 HS
      clear l
      have HR := Lib.hid (show startB (nums s) = true by rw [HS.out]; try simp)
      go_enter Tryf.func14, Tryf.ntmps14
      go_wp2_with (first | (go_at_call 20; refine H0.out.mono ?_; rintro e w1 ⟨rfl, rfl⟩))
      go_ret
      exact ⟨ret_bool HR.out.symm, rfl⟩

  have hp1 : 1 < s.size := by omega
  obtain ⟨b1, hb1, hn1⟩ := byte_at s 1 hp1
  have k1 : (0 : Int) ≤ (b1.toNat : Int) ∧ (b1.toNat : Int) ≤ 255 := by have := b1.toNat_lt; omega
  generalize hd : (b1.toNat : Int) = d at hn1 k1
  have H1 := Lib.hid (let20 d w k1.1 k1.2)
  have HS := Lib.hid ((startB_more (nums s) (by rw [nums_length]; exact hp1)).trans (by rw [hn0, hn1]))
  have tm : decide ((1 : Int) < (s.size : Int)) = true := by simp; omega
  clear hn0 hn1 k0 k1 z m
  cases l : letB c
  · rw [l] at H0 HS
    clear l
    by_cases u : c = 95
    · subst u
      clear H1
      have HR := Lib.hid (show startB (nums s) = true by rw [HS.out]; try simp)
      go_enter Tryf.func14, Tryf.ntmps14
      go_wp2_with (first | (go_at_call 20; refine H0.out.mono ?_; rintro e w1 ⟨rfl, rfl⟩))
      go_ret
      exact ⟨ret_bool HR.out.symm, rfl⟩

    · have u1 : (c == 95) = false := by simp [u]
      rw [u1] at HS
      clear u
      by_cases v : c = 45
      · subst v
        cases l1 : letB d
        · rw [l1] at H1 HS
          clear l1
          by_cases p : d = 95
          · subst p
            have HR := Lib.hid (show startB (nums s) = true by rw [HS.out]; try simp)
            go_enter Tryf.func14, Tryf.ntmps14
            go_wp2_with (first | (go_at_call 20; (with_reducible refine H0.out.mono ?_); rintro e w1 ⟨rfl, rfl⟩) | (go_at_call 20; (with_reducible refine H1.out.mono ?_); rintro e w1 ⟨rfl, rfl⟩))
            go_ret
            exact ⟨ret_bool HR.out.symm, rfl⟩

          · have p1 : (d == 95) = false := by simp [p]
            rw [p1] at HS
            clear p
            by_cases q : d = 45
            · subst q
              have HR := Lib.hid (show startB (nums s) = true by rw [HS.out]; try simp)
              go_enter Tryf.func14, Tryf.ntmps14
              go_wp2_with (first | (go_at_call 20; (with_reducible refine H0.out.mono ?_); rintro e w1 ⟨rfl, rfl⟩) | (go_at_call 20; (with_reducible refine H1.out.mono ?_); rintro e w1 ⟨rfl, rfl⟩))
              go_ret
              exact ⟨ret_bool HR.out.symm, rfl⟩

            · have q1 : (d == 45) = false := by simp [q]
              rw [q1] at HS
              clear q
              have HR := Lib.hid (show startB (nums s) = false by rw [HS.out]; try simp)
              go_enter Tryf.func14, Tryf.ntmps14
              go_wp2_with (first | (go_at_call 20; (with_reducible refine H0.out.mono ?_); rintro e w1 ⟨rfl, rfl⟩) | (go_at_call 20; (with_reducible refine H1.out.mono ?_); rintro e w1 ⟨rfl, rfl⟩))
              go_ret
              exact ⟨ret_bool HR.out.symm, rfl⟩

        · rw [l1] at H1 HS
          clear l1
          have HR := Lib.hid (show startB (nums s) = true by rw [HS.out]; try simp)
          go_enter Tryf.func14, Tryf.ntmps14
          go_wp2_with (first | (go_at_call 20; (with_reducible refine H0.out.mono ?_); rintro e w1 ⟨rfl, rfl⟩) | (go_at_call 20; (with_reducible refine H1.out.mono ?_); rintro e w1 ⟨rfl, rfl⟩))
          go_ret
          exact ⟨ret_bool HR.out.symm, rfl⟩

      · have v1 : (c == 45) = false := by simp [v]
        rw [v1] at HS
        clear v
        clear H1
        have HR := Lib.hid (show startB (nums s) = false by rw [HS.out]; try simp)
        go_enter Tryf.func14, Tryf.ntmps14
        go_wp2_with (first | (go_at_call 20; refine H0.out.mono ?_; rintro e w1 ⟨rfl, rfl⟩))
        go_ret
        exact ⟨ret_bool HR.out.symm, rfl⟩

  · rw [l] at H0 HS
    clear l
    clear H1
    have HR := Lib.hid (show startB (nums s) = true by rw [HS.out]; try simp)
    go_enter Tryf.func14, Tryf.ntmps14
    go_wp2_with (first | (go_at_call 20; refine H0.out.mono ?_; rintro e w1 ⟨rfl, rfl⟩))
    go_ret
    exact ⟨ret_bool HR.out.symm, rfl⟩


/-- Decoding the empty text. -/
theorem dec25 (s : ByteArray) (w : World) (h : s.size = 0) : Calls Tryf.prog 25 #[.string s] w fun e w' => e = .returned (.tuple #[.int .i32 65533, .int .i64 0]) ∧ w = w' := by
  go_enter Tryf.func25, Tryf.ntmps25
  go_wp2
  go_ret2
  exact ⟨rfl, rfl⟩
theorem dec21 (s : ByteArray) (w : World) (h : s.size = 0) : Calls Tryf.prog 21 #[.string s] w fun e w' => e = .returned (.tuple #[.int .i32 65533, .int .i64 0]) ∧ w = w' := by
  obtain rfl : s = ⟨#[]⟩ := by
    cases s with
    | mk d => congr 1; exact Array.eq_empty_of_size_eq_zero h
  have HD := Lib.hid (dec25 ⟨#[]⟩ w h)
  clear h
  go_enter Tryf.func21, Tryf.ntmps21
  go_wp2_with (go_at_call 25; refine HD.out.mono ?_; rintro e w' ⟨rfl, rfl⟩)
  go_ret2
  exact ⟨rfl, rfl⟩

/-- Decoding at an ASCII byte. -/
theorem dec21a (s : ByteArray) (b : UInt8) (c : Int) (w : World) (h : s.data.toList[0]? = some b) (hc : (b.toNat : Int) = c) (h1 : c < 128) : Calls Tryf.prog 21 #[.string s] w fun e w' => e = .returned (.tuple #[.int .i32 c, .int .i64 1]) ∧ w = w' := by
  subst hc
  exact (Tryf.utf8_DecodeRuneInString_ascii s b w h (by omega)).mono (by rintro e w' ⟨rfl, rfl⟩; exact ⟨rfl, rfl⟩)
theorem head0 (s : ByteArray) (h : 0 < s.size) : s.data.toList[0]? = some s[0] := by
  rw [List.getElem?_eq_getElem (by simpa using h)]
  rfl
set_option maxHeartbeats 2000000 in
/-- The lexer's test agrees with the model's. -/
theorem would16 (s : ByteArray) (w : World) (hs : s.size ≤ 1048576) (hD : Dom s) : Calls Tryf.prog 16 #[.string s] w fun e w' => e = .returned (.bool (startB (nums s))) ∧ w = w' := by
  by_cases z : s.size = 0
  case pos =>
    have HR := Lib.hid (startB_cons0 (nums s) (by rw [nums_length]; exact z))
    have HD0 := Lib.hid (dec21 s w z)
    go_enter Tryf.func16, Tryf.ntmps16
    go_wp2_with (go_at_call 21; (with_reducible refine HD0.out.mono ?_); rintro e w1 ⟨rfl, rfl⟩)
    go_ret
    exact ⟨ret_bool HR.out.symm, rfl⟩
  have hp0 : 0 < s.size := Nat.pos_of_ne_zero z
  obtain ⟨b0, hb0, hn0⟩ := byte_at s 0 hp0
  have q0 := head0 s hp0
  rw [hb0] at q0
  have g0 := hD.1 0 hp0
  rw [hn0] at g0
  obtain ⟨g0, g0', -⟩ := g0
  generalize hc : (b0.toNat : Int) = c at hn0 g0 g0'
  have HD0 := Lib.hid (dec21a s b0 c w q0 hc g0')
  have H0 := Lib.hid (sta22 c w g0 g0')
  have e0 : (c == 65533) = false := by simp; omega
  by_cases m : s.size = 1
  case pos =>
    have HS := Lib.hid ((startB_one (nums s) (by rw [nums_length]; exact m)).trans (by rw [hn0]; rfl : _ = stB c))
    have HM := Lib.hid m
    clear hn0 g0 g0' z m hb0 hc q0 hD
    cases l : stB c
    · rw [l] at H0 HS
      clear l
      by_cases v : c = 45
      · subst v
        have HR := Lib.hid (show startB (nums s) = false by rw [HS.out]; try simp)
        go_enter Tryf.func16, Tryf.ntmps16
        go_wp2_with (first | (go_at_call 21; (with_reducible refine HD0.out.mono ?_); rintro e w1 ⟨rfl, rfl⟩) | (go_at_call 22; (with_reducible refine H0.out.mono ?_); rintro e w1 ⟨rfl, rfl⟩) | (go_at_call 21; refine (dec21 _ _ (by simp [HM.out])).mono ?_; rintro e w1 ⟨rfl, rfl⟩))
        go_ret
        exact ⟨ret_bool HR.out.symm, rfl⟩

      · have v1 : (c == 45) = false := by simp [v]
        clear v
        have HR := Lib.hid (show startB (nums s) = false by rw [HS.out]; try simp)
        go_enter Tryf.func16, Tryf.ntmps16
        go_wp2_with (first | (go_at_call 21; (with_reducible refine HD0.out.mono ?_); rintro e w1 ⟨rfl, rfl⟩) | (go_at_call 22; (with_reducible refine H0.out.mono ?_); rintro e w1 ⟨rfl, rfl⟩))
        go_ret
        exact ⟨ret_bool HR.out.symm, rfl⟩

    · rw [l] at H0 HS
      clear l
      have HR := Lib.hid (show startB (nums s) = true by rw [HS.out]; try simp)
      go_enter Tryf.func16, Tryf.ntmps16
      go_wp2_with (first | (go_at_call 21; (with_reducible refine HD0.out.mono ?_); rintro e w1 ⟨rfl, rfl⟩) | (go_at_call 22; (with_reducible refine H0.out.mono ?_); rintro e w1 ⟨rfl, rfl⟩))
      go_ret
      exact ⟨ret_bool HR.out.symm, rfl⟩

  have hp1 : 1 < s.size := by omega
  obtain ⟨b1, hb1, hn1⟩ := byte_at s 1 hp1
  have q1 := tail0 s 1 hp1
  rw [hb1] at q1
  have g1 := hD.1 1 hp1
  rw [hn1] at g1
  obtain ⟨g1, g1', -⟩ := g1
  generalize hd : (b1.toNat : Int) = d at hn1 g1 g1'
  have HD1 := Lib.hid (dec21a (s.extract 1 s.size) b1 d w q1 hd g1')
  have H1 := Lib.hid (sta22 d w g1 g1')
  have e1 : (d == 65533) = false := by simp; omega
  have HS := Lib.hid ((startB_more (nums s) (by rw [nums_length]; exact hp1)).trans (by rw [hn0, hn1]; rfl : _ = (stB c || (c == 45 && (stB d || d == 45)))))
  have hle : (1 : Int) ≤ (s.size : Int) := by omega
  have hle' : 1 ≤ s.size := by omega
  clear hn0 hn1 g0 g0' g1 g1' z m hb0 hb1 hc hd q0 q1 hD
  cases l : stB c
  · rw [l] at H0 HS
    clear l
    by_cases v : c = 45
    · subst v
      cases l1 : stB d
      · rw [l1] at H1 HS
        clear l1
        by_cases q : d = 45
        · subst q
          have HR := Lib.hid (show startB (nums s) = true by rw [HS.out]; try simp)
          go_enter Tryf.func16, Tryf.ntmps16
          go_wp2_with (first | (go_at_call 21; (with_reducible refine HD0.out.mono ?_); rintro e w1 ⟨rfl, rfl⟩) | (go_at_call 21; (with_reducible refine HD1.out.mono ?_); rintro e w1 ⟨rfl, rfl⟩) | (go_at_call 22; (with_reducible refine H0.out.mono ?_); rintro e w1 ⟨rfl, rfl⟩) | (go_at_call 22; (with_reducible refine H1.out.mono ?_); rintro e w1 ⟨rfl, rfl⟩))
          go_ret
          exact ⟨ret_bool HR.out.symm, rfl⟩

        · have q1 : (d == 45) = false := by simp [q]
          rw [q1] at HS
          clear q
          have HR := Lib.hid (show startB (nums s) = false by rw [HS.out]; try simp)
          go_enter Tryf.func16, Tryf.ntmps16
          go_wp2_with (first | (go_at_call 21; (with_reducible refine HD0.out.mono ?_); rintro e w1 ⟨rfl, rfl⟩) | (go_at_call 21; (with_reducible refine HD1.out.mono ?_); rintro e w1 ⟨rfl, rfl⟩) | (go_at_call 22; (with_reducible refine H0.out.mono ?_); rintro e w1 ⟨rfl, rfl⟩) | (go_at_call 22; (with_reducible refine H1.out.mono ?_); rintro e w1 ⟨rfl, rfl⟩))
          go_ret
          exact ⟨ret_bool HR.out.symm, rfl⟩

      · rw [l1] at H1 HS
        clear l1
        have HR := Lib.hid (show startB (nums s) = true by rw [HS.out]; try simp)
        go_enter Tryf.func16, Tryf.ntmps16
        go_wp2_with (first | (go_at_call 21; (with_reducible refine HD0.out.mono ?_); rintro e w1 ⟨rfl, rfl⟩) | (go_at_call 21; (with_reducible refine HD1.out.mono ?_); rintro e w1 ⟨rfl, rfl⟩) | (go_at_call 22; (with_reducible refine H0.out.mono ?_); rintro e w1 ⟨rfl, rfl⟩) | (go_at_call 22; (with_reducible refine H1.out.mono ?_); rintro e w1 ⟨rfl, rfl⟩))
        go_ret
        exact ⟨ret_bool HR.out.symm, rfl⟩

    · have v1 : (c == 45) = false := by simp [v]
      rw [v1] at HS
      clear v
      clear H1 HD1
      have HR := Lib.hid (show startB (nums s) = false by rw [HS.out]; try simp)
      go_enter Tryf.func16, Tryf.ntmps16
      go_wp2_with (first | (go_at_call 21; (with_reducible refine HD0.out.mono ?_); rintro e w1 ⟨rfl, rfl⟩) | (go_at_call 22; (with_reducible refine H0.out.mono ?_); rintro e w1 ⟨rfl, rfl⟩))
      go_ret
      exact ⟨ret_bool HR.out.symm, rfl⟩

  · rw [l] at H0 HS
    clear l
    clear H1 HD1
    have HR := Lib.hid (show startB (nums s) = true by rw [HS.out]; try simp)
    go_enter Tryf.func16, Tryf.ntmps16
    go_wp2_with (first | (go_at_call 21; (with_reducible refine HD0.out.mono ?_); rintro e w1 ⟨rfl, rfl⟩) | (go_at_call 22; (with_reducible refine H0.out.mono ?_); rintro e w1 ⟨rfl, rfl⟩))
    go_ret
    exact ⟨ret_bool HR.out.symm, rfl⟩

end Go.Proofs.YtmhiekokjogkhaaFmt.IdB
