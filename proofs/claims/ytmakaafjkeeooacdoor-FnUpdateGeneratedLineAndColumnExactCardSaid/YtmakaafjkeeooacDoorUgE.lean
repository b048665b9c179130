/- FnUpdateGeneratedLineAndColumnExact: the scan of the text. -/
import Derived.Test.YtmakaafjkeeooacDoorRows
import Derived.Test.YtmakaafjkeeooacDoorMem
import Derived.Test.YtmakaafjkeeooacDoorSl
import Derived.Test.YtmakaafjkeeooacDoorUgA
import Derived.Test.YtmakaafjkeeooacDoorUgA3
import Derived.Test.YtmakaafjkeeooacDoorUgA4
import Derived.Test.YtmakaafjkeeooacDoorStep
import Derived.Deep.DeepCutAuto
import Derived.WalkKit
import Derived.ProofKit
import Derived.OpenShut
import Derived.Below
import Derived.WalkLawsBesides
import Derived.Lib.Hide
import Derived.Outline
import Derived.RegionTactic
import Derived.Deep.QuietTactic
import Derived.BigQuiet
import Derived.WalkSpells
import Derived.Deep.OwnRows
import Derived.IntWalk
import Derived.Deep.DeepMust
namespace Go.Proofs.YtmakaafjkeeooacDoor.UgE
open Go.RowKit Mem Sl
set_option linter.unusedVariables false
open Own Vq Dec Lin Str Prn Owg UgA UgA3 UgA4

theorem rune22 (b n c : Nat) (s : ByteArray) (i : Nat) (w : World) (hi : i < n) (hs : s.size = n) (hn : n ≤ 1048576) (hcell : ∀ j, j < n → w.cell? ⟨b, j, none⟩ = some (.int .u8 ((by_ s j : Nat) : Int))) : Calls Tryd.prog 22 #[.slice (some ⟨b, 0, none⟩) n c, .int .i64 (i : Int)] w (RuP s i w) := by
  by_cases c' : 224 ≤ by_ s i ∧ by_ s i ≤ 244
  · by_cases c3 : by_ s i ≤ 239
    · by_cases a : by_ s i = 224
      · exact r3a b n c s i w hi hs hn hcell a
      by_cases b' : by_ s i = 237
      · exact r3b b n c s i w hi hs hn hcell b'
      exact r3c b n c s i w hi hs hn hcell ⟨c'.1, c3, a, b'⟩
    · by_cases a : by_ s i = 240
      · exact r4a b n c s i w hi hs hn hcell a
      by_cases b' : by_ s i = 244
      · exact r4b b n c s i w hi hs hn hcell b'
      exact r4c b n c s i w hi hs hn hcell ⟨by omega, c'.2, a, b'⟩
  · exact r12 b n c s i w hi hs hn hcell c'
/-- What is left to do from pos on: breaks, units since the last one (a return before a line feed counts for nothing). -/
def fin2 (s : ByteArray) (pos L U : Nat) : Nat × Nat :=
  if h : pos < s.size then (if crlf s pos then fin2 s (pos + wd s pos) L U else if isT (ru s pos) then fin2 s (pos + wd s pos) (L + 1) 0 else fin2 s (pos + wd s pos) L (U + un s pos)) else (L, U)
termination_by s.size - pos
decreasing_by all_goals (have := wd_pos h; omega)
theorem fin2_end (s : ByteArray) (pos L U : Nat) (h : ¬ pos < s.size) : fin2 s pos L U = (L, U) := by rw [fin2, dif_neg h]
theorem fin2_cr (s : ByteArray) (pos L U : Nat) (h : pos < s.size) (hb : crlf s pos = true) : fin2 s pos L U = fin2 s (pos + wd s pos) L U := by rw [fin2, dif_pos h, if_pos hb]
theorem fin2_brk (s : ByteArray) (pos L U : Nat) (h : pos < s.size) (hb : crlf s pos = false) (ht : isT (ru s pos) = true) : fin2 s pos L U = fin2 s (pos + wd s pos) (L + 1) 0 := by rw [fin2, dif_pos h, if_neg (by simp [hb]), if_pos ht]
theorem fin2_un (s : ByteArray) (pos L U : Nat) (h : pos < s.size) (hb : isT (ru s pos) = false) : fin2 s pos L U = fin2 s (pos + wd s pos) L (U + un s pos) := by
  have hc : crlf s pos = false := by
    unfold isT at hb
    simp only [Bool.or_eq_false_iff] at hb
    unfold crlf
    rw [hb.1.1.2]
    rfl
  rw [fin2, dif_pos h, if_neg (by simp [hc]), if_neg (by simp [hb])]
/-- One step, by the rune R of width W at pos, and by the byte that follows. -/
theorem step_cr (s : ByteArray) (pos L U R W : Nat) (h : pos < s.size) (hR : ru s pos = R) (hW : wd s pos = W) (h13 : R = 13) (h1 : pos + 1 < s.size) (h10 : by_ s (pos + 1) = 10) : fin2 s (pos + W) L U = fin2 s pos L U := by
  rw [fin2_cr s pos L U h (by unfold crlf; rw [hR, h13, h10]; simp [h1]), hW]
theorem step_brk (s : ByteArray) (pos L U R W : Nat) (h : pos < s.size) (hR : ru s pos = R) (hW : wd s pos = W) (ht : R = 10 ∨ R = 13 ∨ R = 8232 ∨ R = 8233) (hn : R = 13 → pos + 1 < s.size → by_ s (pos + 1) ≠ 10) : fin2 s (pos + W) (L + 1) 0 = fin2 s pos L U := by
  rw [fin2_brk s pos L U h ?_ ?_, hW]
  · unfold crlf
    rw [hR]
    by_cases h13 : R = 13
    · by_cases h1 : pos + 1 < s.size
      · have := hn h13 h1
        simp [h13, h1, this]
      · simp [h1]
    · simp [h13]
  · rw [hR]
    unfold isT
    rcases ht with h | h | h | h <;> simp [h]
theorem step_un (s : ByteArray) (pos L U R W : Nat) (h : pos < s.size) (hR : ru s pos = R) (hW : wd s pos = W) (ht : R ≠ 10 ∧ R ≠ 13 ∧ R ≠ 8232 ∧ R ≠ 8233) (u : Nat) (hu : (if R ≤ 65535 then 1 else 2) = u) : fin2 s (pos + W) L (U + u) = fin2 s pos L U ∧ u ≤ W := by
  have h9 := un_le s pos h
  have e : un s pos = u := by unfold un; rw [hR]; exact hu
  rw [fin2_un s pos L U h (by rw [hR]; unfold isT; simp [ht]), hW, e]
  exact ⟨rfl, by rw [← e, ← hW]; exact h9⟩
def Scd (s : ByteArray) (w : World) (e : Ending) (w' : World) : Prop := e = .returned (.tuple #[.int .i64 ((fin2 s 0 0 0).1 : Nat), .int .i64 ((fin2 s 0 0 0).2 : Nat)]) ∧ ∃ m, w' = w.drewN m
set_option maxHeartbeats 8000000 in
set_option maxRecDepth 100000 in
theorem scan11 (A : Option Addr) (n c : Nat) (s : ByteArray) (w : World) (hT : Tx w A n c s) (hn : n ≤ 1048576) : Calls Tryd.prog 11 #[.slice A n c] w (Scd s w) := by
  obtain ⟨hs, hnc, hcm, hcells⟩ := hT
  have HS := Lib.hid hs
  have HC := Lib.hid hcells
  clear hs hcells
  go_enter Tryd.func11, Tryd.ntmps11
  go_wp2_with fail
  go_loopw [4, 5, 6] (fun x4 x5 x6 wr => ∃ k L U m : Nat, k ≤ n ∧ L ≤ k ∧ U ≤ k ∧ x4 = .int .i64 (L : Int) ∧ x5 = .int .i64 (U : Int) ∧ x6 = .int .i64 (k : Int) ∧ Hid (fin2 s k L U = fin2 s 0 0 0) ∧ wr = w.drewN m) (fun _ _ x6 _ => n - (intOf x6).toNat)
  case atStart => exact ⟨0, 0, 0, 0, Nat.zero_le _, Nat.zero_le _, Nat.zero_le _, rfl, rfl, rfl, Lib.hid rfl, rfl⟩
  case round =>
    obtain ⟨k, L, U, m, hk, hL, hU, rfl, rfl, rfl, hfin, rfl⟩ := hrel
    by_cases hlt : k < n
    · have tlt : decide ((k : Int) < (n : Int)) = true := by simp; omega
      obtain ⟨b, ha, hb, hcell⟩ := HC.out (by omega)
      subst ha
      have HR := Lib.hid (rune22 b n c s k (w.drewN m) hlt HS.out hn hcell)
      have hw := wd_pos (s := s) (i := k) (by rw [HS.out]; exact hlt)
      have hsc := Step.dec_scalar s k
      have hR1 : ru s k ≤ 1114111 := hsc.1
      have h1 := hcell (k + 1)
      have hyl := by_lt s (k + 1)
      obtain ⟨R, hR⟩ : ∃ R, ru s k = R := ⟨_, rfl⟩
      obtain ⟨W, hW⟩ : ∃ W, wd s k = W := ⟨_, rfl⟩
      obtain ⟨Y, hY⟩ : ∃ Y, by_ s (k + 1) = Y := ⟨_, rfl⟩
      unfold RuP at HR
      rw [hR, hW] at HR
      rw [hW, HS.out] at hw
      rw [hR] at hR1
      rw [hY] at h1 hyl
      have HRr := Lib.hid hR
      have HWr := Lib.hid hW
      have HYr := Lib.hid hY
      clear hR hW hY hsc hcell
      go_upto_region 6 with (go_at_call 22; (with_reducible refine HR.out.mono ?_); rintro e w1 ⟨rfl, m1, rfl⟩)
      have e0 : (w.drewN m).drewN m1 = w.drewN (m + m1) := by simp
      try rw [e0]
      clear e0 HR
      have HKS := Lib.hid (show k < s.size by rw [HS.out]; exact hlt)
      have p0 : (0 : Int) ≤ (k : Int) := by omega
      by_cases c13 : R = 13
      · subst c13
        by_cases d1 : k + 1 < n
        · have y1 := h1 d1
          have v1 : (k : Int) + 1 < (n : Int) := by omega
          by_cases cy : Y = 10
          · subst cy
            have HST := Lib.hid (show _ ∧ True from ⟨step_cr s k L U 13 W HKS.out HRr.out HWr.out rfl (by rw [HS.out]; exact d1) HYr.out, trivial⟩)
            go_wp2_with fail
            go_roundw
            case rel => exact ⟨k + W, L, U, _, by omega, by first | omega | (have := HST.out.2; omega), by first | omega | (have := HST.out.2; omega), by go_num, by go_num, by go_num, Lib.hid (HST.out.1.trans hfin.out), rfl⟩
            case measure => simp [intOf]; omega
          · have ty : ((Y : Int) == 10) = false := by simp; omega
            have HST := Lib.hid (show _ ∧ True from ⟨step_brk s k L U 13 W HKS.out HRr.out HWr.out (by omega) (fun _ _ => by rw [HYr.out]; exact cy), trivial⟩)
            go_wp2_with fail
            go_roundw
            case rel => exact ⟨k + W, (L + 1), 0, _, by omega, by first | omega | (have := HST.out.2; omega), by first | omega | (have := HST.out.2; omega), by go_num, by go_num, by go_num, Lib.hid (HST.out.1.trans hfin.out), rfl⟩
            case measure => simp [intOf]; omega
        · have v1 : decide ((k : Int) + 1 < (n : Int)) = false := by simp; omega
          clear h1
          have HST := Lib.hid (show _ ∧ True from ⟨step_brk s k L U 13 W HKS.out HRr.out HWr.out (by omega) (fun _ h => by rw [HS.out] at h; omega), trivial⟩)
          go_wp2_with fail
          go_roundw
          case rel => exact ⟨k + W, (L + 1), 0, _, by omega, by first | omega | (have := HST.out.2; omega), by first | omega | (have := HST.out.2; omega), by go_num, by go_num, by go_num, Lib.hid (HST.out.1.trans hfin.out), rfl⟩
          case measure => simp [intOf]; omega
      have t13 : ((R : Int) == 13) = false := by simp; omega
      clear h1
      by_cases c10 : R = 10
      · subst c10
        have HST := Lib.hid (show _ ∧ True from ⟨step_brk s k L U 10 W HKS.out HRr.out HWr.out (by omega) (fun h => by omega), trivial⟩)
        go_wp2_with fail
        go_roundw
        case rel => exact ⟨k + W, (L + 1), 0, _, by omega, by first | omega | (have := HST.out.2; omega), by first | omega | (have := HST.out.2; omega), by go_num, by go_num, by go_num, Lib.hid (HST.out.1.trans hfin.out), rfl⟩
        case measure => simp [intOf]; omega
      have t10 : ((R : Int) == 10) = false := by simp; omega
      by_cases c8232 : R = 8232
      · subst c8232
        have HST := Lib.hid (show _ ∧ True from ⟨step_brk s k L U 8232 W HKS.out HRr.out HWr.out (by omega) (fun h => by omega), trivial⟩)
        go_wp2_with fail
        go_roundw
        case rel => exact ⟨k + W, (L + 1), 0, _, by omega, by first | omega | (have := HST.out.2; omega), by first | omega | (have := HST.out.2; omega), by go_num, by go_num, by go_num, Lib.hid (HST.out.1.trans hfin.out), rfl⟩
        case measure => simp [intOf]; omega
      have t8232 : ((R : Int) == 8232) = false := by simp; omega
      by_cases c8233 : R = 8233
      · subst c8233
        have HST := Lib.hid (show _ ∧ True from ⟨step_brk s k L U 8233 W HKS.out HRr.out HWr.out (by omega) (fun h => by omega), trivial⟩)
        go_wp2_with fail
        go_roundw
        case rel => exact ⟨k + W, (L + 1), 0, _, by omega, by first | omega | (have := HST.out.2; omega), by first | omega | (have := HST.out.2; omega), by go_num, by go_num, by go_num, Lib.hid (HST.out.1.trans hfin.out), rfl⟩
        case measure => simp [intOf]; omega
      have t8233 : ((R : Int) == 8233) = false := by simp; omega
      by_cases cb : R ≤ 65535
      · have tb : decide ((65535 : Int) < (R : Int)) = false := by simp; omega
        have HST := Lib.hid (step_un s k L U R W HKS.out HRr.out HWr.out (by omega) 1 (by rw [if_pos cb]))
        go_wp2_with fail
        go_roundw
        case rel => exact ⟨k + W, L, (U + 1), _, by omega, by first | omega | (have := HST.out.2; omega), by first | omega | (have := HST.out.2; omega), by go_num, by go_num, by go_num, Lib.hid (HST.out.1.trans hfin.out), rfl⟩
        case measure => simp [intOf]; omega
      · have tb : decide ((65535 : Int) < (R : Int)) = true := by simp; omega
        have HST := Lib.hid (step_un s k L U R W HKS.out HRr.out HWr.out (by omega) 2 (by rw [if_neg cb]))
        go_wp2_with fail
        go_roundw
        case rel => exact ⟨k + W, L, (U + 2), _, by omega, by first | omega | (have := HST.out.2; omega), by first | omega | (have := HST.out.2; omega), by go_num, by go_num, by go_num, Lib.hid (HST.out.1.trans hfin.out), rfl⟩
        case measure => simp [intOf]; omega
    · have tlt : decide ((k : Int) < (n : Int)) = false := by simp; omega
      have hkn : ¬ k < s.size := by rw [HS.out]; exact hlt
      have hf := hfin.out
      rw [fin2_end s k L U hkn] at hf
      have HF := Lib.hid hf
      clear hf
      go_wp2
      refine bodyPost_ret (v := .tuple #[.int .i64 (L : Int), .int .i64 (U : Int)]) (by simp [results, Tryd.results11]) rfl ⟨?_, m, rfl⟩
      rw [← HF.out]
end Go.Proofs.YtmakaafjkeeooacDoor.UgE
