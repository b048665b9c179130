/- FnPrintIdentAsciiEscapesExact: the helpers. -/
import Derived.Test.YtmhiekokjogkhaaFmtRows
import Derived.Test.YtmhiekokjogkhaaFmtMem
import Derived.Test.YtmhiekokjogkhaaFmtSl
import Derived.Test.YtmhiekokjogkhaaFmtPrn
import Derived.Test.YtmhiekokjogkhaaFmtPru
import Derived.Test.YtmhiekokjogkhaaFmtIdn
import Derived.Test.YtmhiekokjogkhaaFmtStr
import Derived.WalkKit
import Derived.ProofKit
import Derived.OpenShut
import Derived.Below
import Derived.WalkLawsBesides
import Derived.Lib.Hide
import Derived.Outline
import Derived.RegionTactic
import Derived.Deep.QuietTactic
import Derived.BigQuiet
import Derived.WalkSpells
import Derived.Deep.OwnRows
import Derived.IntWalk
import Derived.Deep.DeepMust
namespace Go.Proofs.YtmhiekokjogkhaaFmt.IdA
open Go.RowKit Mem Sl
set_option linter.unusedVariables false
open Prn Pru Idn Str

theorem nums_at (s : ByteArray) (k : Nat) (h : k < s.size) : (nums s).getD k 0 = (((s[k]'h).toNat : Nat) : Int) := by
  have h2 : k < s.data.toList.length := by simpa using h
  unfold nums
  rw [List.getD, List.getElem?_map, List.getElem?_eq_getElem h2]
  rfl
/-- An ASCII letter. -/
theorem let20 (c : Int) (w : World) (h0 : 0 ≤ c) (h1 : c ≤ 255) : Calls Tryf.prog 20 #[.int .u8 c] w fun e w' => e = .returned (.bool (letB c)) ∧ w = w' := by
  by_cases a : 97 ≤ c
  · by_cases b : c ≤ 122
    · have HR := Lib.hid (show letB c = true by simp [letB, a, b])
      have t1 : decide (97 ≤ c) = true := by simp [a]
      have t2 : decide (c ≤ 122) = true := by simp [b]
      go_enter Tryf.func20, Tryf.ntmps20
      go_wp2
      go_ret
      exact ⟨ret_bool HR.out.symm, rfl⟩
    · have HR := Lib.hid (show letB c = false by simp [letB]; omega)
      have t1 : decide (97 ≤ c) = true := by simp [a]
      have t2 : decide (c ≤ 122) = false := by simp; omega
      have t3 : decide (65 ≤ c) = true := by simp; omega
      have t4 : decide (c ≤ 90) = false := by simp; omega
      go_enter Tryf.func20, Tryf.ntmps20
      go_wp2
      go_ret
      exact ⟨ret_bool HR.out.symm, rfl⟩
  · have t1 : decide (97 ≤ c) = false := by simp; omega
    by_cases b : 65 ≤ c
    · have t3 : decide (65 ≤ c) = true := by simp [b]
      by_cases d : c ≤ 90
      · have HR := Lib.hid (show letB c = true by simp [letB]; omega)
        have t4 : decide (c ≤ 90) = true := by simp [d]
        go_enter Tryf.func20, Tryf.ntmps20
        go_wp2
        go_ret
        exact ⟨ret_bool HR.out.symm, rfl⟩
      · have HR := Lib.hid (show letB c = false by simp [letB]; omega)
        have t4 : decide (c ≤ 90) = false := by simp; omega
        go_enter Tryf.func20, Tryf.ntmps20
        go_wp2
        go_ret
        exact ⟨ret_bool HR.out.symm, rfl⟩
    · have HR := Lib.hid (show letB c = false by simp [letB]; omega)
      have t3 : decide (65 ≤ c) = false := by simp; omega
      go_enter Tryf.func20, Tryf.ntmps20
      go_wp2
      go_ret
      exact ⟨ret_bool HR.out.symm, rfl⟩
theorem dig12 (c : Int) (w : World) (h0 : 0 ≤ c) (h1 : c ≤ 255) : Calls Tryf.prog 12 #[.int .u8 c] w fun e w' => e = .returned (.bool (digB c)) ∧ w = w' := by
  by_cases a : 48 ≤ c
  · have t1 : decide (48 ≤ c) = true := by simp [a]
    by_cases b : c ≤ 57
    · have HR := Lib.hid (show digB c = true by simp [digB, a, b])
      have t2 : decide (c ≤ 57) = true := by simp [b]
      go_enter Tryf.func12, Tryf.ntmps12
      go_wp2
      go_ret
      exact ⟨ret_bool HR.out.symm, rfl⟩
    · have HR := Lib.hid (show digB c = false by simp [digB]; omega)
      have t2 : decide (c ≤ 57) = false := by simp; omega
      go_enter Tryf.func12, Tryf.ntmps12
      go_wp2
      go_ret
      exact ⟨ret_bool HR.out.symm, rfl⟩
  · have HR := Lib.hid (show digB c = false by simp [digB]; omega)
    have t1 : decide (48 ≤ c) = false := by simp; omega
    go_enter Tryf.func12, Tryf.ntmps12
    go_wp2
    go_ret
    exact ⟨ret_bool HR.out.symm, rfl⟩
/-- A letter that stands for a Bool, with its value hidden. -/
theorem nam15 (c : Int) (w : World) (h0 : 0 ≤ c) (h1 : c ≤ 255) : Calls Tryf.prog 15 #[.int .u8 c] w fun e w' => e = .returned (.bool (nameB c)) ∧ w = w' := by
  have HL := Lib.hid (let20 c w h0 h1)
  have HD := Lib.hid (dig12 c w h0 h1)
  have HE := Lib.hid (show nameB c = (letB c || digB c || c == 95 || c == 45) from rfl)
  obtain ⟨l, hl⟩ : ∃ l, letB c = l := ⟨_, rfl⟩
  obtain ⟨d, hd⟩ : ∃ d, digB c = d := ⟨_, rfl⟩
  rw [hl] at HL HE
  rw [hd] at HD HE
  clear hl hd
  by_cases u : c = 95
  · subst u
    cases l <;> cases d
    all_goals
      go_enter Tryf.func15, Tryf.ntmps15
      go_wp2_with (first | (go_at_call 20; refine HL.out.mono ?_; rintro e w' ⟨rfl, rfl⟩) | (go_at_call 12; refine HD.out.mono ?_; rintro e w' ⟨rfl, rfl⟩))
      go_ret
      exact ⟨ret_bool (by rw [HE.out]; rfl), rfl⟩
  · have t1 : (c == 95) = false := by simp [u]
    by_cases v : c = 45
    · subst v
      cases l <;> cases d
      all_goals
        go_enter Tryf.func15, Tryf.ntmps15
        go_wp2_with (first | (go_at_call 20; refine HL.out.mono ?_; rintro e w' ⟨rfl, rfl⟩) | (go_at_call 12; refine HD.out.mono ?_; rintro e w' ⟨rfl, rfl⟩))
        go_ret
        exact ⟨ret_bool (by rw [HE.out]; rfl), rfl⟩
    · have t2 : (c == 45) = false := by simp [v]
      have HF := Lib.hid (show (l || d || c == 95 || c == 45) = (l || d) by simp [t1, t2])
      cases l <;> cases d
      all_goals
        go_enter Tryf.func15, Tryf.ntmps15
        go_wp2_with (first | (go_at_call 20; refine HL.out.mono ?_; rintro e w' ⟨rfl, rfl⟩) | (go_at_call 12; refine HD.out.mono ?_; rintro e w' ⟨rfl, rfl⟩))
        go_ret
        exact ⟨ret_bool (by rw [HE.out, HF.out]; rfl), rfl⟩

/-- Does the rune c (ASCII, not NUL) begin a name? -/
def stB (c : Int) : Bool := letB c || c == 95
theorem sta22 (c : Int) (w : World) (h0 : 0 < c) (h1 : c < 128) : Calls Tryf.prog 22 #[.int .i32 c] w fun e w' => e = .returned (.bool (stB c)) ∧ w = w' := by
  by_cases g0 : c ≤ 64
  case pos =>
    have t97 : decide (97 ≤ c) = false := by simp; omega
    have t65 : decide (65 ≤ c) = false := by simp; omega
    have u122 : decide (c ≤ 122) = true := by simp; omega
    have u90 : decide (c ≤ 90) = true := by simp; omega
    have e95 : (c == 95) = false := by simp; omega
    have e0 : (c == 0) = false := by simp; omega
    have e128 : decide (128 ≤ c) = false := by simp; omega
    have HR := Lib.hid (show stB c = false by simp [stB, letB]; omega)
    go_enter Tryf.func22, Tryf.ntmps22
    go_wp2
    go_ret
    exact ⟨ret_bool HR.out.symm, rfl⟩
  by_cases g1 : c ≤ 90
  case pos =>
    have t97 : decide (97 ≤ c) = false := by simp; omega
    have t65 : decide (65 ≤ c) = true := by simp; omega
    have u122 : decide (c ≤ 122) = true := by simp; omega
    have u90 : decide (c ≤ 90) = true := by simp; omega
    have e95 : (c == 95) = false := by simp; omega
    have e0 : (c == 0) = false := by simp; omega
    have e128 : decide (128 ≤ c) = false := by simp; omega
    have HR := Lib.hid (show stB c = true by simp [stB, letB]; omega)
    go_enter Tryf.func22, Tryf.ntmps22
    go_wp2
    go_ret
    exact ⟨ret_bool HR.out.symm, rfl⟩
  by_cases g2 : c ≤ 94
  case pos =>
    have t97 : decide (97 ≤ c) = false := by simp; omega
    have t65 : decide (65 ≤ c) = true := by simp; omega
    have u122 : decide (c ≤ 122) = true := by simp; omega
    have u90 : decide (c ≤ 90) = false := by simp; omega
    have e95 : (c == 95) = false := by simp; omega
    have e0 : (c == 0) = false := by simp; omega
    have e128 : decide (128 ≤ c) = false := by simp; omega
    have HR := Lib.hid (show stB c = false by simp [stB, letB]; omega)
    go_enter Tryf.func22, Tryf.ntmps22
    go_wp2
    go_ret
    exact ⟨ret_bool HR.out.symm, rfl⟩
  by_cases g3 : c ≤ 95
  case pos =>
    obtain rfl : c = 95 := by omega
    have HR := Lib.hid (show stB 95 = true by decide)
    go_enter Tryf.func22, Tryf.ntmps22
    go_wp2
    go_ret
    exact ⟨ret_bool HR.out.symm, rfl⟩
  by_cases g4 : c ≤ 96
  case pos =>
    obtain rfl : c = 96 := by omega
    have HR := Lib.hid (show stB 96 = false by decide)
    go_enter Tryf.func22, Tryf.ntmps22
    go_wp2
    go_ret
    exact ⟨ret_bool HR.out.symm, rfl⟩
  by_cases g5 : c ≤ 122
  case pos =>
    have t97 : decide (97 ≤ c) = true := by simp; omega
    have t65 : decide (65 ≤ c) = true := by simp; omega
    have u122 : decide (c ≤ 122) = true := by simp; omega
    have u90 : decide (c ≤ 90) = false := by simp; omega
    have e95 : (c == 95) = false := by simp; omega
    have e0 : (c == 0) = false := by simp; omega
    have e128 : decide (128 ≤ c) = false := by simp; omega
    have HR := Lib.hid (show stB c = true by simp [stB, letB]; omega)
    go_enter Tryf.func22, Tryf.ntmps22
    go_wp2
    go_ret
    exact ⟨ret_bool HR.out.symm, rfl⟩
  have t97 : decide (97 ≤ c) = true := by simp; omega
  have t65 : decide (65 ≤ c) = true := by simp; omega
  have u122 : decide (c ≤ 122) = false := by simp; omega
  have u90 : decide (c ≤ 90) = false := by simp; omega
  have e95 : (c == 95) = false := by simp; omega
  have e0 : (c == 0) = false := by simp; omega
  have e128 : decide (128 ≤ c) = false := by simp; omega
  have HR := Lib.hid (show stB c = false by simp [stB, letB]; omega)
  go_enter Tryf.func22, Tryf.ntmps22
  go_wp2
  go_ret
  exact ⟨ret_bool HR.out.symm, rfl⟩

theorem con17 (c : Int) (w : World) (h0 : 0 < c) (h1 : c < 128) : Calls Tryf.prog 17 #[.int .i32 c] w fun e w' => e = .returned (.bool (nameB c)) ∧ w = w' := by
  have HL := Lib.hid (sta22 c w h0 h1)
  by_cases a : stB c = true
  · have HR := Lib.hid (show nameB c = true by unfold nameB; unfold stB at a; simp at a ⊢; rcases a with a | a <;> simp [a])
    rw [a] at HL
    clear a
    go_enter Tryf.func17, Tryf.ntmps17
    go_wp2_with (first | (go_at_call 22; refine HL.out.mono ?_; rintro e w' ⟨rfl, rfl⟩))
    go_ret
    exact ⟨ret_bool HR.out.symm, rfl⟩
  · have a' : stB c = false := by simpa using a
    rw [a'] at HL
    have HS := Lib.hid a'
    clear a a'
    by_cases b : 48 ≤ c
    · by_cases d : c ≤ 57
      · have HR := Lib.hid (show nameB c = true by simp [nameB, digB]; omega)
        have t1 : decide (48 ≤ c) = true := by simp [b]
        have t2 : decide (c ≤ 57) = true := by simp [d]
        go_enter Tryf.func17, Tryf.ntmps17
        go_wp2_with (first | (go_at_call 22; refine HL.out.mono ?_; rintro e w' ⟨rfl, rfl⟩))
        go_ret
        exact ⟨ret_bool HR.out.symm, rfl⟩
      · have HR := Lib.hid (show nameB c = false by have := HS.out; unfold stB at this; simp [nameB, digB] at this ⊢; refine ⟨⟨⟨this.1, fun _ => by omega⟩, this.2⟩, by omega⟩)
        have t1 : decide (48 ≤ c) = true := by simp [b]
        have t2 : decide (c ≤ 57) = false := by simp; omega
        have t3 : (c == 45) = false := by simp; omega
        go_enter Tryf.func17, Tryf.ntmps17
        go_wp2_with (first | (go_at_call 22; refine HL.out.mono ?_; rintro e w' ⟨rfl, rfl⟩))
        go_ret
        exact ⟨ret_bool HR.out.symm, rfl⟩
    · have t1 : decide (48 ≤ c) = false := by simp; omega
      by_cases d : c = 45
      · subst d
        have HR := Lib.hid (show nameB 45 = true by decide)
        go_enter Tryf.func17, Tryf.ntmps17
        go_wp2_with (first | (go_at_call 22; refine HL.out.mono ?_; rintro e w' ⟨rfl, rfl⟩))
        go_ret
        exact ⟨ret_bool HR.out.symm, rfl⟩
      · have HR := Lib.hid (show nameB c = false by have := HS.out; unfold stB at this; simp [nameB, digB] at this ⊢; refine ⟨⟨⟨this.1, fun _ => by omega⟩, this.2⟩, by omega⟩)
        have t3 : (c == 45) = false := by simp; omega
        go_enter Tryf.func17, Tryf.ntmps17
        go_wp2_with (first | (go_at_call 22; refine HL.out.mono ?_; rintro e w' ⟨rfl, rfl⟩))
        go_ret
        exact ⟨ret_bool HR.out.symm, rfl⟩
theorem len18 (c : Int) (w : World) (h0 : 0 ≤ c) (h1 : c < 128) : Calls Tryf.prog 18 #[.int .i32 c] w fun e w' => e = .returned (.int .i64 1) ∧ w = w' := by
  have t1 : decide (c < 0) = false := by simp; omega
  have t2 : decide (c ≤ 127) = true := by simp; omega
  go_enter Tryf.func18, Tryf.ntmps18
  go_wp2
  go_ret
  exact ⟨rfl, rfl⟩
/-- Behind EncodeRune of an ASCII rune into block b. -/
structure Encd (w : World) (b : Nat) (c : Int) (w' : World) : Prop where
  row : Row w' b 71 [.int .u8 c, .int .u8 0, .int .u8 0, .int .u8 0]
  grown : w.grownBy w' (some b)
  size : w'.heap.size = w.heap.size
theorem enc23 (b : Nat) (c : Int) (w : World) (h0 : 0 ≤ c) (h1 : c < 128) (hr : Row w b 71 [.int .u8 0, .int .u8 0, .int .u8 0, .int .u8 0]) :
    Calls Tryf.prog 23 #[.slice (some ⟨b, 0, none⟩) 4 4, .int .i32 c] w fun e w' => e = .returned (.int .i64 1) ∧ Encd w b c w' := by
  have c0 := hr.at_ (i := 0) rfl
  have f0 := hr.frozen 0
  have HE := Lib.hid (show Encd w b c (w.setCell ⟨b, 0, none⟩ (.int .u8 c)) from ⟨hr.set 0 _, grown_set (grown_refl _ _) _ _, by simp⟩)
  have w1 : IntKind.u32.wrap c = c := IntWalk.u32_in _ (by omega)
  have w2 : IntKind.u8.wrap c = c := IntWalk.u8_in _ (by omega)
  have t2 : decide (c ≤ 127) = true := by simp; omega
  clear hr
  go_enter Tryf.func23, Tryf.ntmps23
  go_wp2
  go_ret
  exact ⟨rfl, HE.out⟩
end Go.Proofs.YtmhiekokjogkhaaFmt.IdA
