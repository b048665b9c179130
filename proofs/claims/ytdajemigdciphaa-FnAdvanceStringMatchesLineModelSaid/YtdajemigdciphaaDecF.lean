/- zzDecodeSmB2. -/
import Derived.Test.YtdajemigdciphaaRows
import Derived.Test.YtdajemigdciphaaMem
import Derived.Test.YtdajemigdciphaaSl
import Derived.Test.YtdajemigdciphaaDec
import Derived.WalkKit
import Derived.ProofKit
import Derived.OpenShut
import Derived.Below
import Derived.WalkLawsBesides
import Derived.Lib.Hide
import Derived.Outline
import Derived.RegionTactic
import Derived.Deep.QuietTactic
import Derived.BigQuiet
import Derived.WalkSpells
import Derived.Deep.OwnRows
import Derived.IntWalk
import Derived.Deep.DeepMust
namespace Go.Proofs.Ytdajemigdciphaa.DecF
open Go.RowKit Mem Sl
set_option linter.unusedVariables false
open Dec

theorem cont13 (b : Int) (w : World) : Calls Try.prog 13 #[.int .u8 b] w fun e w' => e = .returned (.bool (decide (128 ≤ b) && decide (b ≤ 191))) ∧ w = w' := by
  by_cases h0 : 128 ≤ b
  · by_cases h1 : b ≤ 191
    · go_enter Try.func13, Try.ntmps13
      go_wp2
      go_ret
      exact ⟨by simp [h0, h1], rfl⟩
    · go_enter Try.func13, Try.ntmps13
      go_wp2
      go_ret
      exact ⟨by simp [h1], rfl⟩
  · have h0' : decide (128 ≤ b) = false := by simpa using h0
    go_enter Try.func13, Try.ntmps13
    go_wp2
    go_ret
    exact ⟨rfl, rfl⟩
theorem cont_yes (b : Nat) (w : World) (h : 128 ≤ b ∧ b ≤ 191) : Calls Try.prog 13 #[.int .u8 b] w fun e w' => e = .returned (.bool true) ∧ w = w' :=
  (cont13 b w).mono fun e w' ⟨he, hw⟩ => ⟨by rw [he]; exact ret_bool (by simp; omega), hw⟩
theorem cont_no (b : Nat) (w : World) (h : ¬ (128 ≤ b ∧ b ≤ 191)) : Calls Try.prog 13 #[.int .u8 b] w fun e w' => e = .returned (.bool false) ∧ w = w' :=
  (cont13 b w).mono fun e w' ⟨he, hw⟩ => ⟨by rw [he]; exact ret_bool (by simp; omega), hw⟩
def isT (r : Nat) : Bool := r == 10 || r == 13 || r == 8232 || r == 8233
def un (s : ByteArray) (i : Nat) : Nat := if (Utf8.decode s i).1 ≤ 65535 then 1 else 2
def DecP (s : ByteArray) (i : Nat) (w : World) (e : Ending) (w' : World) : Prop :=
  ∃ ok, e = .returned (.tuple #[.int .i64 (Utf8.decode s i).2, .int .i64 (un s i), .bool (isT (Utf8.decode s i).1), .bool ((Utf8.decode s i).1 == 13), .bool ok]) ∧ w = w'
theorem leaf {s : ByteArray} {i R W u : Nat} {t c ok : Bool} {w : World} (hd : Utf8.decode s i = (R, W)) (hu : (if R ≤ 65535 then 1 else 2) = u) (ht : isT R = t) (hc : (R == 13) = c) : DecP s i w (.returned (.tuple #[.int .i64 W, .int .i64 u, .bool t, .bool c, .bool ok])) w := by
  refine ⟨ok, ?_, rfl⟩
  unfold un
  rw [hd, hu, ht, hc]
theorem isT_no {r : Nat} (h : r ≠ 10 ∧ r ≠ 13 ∧ r ≠ 8232 ∧ r ≠ 8233) : isT r = false := by simp [isT, h]
theorem ne13 {r : Nat} (h : r ≠ 13) : (r == 13) = false := by simpa using h
theorem idx (s : ByteArray) (i : Nat) (h : i < s.size) (w : World) : (Instr.index 9 (.string s) (.int .i64 (i : Int))).run Try.prog w = .ok (.int .u8 ((by_ s i : Nat) : Int)) w := by
  rw [by_at s i h]
  simp [go_sem, h]
theorem idx1 (s : ByteArray) (i k : Nat) (h : i + k < s.size) (w : World) : (Instr.index 9 (.string s) (.int .i64 ((i : Int) + (k : Int)))).run Try.prog w = .ok (.int .u8 ((by_ s (i + k) : Nat) : Int)) w := by
  have := idx s (i + k) h w
  rwa [Int.natCast_add] at this
theorem decb (s : ByteArray) (i : Nat) (h0 : 128 ≤ by_ s i) (h2 : ¬ ok2 s i) (h3 : ¬ ok3 s i) (h4 : ¬ ok4 s i) (w : World) (ok : Bool) : DecP s i w (.returned (.tuple #[.int .i64 1, .int .i64 1, .bool false, .bool false, .bool ok])) w := leaf (decBad s i h0 h2 h3 h4) (by simp) (by decide) (by decide)
end Go.Proofs.Ytdajemigdciphaa.DecF
