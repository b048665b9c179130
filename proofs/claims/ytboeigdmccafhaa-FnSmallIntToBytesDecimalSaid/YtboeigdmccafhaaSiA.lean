/- zzIntOK, zzDecimal. -/
import Derived.Test.YtboeigdmccafhaaRows
import Derived.Test.YtboeigdmccafhaaMem
import Derived.Test.YtboeigdmccafhaaSl
import Derived.Test.YtboeigdmccafhaaOwn
import Derived.Test.YtboeigdmccafhaaDig
import Derived.OwnWalk
import Derived.WalkKit
import Derived.ProofKit
import Derived.OpenShut
import Derived.Below
import Derived.WalkLawsBesides
import Derived.Lib.Hide
import Derived.Outline
import Derived.RegionTactic
import Derived.Deep.QuietTactic
import Derived.BigQuiet
import Derived.WalkSpells
import Derived.Deep.OwnRows
import Derived.IntWalk
import Derived.Deep.DeepMust
namespace Go.Proofs.Ytboeigdmccafhaa.SiA
open Go.RowKit Mem Sl
set_option linter.unusedVariables false
open Own Dig

theorem ok4 (n : Int) (w : World) (h0 : -9223372036854775808 ≤ n) (h1 : n ≤ 9223372036854775807) : Calls Try.prog 4 #[.int .i64 n] w fun e w' => e = .returned (.bool (decide (n ≠ -9223372036854775808))) ∧ w = w' := by
  by_cases hm : n = -9223372036854775808
  · subst hm
    have hw : wrap64 9223372036854775808 = -9223372036854775808 := by first | rfl | (unfold wrap64; first | rfl | omega | (rw [IntKind.wrap_i64]; rfl))
    go_enter Try.func4, Try.ntmps4
    go_wp2
    go_ret
    exact ⟨rfl, rfl⟩
  · have e0 : (n != n) = false := by simp
    by_cases hn : n < 0
    · have t1 : decide (n < 0) = true := by simp [hn]
      have t2 : decide (0 < n) = false := by simp; omega
      have HR := Lib.hid (show decide (n ≠ -9223372036854775808) = true by simp [hm])
      go_enter Try.func4, Try.ntmps4
      go_wp2
      go_ret
      exact ⟨by first | rfl | (rw [HR.out]; rfl), rfl⟩
    · have t1 : decide (n < 0) = false := by simp; omega
      have HR := Lib.hid (show decide (n ≠ -9223372036854775808) = true by simp [hm])
      go_enter Try.func4, Try.ntmps4
      go_wp2
      go_ret
      exact ⟨by first | rfl | (rw [HR.out]; rfl), rfl⟩
end Go.Proofs.Ytboeigdmccafhaa.SiA
