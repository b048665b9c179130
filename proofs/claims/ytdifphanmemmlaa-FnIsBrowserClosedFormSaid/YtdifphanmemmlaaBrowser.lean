/- FnIsBrowserClosedForm: the law's walk. -/
import Derived.Test.YtdifphanmemmlaaRows
import Derived.WalkKit
import Derived.ProofKit
import Derived.OpenShut
import Derived.Below
import Derived.WalkLawsBesides
import Derived.Lib.Hide
import Derived.Outline
import Derived.RegionTactic
import Derived.ChangeAlike
import Derived.Laws.BitsAllLaws
namespace Go.Proofs.Ytdifphanmemmlaa.Browser
open Go.RowKit
theorem law (a0 : Int) (w : World) (w0 : (Lit.int .u8 a0).wf = true) :
    Calls Try.prog 5 #[.int .u8 a0] w fun e w' => e = .returned (.bool true) ∧ Below w.heap.size w w' := by
  obtain ⟨h0, h1⟩ := bounds_u8 w0
  clear w0
  by_cases h : 12 ≤ a0
  · go_enter Try.func5, Try.ntmps5
    go_wp2
    go_ret
    exact ⟨rfl, Below.refl _ _⟩
  · have hc : a0 = 0 ∨ a0 = 1 ∨ a0 = 2 ∨ a0 = 3 ∨ a0 = 4 ∨ a0 = 5 ∨ a0 = 6 ∨ a0 = 7 ∨ a0 = 8 ∨ a0 = 9 ∨ a0 = 10 ∨ a0 = 11 := by omega
    clear h h0 h1
    rcases hc with rfl | rfl | rfl | rfl | rfl | rfl | rfl | rfl | rfl | rfl | rfl | rfl
    all_goals
      go_enter Try.func5, Try.ntmps5
      go_wp2
      go_ret
      exact ⟨rfl, Below.refl _ _⟩
end Go.Proofs.Ytdifphanmemmlaa.Browser
