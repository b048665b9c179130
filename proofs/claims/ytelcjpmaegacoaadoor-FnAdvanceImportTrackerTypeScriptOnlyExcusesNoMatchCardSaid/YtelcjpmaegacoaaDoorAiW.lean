/- FnAdvanceImportTrackerTypeScriptOnlyExcusesNoMatch: the step. -/
import Derived.Test.YtelcjpmaegacoaaDoorRows
import Derived.Test.YtelcjpmaegacoaaDoorMem
import Derived.Test.YtelcjpmaegacoaaDoorSl
import Derived.Test.YtelcjpmaegacoaaDoorAiDa
import Derived.Test.YtelcjpmaegacoaaDoorAiDb
import Derived.Test.YtelcjpmaegacoaaDoorAiDc
import Derived.Test.YtelcjpmaegacoaaDoorAiDd
import Derived.WalkKit
import Derived.ProofKit
import Derived.OpenShut
import Derived.Below
import Derived.WalkLawsBesides
import Derived.Lib.Hide
import Derived.Outline
import Derived.RegionTactic
import Derived.Deep.QuietTactic
import Derived.BigQuiet
import Derived.WalkSpells
import Derived.Deep.OwnRows
import Derived.IntWalk
import Derived.Deep.DeepMust
namespace Go.Proofs.YtelcjpmaegacoaaDoor.AiD
open Go.RowKit Mem Sl
set_option linter.unusedVariables false
open Args Fvs AiP AiA AiC AiJ AiS MapK Go.Maps
theorem adv12 (p : Pa) (ts : Bool) (c F I O : Nat) (w : World) (h : Cl p ts c F I O w) (hal0 : p.al.size ≤ maxLen) : Calls Tryd.prog 12 #[.pointer (some ⟨c, 0, none⟩), .agg #[.int .u32 0, .int .i32 0, .int .u32 0, .int .u32 0]] w (Adv p ts w) := by
  by_cases h2 : p.out ts ≤ 2
  · exact adv12_a p ts c F I O w h hal0 h2
  by_cases h3 : p.out ts = 3
  · exact adv12_b p ts c F I O w h hal0 h3
  by_cases h4 : p.out ts = 4
  · exact adv12_c p ts c F I O w h hal0 h4
  · exact adv12_d p ts c F I O w h hal0 (by omega)
end Go.Proofs.YtelcjpmaegacoaaDoor.AiD
