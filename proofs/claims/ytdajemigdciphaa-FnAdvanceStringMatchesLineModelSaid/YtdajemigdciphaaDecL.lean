/- zzDecodeSmB2. -/
import Derived.Test.YtdajemigdciphaaRows
import Derived.Test.YtdajemigdciphaaMem
import Derived.Test.YtdajemigdciphaaSl
import Derived.Test.YtdajemigdciphaaDecG
import Derived.Test.YtdajemigdciphaaDecH
import Derived.Test.YtdajemigdciphaaDecI
import Derived.Test.YtdajemigdciphaaDecJ
import Derived.Test.YtdajemigdciphaaDecK
import Derived.WalkKit
import Derived.ProofKit
import Derived.OpenShut
import Derived.Below
import Derived.WalkLawsBesides
import Derived.Lib.Hide
import Derived.Outline
import Derived.RegionTactic
import Derived.Deep.QuietTactic
import Derived.BigQuiet
import Derived.WalkSpells
import Derived.Deep.OwnRows
import Derived.IntWalk
import Derived.Deep.DeepMust
namespace Go.Proofs.Ytdajemigdciphaa.DecF
open Go.RowKit Mem Sl
set_option linter.unusedVariables false
open Dec

theorem dec12 (s : ByteArray) (i : Nat) (w : World) (hi : i < s.size) (hs : s.size ≤ 1048576) : Calls Try.prog 12 #[.string s, .int .i64 i] w (DecP s i w) := by
  by_cases c : 224 ≤ by_ s i ∧ by_ s i ≤ 244
  · by_cases c3 : by_ s i ≤ 239
    · by_cases a : by_ s i = 224
      · exact d3a s i w hi hs a
      by_cases b : by_ s i = 237
      · exact d3b s i w hi hs b
      exact d3c s i w hi hs ⟨c.1, c3, a, b⟩
    · by_cases a : by_ s i = 240
      · exact d4a s i w hi hs a
      by_cases b : by_ s i = 244
      · exact d4b s i w hi hs b
      exact d4c s i w hi hs ⟨by omega, c.2, a, b⟩
  · exact d12 s i w hi hs c
end Go.Proofs.Ytdajemigdciphaa.DecF
