/- FnIterativelyValidateTLAIffSomeLiveTLA: NewDeferLog. -/
import Derived.Test.YtbcplamfejihjaaGreatRows
import Derived.Test.YtbcplamfejihjaaGreatMem
import Derived.Test.YtbcplamfejihjaaGreatSl
import Derived.Test.YtbcplamfejihjaaGreatTlD
import Derived.Test.YtbcplamfejihjaaGreatOwg
import Derived.Test.YtbcplamfejihjaaGreatInvx
import Derived.Great.BuildSlice
import Derived.Deep.RegionLaw
import Derived.Deep.RegionHeld3
import Derived.Laws.EntriesVeiled
import Derived.Maps.AppendAt
import Derived.WalkKit
import Derived.ProofKit
import Derived.OpenShut
import Derived.Below
import Derived.WalkLawsBesides
import Derived.Lib.Hide
import Derived.Outline
import Derived.RegionTactic
import Derived.Deep.QuietTactic
import Derived.BigQuiet
import Derived.WalkSpells
import Derived.Deep.OwnRows
import Derived.IntWalk
import Derived.Deep.DeepMust
namespace Go.Proofs.YtbcplamfejihjaaGreat.TlB
open Go.RowKit Mem Sl
set_option linter.unusedVariables false
open Args Fvs TlA TlP TlD

/-- A log: four functions, a level, no overrides. -/
def LogV (v : Value) : Prop := ∃ a b c d, v = .agg #[.func (.func 15) #[] a, .func (.func 18) #[] b, .func (.func 19) #[] c, .func (.func 20) #[] d, .int .i8 3, .map none]
def Logs (w : World) (e : Ending) (w' : World) : Prop := ∃ v, e = .returned v ∧ LogV v ∧ Below w.heap.size w w'
theorem log13 (w : World) : Calls Tryz.prog 13 #[.int .u8 0, .map none] w (Logs w) := by
  have HB := Lib.hid (Below.refl w.heap.size w)
  go_enter Tryz.func13, Tryz.ntmps13
  go_wp2
  refine bodyPost_ret (v := .agg #[.func (.func 15) #[] #[.pointer (some ⟨w.heap.size, 0, none⟩), .pointer (some ⟨w.heap.size + 1 + 1 + 1, 0, none⟩), .pointer (some ⟨w.heap.size + 1 + 1 + 1 + 1, 0, none⟩), .pointer (some ⟨w.heap.size + 1 + 1, 0, none⟩)],
    .func (.func 18) #[] #[.pointer (some ⟨w.heap.size + 1 + 1 + 1, 0, none⟩), .pointer (some ⟨w.heap.size + 1 + 1 + 1 + 1, 0, none⟩)], .func (.func 19) #[] #[.pointer (some ⟨w.heap.size + 1 + 1 + 1, 0, none⟩), .pointer (some ⟨w.heap.size + 1 + 1, 0, none⟩)],
    .func (.func 20) #[] #[.pointer (some ⟨w.heap.size + 1 + 1 + 1, 0, none⟩), .pointer (some ⟨w.heap.size + 1 + 1, 0, none⟩)], .int .i8 3, .map none]) (by simp [results, Tryz.results13, go_sem]) rfl ⟨_, rfl, ⟨_, _, _, _, rfl⟩, ?_⟩
  exact ((((HB.out.alloc (Nat.le_refl _) _).alloc (by simp) _).alloc (by simp <;> omega) _).alloc (by simp <;> omega) _).alloc (by simp <;> omega) _
end Go.Proofs.YtbcplamfejihjaaGreat.TlB
