/- FnUpdateGeneratedLineAndColumnExact: the law. -/
import Derived.Test.YtmakaafjkeeooacDoorRows
import Derived.Test.YtmakaafjkeeooacDoorMem
import Derived.Test.YtmakaafjkeeooacDoorSl
import Derived.Test.YtmakaafjkeeooacDoorUgM
import Derived.Test.YtmakaafjkeeooacDoorUgN
import Derived.LaidMore
import Derived.WalkKit
import Derived.ProofKit
import Derived.OpenShut
import Derived.Below
import Derived.WalkLawsBesides
import Derived.Lib.Hide
import Derived.Outline
import Derived.RegionTactic
import Derived.Deep.QuietTactic
import Derived.BigQuiet
import Derived.WalkSpells
import Derived.Deep.OwnRows
import Derived.IntWalk
import Derived.Deep.DeepMust
namespace Go.Proofs.YtmakaafjkeeooacDoor.UgO
open Go.RowKit Mem Sl
set_option linter.unusedVariables false
open UgA UgB UgC UgL Args Go.ChangeShapes Go.WideShapes Go.ChangeAt

theorem of_laid {W : World} (h : laidMetH Tryd.prog Rows.fnUpdateGeneratedLineAndColumnExactRow.laid W) : B64 W.heap.size W := UgL.of_laid h
theorem sm_of {a : Int} (h : (Lit.int .i32 a).wf = true) : Sm a := by
  have := bounds_i32 h
  unfold Sm
  omega
set_option maxRecDepth 100000 in
theorem law (A0 : Option Addr) (n0 c0 : Nat) (z0 : List Int) (a1 : Bool) (a2 : Int) (w : World) (w0 : Args.IsInts .u8 w A0 n0 c0 z0) (w2 : (Lit.int .i32 a2).wf = true) (hL : B64 w.heap.size w) :
    Calls Tryd.prog 3 #[.slice A0 n0 c0, .bool a1, .int .i32 a2] w fun e w' => e = .returned (.bool true) ∧ Below w.heap.size w w' := by
  by_cases hn : n0 ≤ 1048576
  · cases a1
    · exact UgM.main A0 n0 c0 z0 a2 w w0 hL (sm_of w2) hn
    · exact UgN.main A0 n0 c0 z0 a2 w w0 hL (sm_of w2) hn
  · have m0 : n0 ≤ maxLen := Nat.le_trans w0.1 w0.2.1
    have H4 := Lib.hid (bytes4 A0 n0 c0 a1 a2 w m0)
    rw [show decide (n0 ≤ 1048576) = false by simp; omega] at H4
    clear w0 hL m0
    go_enter Tryd.func3, Tryd.ntmps3
    go_wp2_with (go_at_call 4; (with_reducible refine H4.out.mono ?_); rintro e w' ⟨rfl, rfl⟩)
    go_ret
    exact ⟨rfl, Below.refl _ _⟩
end Go.Proofs.YtmakaafjkeeooacDoor.UgO
