/- FnCookedAndRawTemplateContentsWhole: the decoder, digits of switch 9. -/
import Derived.Test.YtalpfbbceggcaaaDoorCwN
import Derived.Test.YtalpfbbceggcaaaDoorCwO
import Derived.Great.BuildSlice
import Derived.Deep.DeepCutAuto
import Derived.Deep.CutBlock
import Derived.WalkKit
import Derived.ProofKit
import Derived.OpenShut
import Derived.Below
import Derived.WalkLawsBesides
import Derived.Lib.Hide
import Derived.Outline
import Derived.RegionTactic
import Derived.Deep.QuietTactic
import Derived.BigQuiet
import Derived.WalkSpells
import Derived.Deep.OwnRows
import Derived.IntWalk
import Derived.Deep.DeepMust
namespace Go.Proofs.YtalpfbbceggcaaaDoor.CwG9
open Go.RowKit Mem Args Own Prn Str Dec Step CwP CwG CwK CwM CwU CwN CwO
set_option linter.unusedVariables false
set_option linter.unusedSimpArgs false
set_option maxRecDepth 100000 in
set_option maxHeartbeats 40000000 in
theorem dg_48 {w0 : World} {f : Nat → Value} {a : Int} {K' : Act → World → Prop} {Q' : Exit → Act → World → Prop}
    (hT : f 276 = .int .i32 48) (hC : f 27 = .int .i32 48) (hV : f 25 = .int .i32 a) (h0 : 0 ≤ a) (h1 : a ≤ 65535)
    (HK : ∀ (a' : Act) (w' : World), RV25 f (a * 16 + 0) w0 a' w' → K' a' w')
    : Code.wp Tryd.prog (blkOf 9 Tryd.f20) (Exit.then K' Q') (fr f) w0 := by
  conv => arg 2; whnf
  have gw : IntKind.i32.wrap (a * 16) = a * 16 := by rw [IntKind.wrap_i32]; omega
  have gb := bor16 a 0 h0 h1 (by decide) (by decide)
  unfold fr
  rw [hT, hC, hV]
  go_wp2_with fail
  exact RV25i rfl rfl rfl rfl rfl rfl rfl rfl rfl rfl rfl rfl hC.symm rfl rfl rfl rfl rfl rfl rfl rfl (by first | rfl | exact congrArg (Value.int .i32) gb | simp)
set_option maxRecDepth 100000 in
set_option maxHeartbeats 40000000 in
theorem dg_49 {w0 : World} {f : Nat → Value} {a : Int} {K' : Act → World → Prop} {Q' : Exit → Act → World → Prop}
    (hT : f 276 = .int .i32 49) (hC : f 27 = .int .i32 49) (hV : f 25 = .int .i32 a) (h0 : 0 ≤ a) (h1 : a ≤ 65535)
    (HK : ∀ (a' : Act) (w' : World), RV25 f (a * 16 + 1) w0 a' w' → K' a' w')
    : Code.wp Tryd.prog (blkOf 9 Tryd.f20) (Exit.then K' Q') (fr f) w0 := by
  conv => arg 2; whnf
  have gw : IntKind.i32.wrap (a * 16) = a * 16 := by rw [IntKind.wrap_i32]; omega
  have gb := bor16 a 1 h0 h1 (by decide) (by decide)
  unfold fr
  rw [hT, hC, hV]
  go_wp2_with fail
  exact RV25i rfl rfl rfl rfl rfl rfl rfl rfl rfl rfl rfl rfl hC.symm rfl rfl rfl rfl rfl rfl rfl rfl (by first | rfl | exact congrArg (Value.int .i32) gb | simp)
set_option maxRecDepth 100000 in
set_option maxHeartbeats 40000000 in
theorem dg_50 {w0 : World} {f : Nat → Value} {a : Int} {K' : Act → World → Prop} {Q' : Exit → Act → World → Prop}
    (hT : f 276 = .int .i32 50) (hC : f 27 = .int .i32 50) (hV : f 25 = .int .i32 a) (h0 : 0 ≤ a) (h1 : a ≤ 65535)
    (HK : ∀ (a' : Act) (w' : World), RV25 f (a * 16 + 2) w0 a' w' → K' a' w')
    : Code.wp Tryd.prog (blkOf 9 Tryd.f20) (Exit.then K' Q') (fr f) w0 := by
  conv => arg 2; whnf
  have gw : IntKind.i32.wrap (a * 16) = a * 16 := by rw [IntKind.wrap_i32]; omega
  have gb := bor16 a 2 h0 h1 (by decide) (by decide)
  unfold fr
  rw [hT, hC, hV]
  go_wp2_with fail
  exact RV25i rfl rfl rfl rfl rfl rfl rfl rfl rfl rfl rfl rfl hC.symm rfl rfl rfl rfl rfl rfl rfl rfl (by first | rfl | exact congrArg (Value.int .i32) gb | simp)
set_option maxRecDepth 100000 in
set_option maxHeartbeats 40000000 in
theorem dg_51 {w0 : World} {f : Nat → Value} {a : Int} {K' : Act → World → Prop} {Q' : Exit → Act → World → Prop}
    (hT : f 276 = .int .i32 51) (hC : f 27 = .int .i32 51) (hV : f 25 = .int .i32 a) (h0 : 0 ≤ a) (h1 : a ≤ 65535)
    (HK : ∀ (a' : Act) (w' : World), RV25 f (a * 16 + 3) w0 a' w' → K' a' w')
    : Code.wp Tryd.prog (blkOf 9 Tryd.f20) (Exit.then K' Q') (fr f) w0 := by
  conv => arg 2; whnf
  have gw : IntKind.i32.wrap (a * 16) = a * 16 := by rw [IntKind.wrap_i32]; omega
  have gb := bor16 a 3 h0 h1 (by decide) (by decide)
  unfold fr
  rw [hT, hC, hV]
  go_wp2_with fail
  exact RV25i rfl rfl rfl rfl rfl rfl rfl rfl rfl rfl rfl rfl hC.symm rfl rfl rfl rfl rfl rfl rfl rfl (by first | rfl | exact congrArg (Value.int .i32) gb | simp)
set_option maxRecDepth 100000 in
set_option maxHeartbeats 40000000 in
theorem dg_52 {w0 : World} {f : Nat → Value} {a : Int} {K' : Act → World → Prop} {Q' : Exit → Act → World → Prop}
    (hT : f 276 = .int .i32 52) (hC : f 27 = .int .i32 52) (hV : f 25 = .int .i32 a) (h0 : 0 ≤ a) (h1 : a ≤ 65535)
    (HK : ∀ (a' : Act) (w' : World), RV25 f (a * 16 + 4) w0 a' w' → K' a' w')
    : Code.wp Tryd.prog (blkOf 9 Tryd.f20) (Exit.then K' Q') (fr f) w0 := by
  conv => arg 2; whnf
  have gw : IntKind.i32.wrap (a * 16) = a * 16 := by rw [IntKind.wrap_i32]; omega
  have gb := bor16 a 4 h0 h1 (by decide) (by decide)
  unfold fr
  rw [hT, hC, hV]
  go_wp2_with fail
  exact RV25i rfl rfl rfl rfl rfl rfl rfl rfl rfl rfl rfl rfl hC.symm rfl rfl rfl rfl rfl rfl rfl rfl (by first | rfl | exact congrArg (Value.int .i32) gb | simp)
set_option maxRecDepth 100000 in
set_option maxHeartbeats 40000000 in
theorem dg_53 {w0 : World} {f : Nat → Value} {a : Int} {K' : Act → World → Prop} {Q' : Exit → Act → World → Prop}
    (hT : f 276 = .int .i32 53) (hC : f 27 = .int .i32 53) (hV : f 25 = .int .i32 a) (h0 : 0 ≤ a) (h1 : a ≤ 65535)
    (HK : ∀ (a' : Act) (w' : World), RV25 f (a * 16 + 5) w0 a' w' → K' a' w')
    : Code.wp Tryd.prog (blkOf 9 Tryd.f20) (Exit.then K' Q') (fr f) w0 := by
  conv => arg 2; whnf
  have gw : IntKind.i32.wrap (a * 16) = a * 16 := by rw [IntKind.wrap_i32]; omega
  have gb := bor16 a 5 h0 h1 (by decide) (by decide)
  unfold fr
  rw [hT, hC, hV]
  go_wp2_with fail
  exact RV25i rfl rfl rfl rfl rfl rfl rfl rfl rfl rfl rfl rfl hC.symm rfl rfl rfl rfl rfl rfl rfl rfl (by first | rfl | exact congrArg (Value.int .i32) gb | simp)
set_option maxRecDepth 100000 in
set_option maxHeartbeats 40000000 in
theorem dg_54 {w0 : World} {f : Nat → Value} {a : Int} {K' : Act → World → Prop} {Q' : Exit → Act → World → Prop}
    (hT : f 276 = .int .i32 54) (hC : f 27 = .int .i32 54) (hV : f 25 = .int .i32 a) (h0 : 0 ≤ a) (h1 : a ≤ 65535)
    (HK : ∀ (a' : Act) (w' : World), RV25 f (a * 16 + 6) w0 a' w' → K' a' w')
    : Code.wp Tryd.prog (blkOf 9 Tryd.f20) (Exit.then K' Q') (fr f) w0 := by
  conv => arg 2; whnf
  have gw : IntKind.i32.wrap (a * 16) = a * 16 := by rw [IntKind.wrap_i32]; omega
  have gb := bor16 a 6 h0 h1 (by decide) (by decide)
  unfold fr
  rw [hT, hC, hV]
  go_wp2_with fail
  exact RV25i rfl rfl rfl rfl rfl rfl rfl rfl rfl rfl rfl rfl hC.symm rfl rfl rfl rfl rfl rfl rfl rfl (by first | rfl | exact congrArg (Value.int .i32) gb | simp)
set_option maxRecDepth 100000 in
set_option maxHeartbeats 40000000 in
theorem dg_55 {w0 : World} {f : Nat → Value} {a : Int} {K' : Act → World → Prop} {Q' : Exit → Act → World → Prop}
    (hT : f 276 = .int .i32 55) (hC : f 27 = .int .i32 55) (hV : f 25 = .int .i32 a) (h0 : 0 ≤ a) (h1 : a ≤ 65535)
    (HK : ∀ (a' : Act) (w' : World), RV25 f (a * 16 + 7) w0 a' w' → K' a' w')
    : Code.wp Tryd.prog (blkOf 9 Tryd.f20) (Exit.then K' Q') (fr f) w0 := by
  conv => arg 2; whnf
  have gw : IntKind.i32.wrap (a * 16) = a * 16 := by rw [IntKind.wrap_i32]; omega
  have gb := bor16 a 7 h0 h1 (by decide) (by decide)
  unfold fr
  rw [hT, hC, hV]
  go_wp2_with fail
  exact RV25i rfl rfl rfl rfl rfl rfl rfl rfl rfl rfl rfl rfl hC.symm rfl rfl rfl rfl rfl rfl rfl rfl (by first | rfl | exact congrArg (Value.int .i32) gb | simp)
set_option maxRecDepth 100000 in
set_option maxHeartbeats 40000000 in
theorem dg_56 {w0 : World} {f : Nat → Value} {a : Int} {K' : Act → World → Prop} {Q' : Exit → Act → World → Prop}
    (hT : f 276 = .int .i32 56) (hC : f 27 = .int .i32 56) (hV : f 25 = .int .i32 a) (h0 : 0 ≤ a) (h1 : a ≤ 65535)
    (HK : ∀ (a' : Act) (w' : World), RV25 f (a * 16 + 8) w0 a' w' → K' a' w')
    : Code.wp Tryd.prog (blkOf 9 Tryd.f20) (Exit.then K' Q') (fr f) w0 := by
  conv => arg 2; whnf
  have gw : IntKind.i32.wrap (a * 16) = a * 16 := by rw [IntKind.wrap_i32]; omega
  have gb := bor16 a 8 h0 h1 (by decide) (by decide)
  unfold fr
  rw [hT, hC, hV]
  go_wp2_with fail
  exact RV25i rfl rfl rfl rfl rfl rfl rfl rfl rfl rfl rfl rfl hC.symm rfl rfl rfl rfl rfl rfl rfl rfl (by first | rfl | exact congrArg (Value.int .i32) gb | simp)
set_option maxRecDepth 100000 in
set_option maxHeartbeats 40000000 in
theorem dg_57 {w0 : World} {f : Nat → Value} {a : Int} {K' : Act → World → Prop} {Q' : Exit → Act → World → Prop}
    (hT : f 276 = .int .i32 57) (hC : f 27 = .int .i32 57) (hV : f 25 = .int .i32 a) (h0 : 0 ≤ a) (h1 : a ≤ 65535)
    (HK : ∀ (a' : Act) (w' : World), RV25 f (a * 16 + 9) w0 a' w' → K' a' w')
    : Code.wp Tryd.prog (blkOf 9 Tryd.f20) (Exit.then K' Q') (fr f) w0 := by
  conv => arg 2; whnf
  have gw : IntKind.i32.wrap (a * 16) = a * 16 := by rw [IntKind.wrap_i32]; omega
  have gb := bor16 a 9 h0 h1 (by decide) (by decide)
  unfold fr
  rw [hT, hC, hV]
  go_wp2_with fail
  exact RV25i rfl rfl rfl rfl rfl rfl rfl rfl rfl rfl rfl rfl hC.symm rfl rfl rfl rfl rfl rfl rfl rfl (by first | rfl | exact congrArg (Value.int .i32) gb | simp)
set_option maxRecDepth 100000 in
set_option maxHeartbeats 40000000 in
theorem dg_97 {w0 : World} {f : Nat → Value} {a : Int} {K' : Act → World → Prop} {Q' : Exit → Act → World → Prop}
    (hT : f 276 = .int .i32 97) (hC : f 27 = .int .i32 97) (hV : f 25 = .int .i32 a) (h0 : 0 ≤ a) (h1 : a ≤ 65535)
    (HK : ∀ (a' : Act) (w' : World), RV25 f (a * 16 + 10) w0 a' w' → K' a' w')
    : Code.wp Tryd.prog (blkOf 9 Tryd.f20) (Exit.then K' Q') (fr f) w0 := by
  conv => arg 2; whnf
  have gw : IntKind.i32.wrap (a * 16) = a * 16 := by rw [IntKind.wrap_i32]; omega
  have gb := bor16 a 10 h0 h1 (by decide) (by decide)
  unfold fr
  rw [hT, hC, hV]
  go_wp2_with fail
  exact RV25i rfl rfl rfl rfl rfl rfl rfl rfl rfl rfl rfl rfl hC.symm rfl rfl rfl rfl rfl rfl rfl rfl (by first | rfl | exact congrArg (Value.int .i32) gb | simp)
set_option maxRecDepth 100000 in
set_option maxHeartbeats 40000000 in
theorem dg_98 {w0 : World} {f : Nat → Value} {a : Int} {K' : Act → World → Prop} {Q' : Exit → Act → World → Prop}
    (hT : f 276 = .int .i32 98) (hC : f 27 = .int .i32 98) (hV : f 25 = .int .i32 a) (h0 : 0 ≤ a) (h1 : a ≤ 65535)
    (HK : ∀ (a' : Act) (w' : World), RV25 f (a * 16 + 11) w0 a' w' → K' a' w')
    : Code.wp Tryd.prog (blkOf 9 Tryd.f20) (Exit.then K' Q') (fr f) w0 := by
  conv => arg 2; whnf
  have gw : IntKind.i32.wrap (a * 16) = a * 16 := by rw [IntKind.wrap_i32]; omega
  have gb := bor16 a 11 h0 h1 (by decide) (by decide)
  unfold fr
  rw [hT, hC, hV]
  go_wp2_with fail
  exact RV25i rfl rfl rfl rfl rfl rfl rfl rfl rfl rfl rfl rfl hC.symm rfl rfl rfl rfl rfl rfl rfl rfl (by first | rfl | exact congrArg (Value.int .i32) gb | simp)
set_option maxRecDepth 100000 in
set_option maxHeartbeats 40000000 in
theorem dg_99 {w0 : World} {f : Nat → Value} {a : Int} {K' : Act → World → Prop} {Q' : Exit → Act → World → Prop}
    (hT : f 276 = .int .i32 99) (hC : f 27 = .int .i32 99) (hV : f 25 = .int .i32 a) (h0 : 0 ≤ a) (h1 : a ≤ 65535)
    (HK : ∀ (a' : Act) (w' : World), RV25 f (a * 16 + 12) w0 a' w' → K' a' w')
    : Code.wp Tryd.prog (blkOf 9 Tryd.f20) (Exit.then K' Q') (fr f) w0 := by
  conv => arg 2; whnf
  have gw : IntKind.i32.wrap (a * 16) = a * 16 := by rw [IntKind.wrap_i32]; omega
  have gb := bor16 a 12 h0 h1 (by decide) (by decide)
  unfold fr
  rw [hT, hC, hV]
  go_wp2_with fail
  exact RV25i rfl rfl rfl rfl rfl rfl rfl rfl rfl rfl rfl rfl hC.symm rfl rfl rfl rfl rfl rfl rfl rfl (by first | rfl | exact congrArg (Value.int .i32) gb | simp)
set_option maxRecDepth 100000 in
set_option maxHeartbeats 40000000 in
theorem dg_100 {w0 : World} {f : Nat → Value} {a : Int} {K' : Act → World → Prop} {Q' : Exit → Act → World → Prop}
    (hT : f 276 = .int .i32 100) (hC : f 27 = .int .i32 100) (hV : f 25 = .int .i32 a) (h0 : 0 ≤ a) (h1 : a ≤ 65535)
    (HK : ∀ (a' : Act) (w' : World), RV25 f (a * 16 + 13) w0 a' w' → K' a' w')
    : Code.wp Tryd.prog (blkOf 9 Tryd.f20) (Exit.then K' Q') (fr f) w0 := by
  conv => arg 2; whnf
  have gw : IntKind.i32.wrap (a * 16) = a * 16 := by rw [IntKind.wrap_i32]; omega
  have gb := bor16 a 13 h0 h1 (by decide) (by decide)
  unfold fr
  rw [hT, hC, hV]
  go_wp2_with fail
  exact RV25i rfl rfl rfl rfl rfl rfl rfl rfl rfl rfl rfl rfl hC.symm rfl rfl rfl rfl rfl rfl rfl rfl (by first | rfl | exact congrArg (Value.int .i32) gb | simp)
set_option maxRecDepth 100000 in
set_option maxHeartbeats 40000000 in
theorem dg_101 {w0 : World} {f : Nat → Value} {a : Int} {K' : Act → World → Prop} {Q' : Exit → Act → World → Prop}
    (hT : f 276 = .int .i32 101) (hC : f 27 = .int .i32 101) (hV : f 25 = .int .i32 a) (h0 : 0 ≤ a) (h1 : a ≤ 65535)
    (HK : ∀ (a' : Act) (w' : World), RV25 f (a * 16 + 14) w0 a' w' → K' a' w')
    : Code.wp Tryd.prog (blkOf 9 Tryd.f20) (Exit.then K' Q') (fr f) w0 := by
  conv => arg 2; whnf
  have gw : IntKind.i32.wrap (a * 16) = a * 16 := by rw [IntKind.wrap_i32]; omega
  have gb := bor16 a 14 h0 h1 (by decide) (by decide)
  unfold fr
  rw [hT, hC, hV]
  go_wp2_with fail
  exact RV25i rfl rfl rfl rfl rfl rfl rfl rfl rfl rfl rfl rfl hC.symm rfl rfl rfl rfl rfl rfl rfl rfl (by first | rfl | exact congrArg (Value.int .i32) gb | simp)
set_option maxRecDepth 100000 in
set_option maxHeartbeats 40000000 in
theorem dg_102 {w0 : World} {f : Nat → Value} {a : Int} {K' : Act → World → Prop} {Q' : Exit → Act → World → Prop}
    (hT : f 276 = .int .i32 102) (hC : f 27 = .int .i32 102) (hV : f 25 = .int .i32 a) (h0 : 0 ≤ a) (h1 : a ≤ 65535)
    (HK : ∀ (a' : Act) (w' : World), RV25 f (a * 16 + 15) w0 a' w' → K' a' w')
    : Code.wp Tryd.prog (blkOf 9 Tryd.f20) (Exit.then K' Q') (fr f) w0 := by
  conv => arg 2; whnf
  have gw : IntKind.i32.wrap (a * 16) = a * 16 := by rw [IntKind.wrap_i32]; omega
  have gb := bor16 a 15 h0 h1 (by decide) (by decide)
  unfold fr
  rw [hT, hC, hV]
  go_wp2_with fail
  exact RV25i rfl rfl rfl rfl rfl rfl rfl rfl rfl rfl rfl rfl hC.symm rfl rfl rfl rfl rfl rfl rfl rfl (by first | rfl | exact congrArg (Value.int .i32) gb | simp)
set_option maxRecDepth 100000 in
set_option maxHeartbeats 40000000 in
theorem dg_65 {w0 : World} {f : Nat → Value} {a : Int} {K' : Act → World → Prop} {Q' : Exit → Act → World → Prop}
    (hT : f 276 = .int .i32 65) (hC : f 27 = .int .i32 65) (hV : f 25 = .int .i32 a) (h0 : 0 ≤ a) (h1 : a ≤ 65535)
    (HK : ∀ (a' : Act) (w' : World), RV25 f (a * 16 + 10) w0 a' w' → K' a' w')
    : Code.wp Tryd.prog (blkOf 9 Tryd.f20) (Exit.then K' Q') (fr f) w0 := by
  conv => arg 2; whnf
  have gw : IntKind.i32.wrap (a * 16) = a * 16 := by rw [IntKind.wrap_i32]; omega
  have gb := bor16 a 10 h0 h1 (by decide) (by decide)
  unfold fr
  rw [hT, hC, hV]
  go_wp2_with fail
  exact RV25i rfl rfl rfl rfl rfl rfl rfl rfl rfl rfl rfl rfl hC.symm rfl rfl rfl rfl rfl rfl rfl rfl (by first | rfl | exact congrArg (Value.int .i32) gb | simp)
set_option maxRecDepth 100000 in
set_option maxHeartbeats 40000000 in
theorem dg_66 {w0 : World} {f : Nat → Value} {a : Int} {K' : Act → World → Prop} {Q' : Exit → Act → World → Prop}
    (hT : f 276 = .int .i32 66) (hC : f 27 = .int .i32 66) (hV : f 25 = .int .i32 a) (h0 : 0 ≤ a) (h1 : a ≤ 65535)
    (HK : ∀ (a' : Act) (w' : World), RV25 f (a * 16 + 11) w0 a' w' → K' a' w')
    : Code.wp Tryd.prog (blkOf 9 Tryd.f20) (Exit.then K' Q') (fr f) w0 := by
  conv => arg 2; whnf
  have gw : IntKind.i32.wrap (a * 16) = a * 16 := by rw [IntKind.wrap_i32]; omega
  have gb := bor16 a 11 h0 h1 (by decide) (by decide)
  unfold fr
  rw [hT, hC, hV]
  go_wp2_with fail
  exact RV25i rfl rfl rfl rfl rfl rfl rfl rfl rfl rfl rfl rfl hC.symm rfl rfl rfl rfl rfl rfl rfl rfl (by first | rfl | exact congrArg (Value.int .i32) gb | simp)
set_option maxRecDepth 100000 in
set_option maxHeartbeats 40000000 in
theorem dg_67 {w0 : World} {f : Nat → Value} {a : Int} {K' : Act → World → Prop} {Q' : Exit → Act → World → Prop}
    (hT : f 276 = .int .i32 67) (hC : f 27 = .int .i32 67) (hV : f 25 = .int .i32 a) (h0 : 0 ≤ a) (h1 : a ≤ 65535)
    (HK : ∀ (a' : Act) (w' : World), RV25 f (a * 16 + 12) w0 a' w' → K' a' w')
    : Code.wp Tryd.prog (blkOf 9 Tryd.f20) (Exit.then K' Q') (fr f) w0 := by
  conv => arg 2; whnf
  have gw : IntKind.i32.wrap (a * 16) = a * 16 := by rw [IntKind.wrap_i32]; omega
  have gb := bor16 a 12 h0 h1 (by decide) (by decide)
  unfold fr
  rw [hT, hC, hV]
  go_wp2_with fail
  exact RV25i rfl rfl rfl rfl rfl rfl rfl rfl rfl rfl rfl rfl hC.symm rfl rfl rfl rfl rfl rfl rfl rfl (by first | rfl | exact congrArg (Value.int .i32) gb | simp)
set_option maxRecDepth 100000 in
set_option maxHeartbeats 40000000 in
theorem dg_68 {w0 : World} {f : Nat → Value} {a : Int} {K' : Act → World → Prop} {Q' : Exit → Act → World → Prop}
    (hT : f 276 = .int .i32 68) (hC : f 27 = .int .i32 68) (hV : f 25 = .int .i32 a) (h0 : 0 ≤ a) (h1 : a ≤ 65535)
    (HK : ∀ (a' : Act) (w' : World), RV25 f (a * 16 + 13) w0 a' w' → K' a' w')
    : Code.wp Tryd.prog (blkOf 9 Tryd.f20) (Exit.then K' Q') (fr f) w0 := by
  conv => arg 2; whnf
  have gw : IntKind.i32.wrap (a * 16) = a * 16 := by rw [IntKind.wrap_i32]; omega
  have gb := bor16 a 13 h0 h1 (by decide) (by decide)
  unfold fr
  rw [hT, hC, hV]
  go_wp2_with fail
  exact RV25i rfl rfl rfl rfl rfl rfl rfl rfl rfl rfl rfl rfl hC.symm rfl rfl rfl rfl rfl rfl rfl rfl (by first | rfl | exact congrArg (Value.int .i32) gb | simp)
set_option maxRecDepth 100000 in
set_option maxHeartbeats 40000000 in
theorem dg_69 {w0 : World} {f : Nat → Value} {a : Int} {K' : Act → World → Prop} {Q' : Exit → Act → World → Prop}
    (hT : f 276 = .int .i32 69) (hC : f 27 = .int .i32 69) (hV : f 25 = .int .i32 a) (h0 : 0 ≤ a) (h1 : a ≤ 65535)
    (HK : ∀ (a' : Act) (w' : World), RV25 f (a * 16 + 14) w0 a' w' → K' a' w')
    : Code.wp Tryd.prog (blkOf 9 Tryd.f20) (Exit.then K' Q') (fr f) w0 := by
  conv => arg 2; whnf
  have gw : IntKind.i32.wrap (a * 16) = a * 16 := by rw [IntKind.wrap_i32]; omega
  have gb := bor16 a 14 h0 h1 (by decide) (by decide)
  unfold fr
  rw [hT, hC, hV]
  go_wp2_with fail
  exact RV25i rfl rfl rfl rfl rfl rfl rfl rfl rfl rfl rfl rfl hC.symm rfl rfl rfl rfl rfl rfl rfl rfl (by first | rfl | exact congrArg (Value.int .i32) gb | simp)
set_option maxRecDepth 100000 in
set_option maxHeartbeats 40000000 in
theorem dg_70 {w0 : World} {f : Nat → Value} {a : Int} {K' : Act → World → Prop} {Q' : Exit → Act → World → Prop}
    (hT : f 276 = .int .i32 70) (hC : f 27 = .int .i32 70) (hV : f 25 = .int .i32 a) (h0 : 0 ≤ a) (h1 : a ≤ 65535)
    (HK : ∀ (a' : Act) (w' : World), RV25 f (a * 16 + 15) w0 a' w' → K' a' w')
    : Code.wp Tryd.prog (blkOf 9 Tryd.f20) (Exit.then K' Q') (fr f) w0 := by
  conv => arg 2; whnf
  have gw : IntKind.i32.wrap (a * 16) = a * 16 := by rw [IntKind.wrap_i32]; omega
  have gb := bor16 a 15 h0 h1 (by decide) (by decide)
  unfold fr
  rw [hT, hC, hV]
  go_wp2_with fail
  exact RV25i rfl rfl rfl rfl rfl rfl rfl rfl rfl rfl rfl rfl hC.symm rfl rfl rfl rfl rfl rfl rfl rfl (by first | rfl | exact congrArg (Value.int .i32) gb | simp)
set_option maxRecDepth 100000 in
set_option maxHeartbeats 40000000 in
theorem dig {w0 : World} {f : Nat → Value} {a c x : Int} {K' : Act → World → Prop} {Q' : Exit → Act → World → Prop}
    (hT : f 276 = .int .i32 c) (hC : f 27 = .int .i32 c) (hV : f 25 = .int .i32 a) (h0 : 0 ≤ a) (h1 : a ≤ 65535) (hx : DG c x)
    (HK : ∀ (a' : Act) (w' : World), RV25 f (a * 16 + x) w0 a' w' → K' a' w')
    : Code.wp Tryd.prog (blkOf 9 Tryd.f20) (Exit.then K' Q') (fr f) w0 := by
  obtain ⟨⟨x0, x1⟩, hx⟩ := hx
  have hcs : x = 0 ∨ x = 1 ∨ x = 2 ∨ x = 3 ∨ x = 4 ∨ x = 5 ∨ x = 6 ∨ x = 7 ∨ x = 8 ∨ x = 9 ∨ x = 10 ∨ x = 11 ∨ x = 12 ∨ x = 13 ∨ x = 14 ∨ x = 15 := by omega
  rcases hcs with rfl | rfl | rfl | rfl | rfl | rfl | rfl | rfl | rfl | rfl | rfl | rfl | rfl | rfl | rfl | rfl
  · obtain rfl : c = 48 := by omega
    exact dg_48 hT hC hV h0 h1 HK
  · obtain rfl : c = 49 := by omega
    exact dg_49 hT hC hV h0 h1 HK
  · obtain rfl : c = 50 := by omega
    exact dg_50 hT hC hV h0 h1 HK
  · obtain rfl : c = 51 := by omega
    exact dg_51 hT hC hV h0 h1 HK
  · obtain rfl : c = 52 := by omega
    exact dg_52 hT hC hV h0 h1 HK
  · obtain rfl : c = 53 := by omega
    exact dg_53 hT hC hV h0 h1 HK
  · obtain rfl : c = 54 := by omega
    exact dg_54 hT hC hV h0 h1 HK
  · obtain rfl : c = 55 := by omega
    exact dg_55 hT hC hV h0 h1 HK
  · obtain rfl : c = 56 := by omega
    exact dg_56 hT hC hV h0 h1 HK
  · obtain rfl : c = 57 := by omega
    exact dg_57 hT hC hV h0 h1 HK
  · have hc : c = 97 ∨ c = 65 := by omega
    rcases hc with rfl | rfl
    · exact dg_97 hT hC hV h0 h1 HK
    · exact dg_65 hT hC hV h0 h1 HK
  · have hc : c = 98 ∨ c = 66 := by omega
    rcases hc with rfl | rfl
    · exact dg_98 hT hC hV h0 h1 HK
    · exact dg_66 hT hC hV h0 h1 HK
  · have hc : c = 99 ∨ c = 67 := by omega
    rcases hc with rfl | rfl
    · exact dg_99 hT hC hV h0 h1 HK
    · exact dg_67 hT hC hV h0 h1 HK
  · have hc : c = 100 ∨ c = 68 := by omega
    rcases hc with rfl | rfl
    · exact dg_100 hT hC hV h0 h1 HK
    · exact dg_68 hT hC hV h0 h1 HK
  · have hc : c = 101 ∨ c = 69 := by omega
    rcases hc with rfl | rfl
    · exact dg_101 hT hC hV h0 h1 HK
    · exact dg_69 hT hC hV h0 h1 HK
  · have hc : c = 102 ∨ c = 70 := by omega
    rcases hc with rfl | rfl
    · exact dg_102 hT hC hV h0 h1 HK
    · exact dg_70 hT hC hV h0 h1 HK
end Go.Proofs.YtalpfbbceggcaaaDoor.CwG9
