/- FnCookedAndRawTemplateContentsWhole: the decoder, what a digit does. -/
import Derived.Test.YtalpfbbceggcaaaDoorCwN
import Derived.WalkKit
import Derived.ProofKit
import Derived.OpenShut
import Derived.Below
import Derived.WalkLawsBesides
import Derived.Lib.Hide
import Derived.Outline
import Derived.RegionTactic
import Derived.Deep.QuietTactic
import Derived.BigQuiet
import Derived.WalkSpells
import Derived.Deep.OwnRows
import Derived.IntWalk
import Derived.Deep.DeepMust
namespace Go.Proofs.YtalpfbbceggcaaaDoor.CwO
open Go.RowKit Mem Args Own Prn Str Dec Step CwP CwG CwK CwM CwU CwN
set_option linter.unusedVariables false
/-- The character c is the digit x. -/
def DG (c x : Int) : Prop := (0 ≤ x ∧ x < 16) ∧ (c = 48 + x ∧ x < 10 ∨ c = 87 + x ∧ 10 ≤ x ∨ c = 55 + x ∧ 10 ≤ x)
def RV25 (f : Nat → Value) (b : Int) (w0 : World) (a' : Act) (w' : World) : Prop := ∃ g, g 0 = f 0 ∧ g 1 = f 1 ∧ g 2 = f 2 ∧ g 3 = f 3 ∧ g 11 = f 11 ∧ g 12 = f 12 ∧ g 14 = f 14 ∧ g 15 = f 15 ∧ g 16 = f 16 ∧ g 26 = f 26 ∧ g 27 = f 27 ∧ g 28 = f 28 ∧ g 29 = f 29 ∧ g 30 = f 30 ∧ g 31 = f 31 ∧ g 32 = f 32 ∧ g 33 = f 33 ∧ g 34 = f 34 ∧ g 35 = f 35 ∧ g 25 = .int .i32 b ∧ w' = w0 ∧ a' = fr g
theorem RV25i {f : Nat → Value} {b : Int} {w0 : World} {a' : Act} (hs : a'.tmps.toList.length = 567) (hd : a'.defers = []) (h0 : a'.tmps.toList.getD 0 undef = f 0) (h1 : a'.tmps.toList.getD 1 undef = f 1) (h2 : a'.tmps.toList.getD 2 undef = f 2) (h3 : a'.tmps.toList.getD 3 undef = f 3) (h11 : a'.tmps.toList.getD 11 undef = f 11) (h12 : a'.tmps.toList.getD 12 undef = f 12) (h14 : a'.tmps.toList.getD 14 undef = f 14) (h15 : a'.tmps.toList.getD 15 undef = f 15) (h16 : a'.tmps.toList.getD 16 undef = f 16) (h26 : a'.tmps.toList.getD 26 undef = f 26) (h27 : a'.tmps.toList.getD 27 undef = f 27) (h28 : a'.tmps.toList.getD 28 undef = f 28) (h29 : a'.tmps.toList.getD 29 undef = f 29) (h30 : a'.tmps.toList.getD 30 undef = f 30) (h31 : a'.tmps.toList.getD 31 undef = f 31) (h32 : a'.tmps.toList.getD 32 undef = f 32) (h33 : a'.tmps.toList.getD 33 undef = f 33) (h34 : a'.tmps.toList.getD 34 undef = f 34) (h35 : a'.tmps.toList.getD 35 undef = f 35) (hv : a'.tmps.toList.getD 25 undef = .int .i32 b) : RV25 f b w0 a' w0 := ⟨_, h0, h1, h2, h3, h11, h12, h14, h15, h16, h26, h27, h28, h29, h30, h31, h32, h33, h34, h35, hv, rfl, fr_of a' hs hd⟩
def RV29 (f : Nat → Value) (b : Int) (w0 : World) (a' : Act) (w' : World) : Prop := ∃ g, g 0 = f 0 ∧ g 1 = f 1 ∧ g 2 = f 2 ∧ g 3 = f 3 ∧ g 11 = f 11 ∧ g 12 = f 12 ∧ g 14 = f 14 ∧ g 15 = f 15 ∧ g 16 = f 16 ∧ g 25 = f 25 ∧ g 26 = f 26 ∧ g 27 = f 27 ∧ g 28 = f 28 ∧ g 30 = f 30 ∧ g 31 = f 31 ∧ g 32 = f 32 ∧ g 33 = f 33 ∧ g 34 = f 34 ∧ g 35 = f 35 ∧ g 29 = .int .i32 b ∧ w' = w0 ∧ a' = fr g
theorem RV29i {f : Nat → Value} {b : Int} {w0 : World} {a' : Act} (hs : a'.tmps.toList.length = 567) (hd : a'.defers = []) (h0 : a'.tmps.toList.getD 0 undef = f 0) (h1 : a'.tmps.toList.getD 1 undef = f 1) (h2 : a'.tmps.toList.getD 2 undef = f 2) (h3 : a'.tmps.toList.getD 3 undef = f 3) (h11 : a'.tmps.toList.getD 11 undef = f 11) (h12 : a'.tmps.toList.getD 12 undef = f 12) (h14 : a'.tmps.toList.getD 14 undef = f 14) (h15 : a'.tmps.toList.getD 15 undef = f 15) (h16 : a'.tmps.toList.getD 16 undef = f 16) (h25 : a'.tmps.toList.getD 25 undef = f 25) (h26 : a'.tmps.toList.getD 26 undef = f 26) (h27 : a'.tmps.toList.getD 27 undef = f 27) (h28 : a'.tmps.toList.getD 28 undef = f 28) (h30 : a'.tmps.toList.getD 30 undef = f 30) (h31 : a'.tmps.toList.getD 31 undef = f 31) (h32 : a'.tmps.toList.getD 32 undef = f 32) (h33 : a'.tmps.toList.getD 33 undef = f 33) (h34 : a'.tmps.toList.getD 34 undef = f 34) (h35 : a'.tmps.toList.getD 35 undef = f 35) (hv : a'.tmps.toList.getD 29 undef = .int .i32 b) : RV29 f b w0 a' w0 := ⟨_, h0, h1, h2, h3, h11, h12, h14, h15, h16, h25, h26, h27, h28, h30, h31, h32, h33, h34, h35, hv, rfl, fr_of a' hs hd⟩
end Go.Proofs.YtalpfbbceggcaaaDoor.CwO
