/- FnAdvanceImportTrackerTypeScriptOnlyExcusesNoMatch; zero cells, keys, small functions. -/
import Derived.Test.YtelcjpmaegacoaaDoorRows
import Derived.Test.YtelcjpmaegacoaaDoorMem
import Derived.Test.YtelcjpmaegacoaaDoorSl
import Derived.Test.YtelcjpmaegacoaaDoorAiA
import Derived.Test.YtelcjpmaegacoaaDoorMapK
import Derived.Great.BuildSlice
import Derived.Deep.RegionHeld3
import Derived.Deep.RegionLaw
import Derived.Carry
import Derived.WalkKit
import Derived.ProofKit
import Derived.OpenShut
import Derived.Below
import Derived.WalkLawsBesides
import Derived.Lib.Hide
import Derived.Outline
import Derived.RegionTactic
import Derived.Deep.QuietTactic
import Derived.BigQuiet
import Derived.WalkSpells
import Derived.Deep.OwnRows
import Derived.IntWalk
import Derived.Deep.DeepMust
namespace Go.Proofs.YtelcjpmaegacoaaDoor.AiC
open Go.RowKit Mem Sl
set_option linter.unusedVariables false
open Args Fvs AiP AiA MapK Go.Maps

noncomputable def c82 : Array Value := (Tryd.prog.built 82 []).getD #[]
theorem built82 : Tryd.prog.built 82 [] = some c82 := by kernel_rfl
theorem c82_size : c82.size = 64 := by kernel_rfl
theorem c82_at : c82[36]? = some (.map none) ∧ c82[35]? = some (.slice none 0 0) ∧ c82[59]? = some (.bool false) ∧ c82[43]? = some (.int .i32 0) ∧ c82[60]? = some (.bool false) ∧ c82[61]? = some (.bool false) ∧ c82[62]? = some (.int .u8 0) ∧ c82[48]? = some (.int .u32 0) ∧ c82[49]? = some (.int .u32 0) ∧ c82[2]? = some (.map none) ∧ c82[3]? = some (.pointer none) :=
  ⟨by kernel_rfl, by kernel_rfl, by kernel_rfl, by kernel_rfl, by kernel_rfl, by kernel_rfl, by kernel_rfl, by kernel_rfl, by kernel_rfl, by kernel_rfl, by kernel_rfl⟩
theorem keyed31 : Keyed Tryd.prog 31 := Keyed.of_law (deep_law_laid (by kernel_rfl) (m := 5) (by decide) (by decide +kernel) (by kernel_rfl) (by kernel_rfl))
theorem keyed9 : Keyed Tryd.prog 9 := string_keyed Tryd.underlying9
theorem key_str (x : ByteArray) (h : x.size ≤ maxLen) : KeyV Tryd.prog 9 (.string x) := by
  unfold KeyV keyOf
  simp [Tryd.underlying9, mapKey]
  exact h
theorem key_zero : KeyV Tryd.prog 31 (.agg #[.int .u32 0, .int .u32 0]) := by
  have k1 : Tryd.prog.keyType 31 = true := by kernel_rfl
  have k2 : (Value.agg #[.int .u32 0, .int .u32 0]).formed Tryd.prog 31 = true := by kernel_rfl
  have k3 : Tryd.prog.cellsOf 31 = 2 := by kernel_rfl
  have k4 : Tryd.prog.cellsOf 29 = 1 := by kernel_rfl
  have k5 : 1 ≤ Tryd.prog.types.size := Nat.le_of_ble_eq_true (by kernel_rfl)
  have hw0 : (Lit.int .u32 0).wf = true := by decide
  obtain ⟨m, hm⟩ : ∃ m, Tryd.prog.types.size + 1 = m + 1 + 1 := ⟨Tryd.prog.types.size - 1, by omega⟩
  unfold KeyV keyOf
  rw [k1, k2, hm]
  simp [Tryd.underlying31, Program.keyLits, Tryd.underlying29, k3, k4, Value.cells, hw0]
/-- The import that is asked for. -/
def imp (p : Pa) : Value := .agg #[.string p.al, .slice none 0 0, .int .i32 0, .int .u32 0, .int .u32 0, .int .u32 0, .bool p.star, .bool p.exp]
theorem made82 (w : World) : Fv (w.alloc (.cells c82 82)) w.heap.size 64 (fun i => (c82[i]?).getD undef) := by
  have hr := Row.newArr w 82 c82
  refine ⟨hr.lt, fun i hi => ?_, fun i => hr.frozen i⟩
  have h1 : c82.toList[i]? = some ((c82[i]?).getD undef) := by
    rw [Array.getElem?_toList, Array.getElem?_eq_getElem (by rw [c82_size]; exact hi)]; rfl
  exact hr.at_ h1
theorem idx10 (w : World) : Calls Tryd.prog 10 #[.int .u32 1] w fun e w' => e = .returned (.agg #[.int .u32 4294967294]) ∧ Below w.heap.size w w' := by
  have HB := Lib.hid (Below.refl w.heap.size w)
  have hx : bits BinOp.xor IntKind.u32 IntKind.u32.max 1 = 4294967294 := by decide +kernel
  go_enter Tryd.func10, Tryd.ntmps10
  go_wp2
  refine bodyPost_ret (v := .agg #[.int .u32 4294967294]) (by simp [results, Tryd.results10, go_sem]) rfl ⟨rfl, ?_⟩
  exact HB.out.alloc (Nat.le_refl _) _
end Go.Proofs.YtelcjpmaegacoaaDoor.AiC
