/- FnAdvanceImportTrackerTypeScriptOnlyExcusesNoMatch: ZZjsFile. -/
import Derived.Test.YtelcjpmaegacoaaDoorRows
import Derived.Test.YtelcjpmaegacoaaDoorMem
import Derived.Test.YtelcjpmaegacoaaDoorSl
import Derived.Test.YtelcjpmaegacoaaDoorAiA
import Derived.Great.BuildSlice
import Derived.Deep.DeepCutAuto
import Derived.Laws.Rows
import Derived.WalkKit
import Derived.ProofKit
import Derived.OpenShut
import Derived.Below
import Derived.WalkLawsBesides
import Derived.Lib.Hide
import Derived.Outline
import Derived.RegionTactic
import Derived.Deep.QuietTactic
import Derived.BigQuiet
import Derived.WalkSpells
import Derived.Deep.OwnRows
import Derived.IntWalk
import Derived.Deep.DeepMust
namespace Go.Proofs.YtelcjpmaegacoaaDoor.AiJ
open Go.RowKit Mem Sl
set_option linter.unusedVariables false
open Args Fvs AiP AiA

def c122 (I : Nat) (l : Int) : Array Value := #[.iface 36 (.pointer (some ⟨I, 0, none⟩)), .pointer none, .slice none 0 0, .string ⟨#[]⟩, .pointer none, .int .u8 0, .string ⟨#[]⟩, .string ⟨#[]⟩, .string ⟨#[]⟩, .string ⟨#[]⟩, .string ⟨#[]⟩, .string ⟨#[]⟩, .string ⟨#[]⟩, .string ⟨#[]⟩, .int .u8 0, .int .u32 0, .int .u8 l, .bool false]
def c125 (I : Nat) (l : Int) : Array Value := #[.slice none 0 0, .pointer none, .iface 36 (.pointer (some ⟨I, 0, none⟩)), .pointer none, .slice none 0 0, .string ⟨#[]⟩, .pointer none, .int .u8 0, .string ⟨#[]⟩, .string ⟨#[]⟩, .string ⟨#[]⟩, .string ⟨#[]⟩, .string ⟨#[]⟩, .string ⟨#[]⟩, .string ⟨#[]⟩, .string ⟨#[]⟩, .int .u8 0, .int .u32 0, .int .u8 l, .bool false, .int .u32 0, .int .u32 0, .int .u8 0, .bool false]
theorem built122 (I : Nat) (l : Int) : Tryd.prog.built 122 [(0, .iface 36 (.pointer (some ⟨I, 0, none⟩))), (6, .int .u8 l)] = some (c122 I l) := by kernel_rfl
theorem built125 (I : Nat) (l : Int) : Tryd.prog.built 125 [(2, .agg (c122 I l))] = some (c125 I l) := by kernel_rfl
set_option maxRecDepth 100000 in
set_option maxHeartbeats 4000000 in
theorem js11 (I : Nat) (l : Int) (w : World) : Calls Tryd.prog 11 #[.pointer (some ⟨I, 0, none⟩), .int .u8 l] w fun e w' => e = .returned (.agg (c125 I l)) ∧ Below w.heap.size w w' := by
  obtain ⟨C22, h22⟩ : ∃ x, x = c122 I l := ⟨_, rfl⟩
  obtain ⟨C25, h25⟩ : ∃ x, x = c125 I l := ⟨_, rfl⟩
  have H22 := Lib.hid h22
  have H25 := Lib.hid h25
  have hsz := Lib.hid (show (Tryd.prog.info? 125).map (·.size) = some C25.size from by rw [h25]; kernel_rfl)
  have h24 := Lib.hid (show C25.size = 24 from by rw [h25]; rfl)
  have hone := Lib.hid (show C25.all (·.oneCell') = true from by rw [h25]; kernel_rfl)
  have hold := Lib.hid (show Array.size (#[.slice none 0 0, .pointer none, .nilIface, .pointer none, .slice none 0 0, .string ⟨#[]⟩, .pointer none, .int .u8 0, .string ⟨#[]⟩, .string ⟨#[]⟩, .string ⟨#[]⟩, .string ⟨#[]⟩, .string ⟨#[]⟩, .string ⟨#[]⟩, .string ⟨#[]⟩, .string ⟨#[]⟩, .int .u8 0, .int .u32 0, .int .u8 0, .bool false, .int .u32 0, .int .u32 0, .int .u8 0, .bool false] : Array Value) = C25.size from by rw [h24.out]; rfl)
  rw [← h25]
  clear h22 h25
  go_enter Tryd.func11, Tryd.ntmps11
  go_upto_region 1 with fail
  obtain ⟨w1, hw1⟩ : ∃ w1, w1 = w.alloc (.cells #[.slice none 0 0, .pointer none, .nilIface, .pointer none, .slice none 0 0, .string ⟨#[]⟩, .pointer none, .int .u8 0, .string ⟨#[]⟩, .string ⟨#[]⟩, .string ⟨#[]⟩, .string ⟨#[]⟩, .string ⟨#[]⟩, .string ⟨#[]⟩, .string ⟨#[]⟩, .string ⟨#[]⟩, .int .u8 0, .int .u32 0, .int .u8 0, .bool false, .int .u32 0, .int .u32 0, .int .u8 0, .bool false] 125) := ⟨_, rfl⟩
  have hh : w1.heap[w.heap.size]? = some (.cells #[.slice none 0 0, .pointer none, .nilIface, .pointer none, .slice none 0 0, .string ⟨#[]⟩, .pointer none, .int .u8 0, .string ⟨#[]⟩, .string ⟨#[]⟩, .string ⟨#[]⟩, .string ⟨#[]⟩, .string ⟨#[]⟩, .string ⟨#[]⟩, .string ⟨#[]⟩, .string ⟨#[]⟩, .int .u8 0, .int .u32 0, .int .u8 0, .bool false, .int .u32 0, .int .u32 0, .int .u8 0, .bool false] 125 (0, 0)) := by rw [hw1]; exact heap_alloc_new w _
  have hb : Below w.heap.size w w1 := by rw [hw1]; exact (Below.refl _ _).alloc (Nat.le_refl _) _
  rw [← hw1]
  have HH := Lib.hid hh
  have HB := Lib.hid hb
  clear hw1 hh hb
  go_wp2_with (first | (refine wpList_buildTo rfl 122 _ rfl (some 8) rfl C22 (by rewrite [H22.out]; kernel_rfl) ?_) | (refine wpList_buildTo rfl 125 _ rfl (some 9) rfl C25 (by rewrite [H22.out, H25.out]; kernel_rfl) ?_) | (refine wpList_store_rowTo rfl 125 _ _ rfl rfl w.heap.size C25 rfl rfl 125 _ HH.out hsz.out hold.out hone.out ?_))
  refine bodyPost_ret (v := .agg C25) (results_cell_row rfl _ _ w.heap.size 125 C25 (0, 0) _ rfl (setRow_heap w1 w.heap.size _ C25 125 (0, 0) HH.out) Tryd.underlying125 rfl hsz.out) rfl ⟨rfl, ⟨HB.out.os, HB.out.tape, HB.out.output, by simpa using HB.out.size, fun j hj => (setRow_other _ _ _ _ (by omega)).trans (HB.out.block j hj)⟩⟩
end Go.Proofs.YtelcjpmaegacoaaDoor.AiJ
