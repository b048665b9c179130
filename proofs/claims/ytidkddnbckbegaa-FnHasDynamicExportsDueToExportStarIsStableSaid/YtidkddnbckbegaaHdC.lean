/- FnHasDynamicExportsDueToExportStarIsStable: zero cells, ZZjsFile, ZZnewLinker. -/
import Derived.Test.YtidkddnbckbegaaRows
import Derived.Test.YtidkddnbckbegaaMem
import Derived.Test.YtidkddnbckbegaaSl
import Derived.Test.YtidkddnbckbegaaHdA
import Derived.Great.BuildSlice
import Derived.Deep.DeepCutAuto
import Derived.Laws.Rows
import Derived.WalkKit
import Derived.ProofKit
import Derived.OpenShut
import Derived.Below
import Derived.WalkLawsBesides
import Derived.Lib.Hide
import Derived.Outline
import Derived.RegionTactic
import Derived.Deep.QuietTactic
import Derived.BigQuiet
import Derived.WalkSpells
import Derived.Deep.OwnRows
import Derived.IntWalk
import Derived.Deep.DeepMust
namespace Go.Proofs.Ytidkddnbckbegaa.HdC
open Go.RowKit Mem Sl
set_option linter.unusedVariables false
open Args Fvs HdP HdA

noncomputable def c83 : Array Value := (Try.prog.built 83 []).getD #[]
theorem built83 : Try.prog.built 83 [] = some c83 := by kernel_rfl
theorem c83_size : c83.size = 64 := by kernel_rfl
theorem c83_at : c83[35]? = some (.slice none 0 0) ∧ c83[38]? = some (.slice none 0 0) ∧ c83[62]? = some (.int .u8 0) :=
  ⟨by kernel_rfl, by kernel_rfl, by kernel_rfl⟩
theorem made83 (w : World) : Fv (w.alloc (.cells c83 83)) w.heap.size 64 (fun i => (c83[i]?).getD undef) := by
  have hr := Row.newArr w 83 c83
  refine ⟨hr.lt, fun i hi => ?_, fun i => hr.frozen i⟩
  have h1 : c83.toList[i]? = some ((c83[i]?).getD undef) := by
    rw [Array.getElem?_toList, Array.getElem?_eq_getElem (by rw [c83_size]; exact hi)]; rfl
  exact hr.at_ h1
noncomputable def c190 (g F : Nat) (n : Nat) : Array Value := (Try.prog.built 190 [(0, .pointer (some ⟨g, 0, none⟩)), (5, .agg ((Try.prog.built 172 [(0, .slice (some ⟨F, 0, none⟩) n n)]).getD #[]))]).getD #[]
noncomputable def c172 (F : Nat) (n : Nat) : Array Value := (Try.prog.built 172 [(0, .slice (some ⟨F, 0, none⟩) n n)]).getD #[]
noncomputable def c166 : Array Value := (Try.prog.built 166 []).getD #[]
theorem c190_10 (g F : Nat) (n : Nat) : (c190 g F n).toList[10]? = some (.slice (some ⟨F, 0, none⟩) n n) := by kernel_rfl
set_option maxRecDepth 100000 in
set_option maxHeartbeats 4000000 in
theorem link7 (F n : Nat) (w : World) : Calls Try.prog 7 #[.slice (some ⟨F, 0, none⟩) n n] w fun e w' => (∃ c, e = .returned (.pointer (some ⟨c, 0, none⟩)) ∧ w'.cell? ⟨c, 10, none⟩ = some (.slice (some ⟨F, 0, none⟩) n n) ∧ w.heap.size ≤ c ∧ c < w'.heap.size) ∧ Below w.heap.size w w' := by
  go_enter Try.func7, Try.ntmps7
  go_wp2_with (first | (refine wpList_buildTo rfl 166 _ rfl (some 3) rfl c166 (by kernel_rfl) ?_) | (refine wpList_buildTo rfl 172 _ rfl (some 6) rfl (c172 F n) (by kernel_rfl) ?_) | (refine wpList_buildTo rfl 190 _ rfl (some 7) rfl (c190 w.heap.size F n) (by kernel_rfl) ?_))
  go_ret
  have r := Row.newArr (w.alloc (.cells c166 166)) 190 (c190 w.heap.size F n)
  simp only [World.size_alloc] at r
  exact ⟨⟨_, rfl, r.at_ (i := 10) (c190_10 _ _ _), by omega, r.lt⟩, ((Below.refl _ _).alloc (Nat.le_refl _) _).alloc (by simp) _⟩
def c120 (I : Nat) : Array Value := #[.iface 84 (.pointer (some ⟨I, 0, none⟩)), .pointer none, .slice none 0 0, .string ⟨#[]⟩, .pointer none, .int .u8 0, .string ⟨#[]⟩, .string ⟨#[]⟩, .string ⟨#[]⟩, .string ⟨#[]⟩, .string ⟨#[]⟩, .string ⟨#[]⟩, .string ⟨#[]⟩, .string ⟨#[]⟩, .int .u8 0, .int .u32 0, .int .u8 10, .bool false]
def c123 (I : Nat) : Array Value := #[.slice none 0 0, .pointer none, .iface 84 (.pointer (some ⟨I, 0, none⟩)), .pointer none, .slice none 0 0, .string ⟨#[]⟩, .pointer none, .int .u8 0, .string ⟨#[]⟩, .string ⟨#[]⟩, .string ⟨#[]⟩, .string ⟨#[]⟩, .string ⟨#[]⟩, .string ⟨#[]⟩, .string ⟨#[]⟩, .string ⟨#[]⟩, .int .u8 0, .int .u32 0, .int .u8 10, .bool false, .int .u32 0, .int .u32 0, .int .u8 0, .bool false]
theorem built120 (I : Nat) : Try.prog.built 120 [(0, .iface 84 (.pointer (some ⟨I, 0, none⟩))), (6, .int .u8 10)] = some (c120 I) := by kernel_rfl
theorem built123 (I : Nat) : Try.prog.built 123 [(2, .agg (c120 I))] = some (c123 I) := by kernel_rfl
theorem c123_one (I : Nat) : (c123 I).all (·.oneCell') = true := by kernel_rfl
theorem c123_at (I : Nat) : (c123 I).toList[2]? = some (.iface 84 (.pointer (some ⟨I, 0, none⟩))) ∧ (c123 I).toList[22]? = some (.int .u8 0) ∧ (c123 I).size = 24 ∧ (Try.prog.info? 123).map (·.size) = some (c123 I).size := ⟨by kernel_rfl, by kernel_rfl, by kernel_rfl, by kernel_rfl⟩
set_option maxRecDepth 100000 in
set_option maxHeartbeats 4000000 in
theorem js10 (I : Nat) (w : World) : Calls Try.prog 10 #[.pointer (some ⟨I, 0, none⟩), .int .u8 10] w fun e w' => e = .returned (.agg (c123 I)) ∧ Below w.heap.size w w' := by
  obtain ⟨C22, h22⟩ : ∃ x, x = c120 I := ⟨_, rfl⟩
  obtain ⟨C25, h25⟩ : ∃ x, x = c123 I := ⟨_, rfl⟩
  have H22 := Lib.hid h22
  have H25 := Lib.hid h25
  have hsz := Lib.hid (show (Try.prog.info? 123).map (·.size) = some C25.size from by rw [h25]; kernel_rfl)
  have h24 := Lib.hid (show C25.size = 24 from by rw [h25]; rfl)
  have hone := Lib.hid (show C25.all (·.oneCell') = true from by rw [h25]; kernel_rfl)
  have hold := Lib.hid (show Array.size (#[.slice none 0 0, .pointer none, .nilIface, .pointer none, .slice none 0 0, .string ⟨#[]⟩, .pointer none, .int .u8 0, .string ⟨#[]⟩, .string ⟨#[]⟩, .string ⟨#[]⟩, .string ⟨#[]⟩, .string ⟨#[]⟩, .string ⟨#[]⟩, .string ⟨#[]⟩, .string ⟨#[]⟩, .int .u8 0, .int .u32 0, .int .u8 0, .bool false, .int .u32 0, .int .u32 0, .int .u8 0, .bool false] : Array Value) = C25.size from by rw [h24.out]; rfl)
  rw [← h25]
  clear h22 h25
  go_enter Try.func10, Try.ntmps10
  go_upto_region 1 with fail
  obtain ⟨w1, hw1⟩ : ∃ w1, w1 = w.alloc (.cells #[.slice none 0 0, .pointer none, .nilIface, .pointer none, .slice none 0 0, .string ⟨#[]⟩, .pointer none, .int .u8 0, .string ⟨#[]⟩, .string ⟨#[]⟩, .string ⟨#[]⟩, .string ⟨#[]⟩, .string ⟨#[]⟩, .string ⟨#[]⟩, .string ⟨#[]⟩, .string ⟨#[]⟩, .int .u8 0, .int .u32 0, .int .u8 0, .bool false, .int .u32 0, .int .u32 0, .int .u8 0, .bool false] 123) := ⟨_, rfl⟩
  have hh : w1.heap[w.heap.size]? = some (.cells #[.slice none 0 0, .pointer none, .nilIface, .pointer none, .slice none 0 0, .string ⟨#[]⟩, .pointer none, .int .u8 0, .string ⟨#[]⟩, .string ⟨#[]⟩, .string ⟨#[]⟩, .string ⟨#[]⟩, .string ⟨#[]⟩, .string ⟨#[]⟩, .string ⟨#[]⟩, .string ⟨#[]⟩, .int .u8 0, .int .u32 0, .int .u8 0, .bool false, .int .u32 0, .int .u32 0, .int .u8 0, .bool false] 123 (0, 0)) := by rw [hw1]; exact heap_alloc_new w _
  have hb : Below w.heap.size w w1 := by rw [hw1]; exact (Below.refl _ _).alloc (Nat.le_refl _) _
  rw [← hw1]
  have HH := Lib.hid hh
  have HB := Lib.hid hb
  clear hw1 hh hb
  go_wp2_with (first | (refine wpList_buildTo rfl 120 _ rfl (some 8) rfl C22 (by rewrite [H22.out]; kernel_rfl) ?_) | (refine wpList_buildTo rfl 123 _ rfl (some 9) rfl C25 (by rewrite [H22.out, H25.out]; kernel_rfl) ?_) | (refine wpList_store_rowTo rfl 123 _ _ rfl rfl w.heap.size C25 rfl rfl 123 _ HH.out hsz.out hold.out hone.out ?_))
  refine bodyPost_ret (v := .agg C25) (results_cell_row rfl _ _ w.heap.size 123 C25 (0, 0) _ rfl (setRow_heap w1 w.heap.size _ C25 123 (0, 0) HH.out) Try.underlying123 rfl hsz.out) rfl ⟨rfl, ⟨HB.out.os, HB.out.tape, HB.out.output, by simpa using HB.out.size, fun j hj => (setRow_other _ _ _ _ (by omega)).trans (HB.out.block j hj)⟩⟩
end Go.Proofs.Ytidkddnbckbegaa.HdC
