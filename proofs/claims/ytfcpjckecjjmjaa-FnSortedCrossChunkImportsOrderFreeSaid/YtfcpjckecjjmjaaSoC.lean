/- FnSortedCrossChunkImportsOrderFree: a chunk, a context. -/
import Derived.Test.YtfcpjckecjjmjaaSoG
import Derived.Great.BuildSlice
import Derived.Deep.DeepCutAuto
import Derived.Laws.Rows
import Derived.WalkKit
import Derived.ProofKit
import Derived.OpenShut
import Derived.Below
import Derived.WalkLawsBesides
import Derived.Lib.Hide
import Derived.Outline
import Derived.RegionTactic
import Derived.Deep.QuietTactic
import Derived.BigQuiet
import Derived.WalkSpells
import Derived.Deep.OwnRows
import Derived.IntWalk
import Derived.Deep.DeepMust
namespace Go.Proofs.Ytfcpjckecjjmjaa.SoC
open Go.RowKit Go.MapKept Go.Maps Mem Args Fvs Fxs Tab MapK SoG
set_option linter.unusedVariables false

def c70 (p : Nat) : Array Value := #[.string ⟨#[]⟩, .map none, .slice none 0 0, .slice none 0 0, .iface 75 (.pointer (some ⟨p, 0, none⟩)), .slice none 0 0, .string ⟨#[]⟩, .slice none 0 0, .nilFunc, .nilFunc, .slice none 0 0, .slice none 0 0, .slice none 0 0, .slice none 0 0, .slice none 0 0, .slice none 0 0, .int .u32 0, .int .u8 0, .int .u64 0, .int .u32 0, .bool false, .bool false]
noncomputable def c79 (M : Option Nat) : Array Value := (Try.prog.built 79 [(2, .map M)]).getD #[]
noncomputable def c105 (K n c : Nat) : Array Value := (Try.prog.built 105 [(6, .slice (some ⟨K, 0, none⟩) n c)]).getD #[]
theorem built70 (p : Nat) : Try.prog.built 70 [(4, .iface 75 (.pointer (some ⟨p, 0, none⟩)))] = some (c70 p) := by kernel_rfl
theorem built79 (M : Option Nat) : Try.prog.built 79 [(2, .map M)] = some (c79 M) := by kernel_rfl
theorem built105 (K n c : Nat) : Try.prog.built 105 [(6, .slice (some ⟨K, 0, none⟩) n c)] = some (c105 K n c) := by kernel_rfl
theorem c79_at (M : Option Nat) : (c79 M).toList[2]? = some (.map M) := by kernel_rfl
theorem c105_at (K n c : Nat) : (c105 K n c).toList[17]? = some (.slice (some ⟨K, 0, none⟩) n c) := by kernel_rfl
theorem c70_at (p : Nat) : (c70 p).toList[4]? = some (.iface 75 (.pointer (some ⟨p, 0, none⟩))) := rfl
/-- The chunk's representation in block p names the map M. -/
def Js (w : World) (p : Nat) (M : Option Nat) : Prop := p < w.heap.size ∧ w.cell? ⟨p, 2, none⟩ = some (.map M)
theorem Js.below {B p : Nat} {w w' : World} {M : Option Nat} (h : Js w p M) (hb : Below B w w') (hp : p < B) : Js w' p M := ⟨Nat.lt_of_lt_of_le h.1 hb.size, (hb.cell (p := ⟨p, 2, none⟩) hp).trans h.2⟩
set_option maxRecDepth 100000 in
set_option maxHeartbeats 4000000 in
theorem js14 (M : Option Nat) (w : World) : Calls Try.prog 14 #[.map M] w fun e w' => (∃ p, e = .returned (.agg (c70 p)) ∧ w.heap.size ≤ p ∧ Js w' p M) ∧ Below w.heap.size w w' := by
  obtain ⟨C79, h79⟩ : ∃ x, x = c79 M := ⟨_, rfl⟩
  have H79 := Lib.hid h79
  have AT := Lib.hid (show C79.toList[2]? = some (.map M) from by rw [h79]; exact c79_at M)
  clear h79
  go_enter Try.func14, Try.ntmps14
  go_upto_region 1 with fail
  obtain ⟨w1, hw1⟩ : ∃ w1, w1 = w.alloc (.cells #[.string ⟨#[]⟩, .map none, .slice none 0 0, .slice none 0 0, .nilIface, .slice none 0 0, .string ⟨#[]⟩, .slice none 0 0, .nilFunc, .nilFunc, .slice none 0 0, .slice none 0 0, .slice none 0 0, .slice none 0 0, .slice none 0 0, .slice none 0 0, .int .u32 0, .int .u8 0, .int .u64 0, .int .u32 0, .bool false, .bool false] 70) := ⟨_, rfl⟩
  have hh : w1.heap[w.heap.size]? = some (.cells #[.string ⟨#[]⟩, .map none, .slice none 0 0, .slice none 0 0, .nilIface, .slice none 0 0, .string ⟨#[]⟩, .slice none 0 0, .nilFunc, .nilFunc, .slice none 0 0, .slice none 0 0, .slice none 0 0, .slice none 0 0, .slice none 0 0, .slice none 0 0, .int .u32 0, .int .u8 0, .int .u64 0, .int .u32 0, .bool false, .bool false] 70 (0, 0)) := by rw [hw1]; exact heap_alloc_new w _
  have hb : Below w.heap.size w w1 := by rw [hw1]; exact (Below.refl _ _).alloc (Nat.le_refl _) _
  have hz : w1.heap.size = w.heap.size + 1 := by rw [hw1]; simp
  rw [← hw1]
  obtain ⟨w2, hw2⟩ : ∃ w2, w2 = w1.alloc (.cells C79 79) := ⟨_, rfl⟩
  have hh2 : w2.heap[w.heap.size]? = some (.cells #[.string ⟨#[]⟩, .map none, .slice none 0 0, .slice none 0 0, .nilIface, .slice none 0 0, .string ⟨#[]⟩, .slice none 0 0, .nilFunc, .nilFunc, .slice none 0 0, .slice none 0 0, .slice none 0 0, .slice none 0 0, .slice none 0 0, .slice none 0 0, .int .u32 0, .int .u8 0, .int .u64 0, .int .u32 0, .bool false, .bool false] 70 (0, 0)) := by rw [hw2]; exact (Below.heap_alloc w1 _ _ (by omega)).trans hh
  have hb2 : Below w.heap.size w w2 := by rw [hw2]; exact hb.alloc (by omega) _
  have hj : Js w2 w1.heap.size M := by
    have r := Row.newArr w1 79 C79
    rw [hw2]
    exact ⟨r.lt, r.at_ (i := 2) AT.out⟩
  obtain ⟨p, hp⟩ : ∃ p, p = w1.heap.size := ⟨_, rfl⟩
  obtain ⟨C70, h70⟩ : ∃ x, x = c70 p := ⟨_, rfl⟩
  have hsz := Lib.hid (show (Try.prog.info? 70).map (·.size) = some C70.size from by rw [h70]; kernel_rfl)
  have hone := Lib.hid (show C70.all (·.oneCell') = true from by rw [h70]; kernel_rfl)
  have hold := Lib.hid (show Array.size (#[.string ⟨#[]⟩, .map none, .slice none 0 0, .slice none 0 0, .nilIface, .slice none 0 0, .string ⟨#[]⟩, .slice none 0 0, .nilFunc, .nilFunc, .slice none 0 0, .slice none 0 0, .slice none 0 0, .slice none 0 0, .slice none 0 0, .slice none 0 0, .int .u32 0, .int .u8 0, .int .u64 0, .int .u32 0, .bool false, .bool false] : Array Value) = C70.size from by rw [h70]; rfl)
  have HH := Lib.hid hh2
  have HB := Lib.hid hb2
  have HJ := Lib.hid hj
  have HP := Lib.hid hp
  have H70 := Lib.hid h70
  have HW := Lib.hid hw2
  have HZ := Lib.hid hz
  clear hw1 hh hb hh2 hb2 hj hp h70 hw2 hz
  go_wp2_with (first | (refine wpList_buildTo rfl 79 _ rfl (some 4) rfl C79 (by rewrite [H79.out]; kernel_rfl) ?_) | (refine wpList_buildTo rfl 70 _ rfl (some 7) rfl C70 (by rewrite [H70.out, HP.out]; kernel_rfl) ?_; rw [← HW.out]) | (refine wpList_store_rowTo rfl 70 _ _ rfl rfl w.heap.size C70 rfl rfl 70 _ HH.out hsz.out hold.out hone.out ?_))
  refine bodyPost_ret (v := .agg C70) (results_cell_row rfl _ _ w.heap.size 70 C70 (0, 0) _ rfl (setRow_heap w2 w.heap.size _ C70 70 (0, 0) HH.out) Try.underlying70 rfl hsz.out) rfl ⟨⟨p, by rw [H70.out], by rw [HP.out, HZ.out]; omega, ?_⟩, ⟨HB.out.os, HB.out.tape, HB.out.output, by simpa using HB.out.size, fun j hj => (setRow_other _ _ _ _ (by omega)).trans (HB.out.block j hj)⟩⟩
  have hj := HJ.out
  rw [← HP.out] at hj
  have he : (w2.setRow w.heap.size C70).heap[p]? = w2.heap[p]? := setRow_other _ _ _ _ (by rw [HP.out, HZ.out]; omega)
  exact ⟨by simpa using hj.1, by rw [← hj.2]; simp [World.cell?, he]⟩
set_option maxRecDepth 100000 in
set_option maxHeartbeats 4000000 in
theorem link15 (K n c : Nat) (w : World) : Calls Try.prog 15 #[.slice (some ⟨K, 0, none⟩) n c] w fun e w' => (∃ x, e = .returned (.pointer (some ⟨x, 0, none⟩)) ∧ w'.cell? ⟨x, 17, none⟩ = some (.slice (some ⟨K, 0, none⟩) n c) ∧ w.heap.size ≤ x ∧ x < w'.heap.size) ∧ Below w.heap.size w w' := by
  obtain ⟨C, hC⟩ : ∃ x, x = c105 K n c := ⟨_, rfl⟩
  have HC := Lib.hid hC
  have AT := Lib.hid (show C.toList[17]? = some (.slice (some ⟨K, 0, none⟩) n c) from by rw [hC]; exact c105_at K n c)
  clear hC
  go_enter Try.func15, Try.ntmps15
  go_wp2_with (first | (refine wpList_buildTo rfl 105 _ rfl (some 4) rfl C (by rewrite [HC.out]; kernel_rfl) ?_))
  go_ret
  have r := Row.newArr w 105 C
  exact ⟨⟨_, rfl, r.at_ (i := 17) AT.out, Nat.le_refl _, r.lt⟩, (Below.refl _ _).alloc (Nat.le_refl _) _⟩
end Go.Proofs.Ytfcpjckecjjmjaa.SoC
