/- FnCookedAndRawTemplateContentsWhole: an escape of four digits, UTF-8. -/
import Derived.Test.YtalpfbbceggcaaaDoorCwA
import Derived.Great.BuildSlice
import Derived.WalkKit
import Derived.ProofKit
import Derived.OpenShut
import Derived.Below
import Derived.WalkLawsBesides
import Derived.Lib.Hide
import Derived.Outline
import Derived.RegionTactic
import Derived.Deep.QuietTactic
import Derived.BigQuiet
import Derived.WalkSpells
import Derived.Deep.OwnRows
import Derived.IntWalk
import Derived.Deep.DeepMust
namespace Go.Proofs.YtalpfbbceggcaaaDoor.CwB
open Go.RowKit Mem Args Own CwP CwH CwG CwA
set_option linter.unusedVariables false

set_option maxRecDepth 100000 in
set_option maxHeartbeats 1000000 in
theorem u414 (B : Nat) (v : Value) (zs : List Int) (u : Int) (up : Bool) (w : World) (ho : Own w B 5 .u8 v zs) (h0 : 0 ≤ u) (h1 : u ≤ 65535) (hl : zs.length ≤ 400000000) (hB : B ≤ w.heap.size) :
    Calls Tryd.prog 14 #[v, .int .u16 u, .bool up] w (Ap B w v zs (u4 u up)) := by
  have HO := Lib.hid ho
  have HBW := Lib.hid hB
  have HLL := Lib.hid (show zs.length + 2 ≤ 1000000000 from by omega)
  have HL := Lib.hid hl
  clear ho hB hl
  go_enter Tryd.func14, Tryd.ntmps14
  go_wp2_with (first
    | (refine wpList_app _ rfl _ _ rfl B v zs rfl HO.out [92, 117] 2 rfl rfl HLL.out HBW.out ?_; intro A' n' c' w1 ho hg; have HO1 := Lib.hid ho; have HG1 := Lib.hid hg; clear ho hg)
    | (go_at_call 12
       refine (hex12 B _ (zs ++ [92, 117]) u 4 up _ HO1.out (by omega) (by omega) (by omega) (by have := HL.out; rw [List.length_append]; simp; omega) (Nat.le_trans HBW.out HG1.out.size)).mono ?_
       rintro e w2 ⟨A2, n2, c2, rfl, ho, hg⟩
       have HO2 := Lib.hid ho
       have HG2 := Lib.hid (HG1.out.trans hg)
       clear ho hg))
  go_ret
  exact ⟨A2, n2, c2, rfl, by rw [u4, ← List.append_assoc]; exact HO2.out, HG2.out⟩
set_option maxRecDepth 100000 in
set_option maxHeartbeats 1000000 in
theorem utf16 (B : Nat) (v : Value) (zs : List Int) (u : Int) (w : World) (ho : Own w B 5 .u8 v zs) (h0 : 0 ≤ u) (h1 : u ≤ 65535) (hl : zs.length ≤ 400000000) (hB : B ≤ w.heap.size) :
    Calls Tryd.prog 16 #[v, .int .u16 u] w (Ap B w v zs (utf u)) := by
  have HO := Lib.hid ho
  have HBW := Lib.hid hB
  have HLL := Lib.hid (show zs.length + 3 ≤ 1000000000 from by omega)
  clear ho hB hl
  by_cases a1 : u < 128
  · have e : utf u = [u] := by unfold utf; rw [if_pos a1]
    rw [e]
    clear e
    go_enter Tryd.func16, Tryd.ntmps16
    go_wp2_with (refine wpList_app _ rfl _ _ rfl B v zs rfl HO.out [u] 1 rfl rfl (by have := HLL.out; omega) HBW.out ?_; intro A' n' c' w1 ho hg; have HO1 := Lib.hid ho; have HG1 := Lib.hid hg; clear ho hg)
    go_ret
    exact ⟨A', n', c', rfl, HO1.out, HG1.out⟩
  by_cases a2 : u < 2048
  · have e : utf u = [192 + u / 64, 128 + u % 64] := by unfold utf; rw [if_neg a1, if_pos a2]
    rw [e]
    clear e
    have b1 := or192 (u / 64) (by omega) (by omega)
    have b2 := and63 u (by omega) (by omega)
    have b3 := or128 (u % 64) (by omega) (by omega)
    go_enter Tryd.func16, Tryd.ntmps16
    go_wp2_with (refine wpList_app _ rfl _ _ rfl B v zs rfl HO.out [192 + u / 64, 128 + u % 64] 2 rfl rfl (by have := HLL.out; omega) HBW.out ?_; intro A' n' c' w1 ho hg; have HO1 := Lib.hid ho; have HG1 := Lib.hid hg; clear ho hg)
    go_ret
    exact ⟨A', n', c', rfl, HO1.out, HG1.out⟩
  · have e : utf u = [224 + u / 4096, 128 + u / 64 % 64, 128 + u % 64] := by unfold utf; rw [if_neg a1, if_neg a2]
    rw [e]
    clear e
    have b1 := or224 (u / 4096) (by omega) (by omega)
    have b2 := and63 (u / 64) (by omega) (by omega)
    have b3 := or128 (u / 64 % 64) (by omega) (by omega)
    have b4 := and63 u (by omega) (by omega)
    have b5 := or128 (u % 64) (by omega) (by omega)
    go_enter Tryd.func16, Tryd.ntmps16
    go_wp2_with (refine wpList_app _ rfl _ _ rfl B v zs rfl HO.out [224 + u / 4096, 128 + u / 64 % 64, 128 + u % 64] 3 rfl rfl HLL.out HBW.out ?_; intro A' n' c' w1 ho hg; have HO1 := Lib.hid ho; have HG1 := Lib.hid hg; clear ho hg)
    go_ret
    exact ⟨A', n', c', rfl, HO1.out, HG1.out⟩
end Go.Proofs.YtalpfbbceggcaaaDoor.CwB
