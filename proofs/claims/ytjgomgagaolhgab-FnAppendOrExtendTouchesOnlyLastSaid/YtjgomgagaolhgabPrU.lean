/- Slices of part ranges: unpacking. -/
import Derived.Test.YtjgomgagaolhgabRows
import Derived.Test.YtjgomgagaolhgabMem
import Derived.Test.YtjgomgagaolhgabSl
import Derived.Test.YtjgomgagaolhgabArr
import Derived.Test.YtjgomgagaolhgabArrB
import Derived.Test.YtjgomgagaolhgabClo
import Derived.Test.YtjgomgagaolhgabPrA
import Derived.WalkKit
import Derived.ProofKit
import Derived.OpenShut
import Derived.Below
import Derived.WalkLawsBesides
import Derived.Lib.Hide
import Derived.Outline
import Derived.RegionTactic
import Derived.Deep.QuietTactic
import Derived.BigQuiet
import Derived.WalkSpells
import Derived.Deep.OwnRows
import Derived.IntWalk
import Derived.Deep.DeepMust
namespace Go.Proofs.Ytjgomgagaolhgab.PrU
open Go.RowKit Mem Sl
set_option linter.unusedVariables false
open Arr ArrB PrA

def col (F : Nat → Nat → Int) (j m : Nat) : List Int := (List.range m).map fun k => F k j
theorem col_len (F : Nat → Nat → Int) (j m : Nat) : (col F j m).length = m := by simp [col]
theorem col_at (F : Nat → Nat → Int) (j m k : Nat) (h : k < m) : (col F j m).getD k 0 = F k j := by simp [col, List.getD, h]
theorem civ (F : Nat → Nat → Int) (j m k : Nat) (h : k < m) : (iv .u32 (col F j m))[k]? = some (.int .u32 (F k j)) := by
  rw [iv_at .u32 _ k (by rw [col_len]; exact h), col_at F j m k h]
theorem civ_len (F : Nat → Nat → Int) (j m : Nat) : (iv .u32 (col F j m)).length = m := by rw [iv_length, col_len]
theorem three (w : World) (m : Nat) : ∃ W, ((w.alloc (.cells (madeCells #[.int .u32 0] m) 28)).alloc (.cells (madeCells #[.int .u32 0] m) 28)).alloc (.cells (madeCells #[.int .u32 0] m) 28) = W ∧
    Row W w.heap.size 28 (List.replicate m (.int .u32 0)) ∧ Row W (w.heap.size + 1) 28 (List.replicate m (.int .u32 0)) ∧ Row W (w.heap.size + 1 + 1) 28 (List.replicate m (.int .u32 0)) ∧ Below w.heap.size w W := by
  have h1 := made_row w 28 (.int .u32 0) m
  have h2 := made_row (w.alloc (.cells (madeCells #[.int .u32 0] m) 28)) 28 (.int .u32 0) m
  have h3 := made_row ((w.alloc (.cells (madeCells #[.int .u32 0] m) 28)).alloc (.cells (madeCells #[.int .u32 0] m) 28)) 28 (.int .u32 0) m
  refine ⟨_, rfl, (h1.alloc _).alloc _, ?_, ?_, ?_⟩
  · simpa using h2.alloc (.cells (madeCells #[.int .u32 0] m) 28)
  · simpa using h3
  · exact (((Below.refl _ _).alloc (Nat.le_refl _) _).alloc (by simp) _).alloc (by simp; omega) _
/-- What the unpacking leaves. -/
def Unp (w : World) (F : Nat → Nat → Int) (m : Nat) (e : Ending) (w' : World) : Prop :=
  e = .returned (.tuple #[.slice (some ⟨w.heap.size, 0, none⟩) m m, .slice (some ⟨w.heap.size + 1, 0, none⟩) m m, .slice (some ⟨w.heap.size + 1 + 1, 0, none⟩) m m]) ∧
    Row w' w.heap.size 28 (iv .u32 (col F 0 m)) ∧ Row w' (w.heap.size + 1) 28 (iv .u32 (col F 1 m)) ∧ Row w' (w.heap.size + 1 + 1) 28 (iv .u32 (col F 2 m)) ∧ Below w.heap.size w w'
set_option maxHeartbeats 1000000 in
theorem unp43 (g m cap : Nat) (F : Nat → Nat → Int) (w : World) (h : Arr w g m 3 u32s F) (hm : m ≤ 65537) :
    Calls Try.prog 43 #[.slice (some ⟨g, 0, none⟩) m cap] w (Unp w F m) := by
  have hmk := fun W => run_make_row' (P := Try.prog) 22 28 (.int .u32 0) 4 Try.underlying22 Clo.cl22_info rfl .i64 .i64 m (by omega) (by omega) W
  obtain ⟨W3, hW3, r0, r1, r2, hbel⟩ := three w m
  have HW3 := Lib.hid hW3
  have HR := Lib.hid (And.intro r0 (And.intro r1 (And.intro r2 hbel)))
  have HA := Lib.hid h
  clear h hW3 r0 r1 r2 hbel
  go_enter Try.func43, Try.ntmps43
  go_wp2
  rw [HW3.out]
  go_loopw [20] (fun i wr => ∃ k : Nat, k ≤ m ∧ i = .int .i64 k ∧ Row wr w.heap.size 28 (filled (iv .u32 (col F 0 m)) (.int .u32 0) k) ∧ Row wr (w.heap.size + 1) 28 (filled (iv .u32 (col F 1 m)) (.int .u32 0) k) ∧ Row wr (w.heap.size + 1 + 1) 28 (filled (iv .u32 (col F 2 m)) (.int .u32 0) k) ∧ Below w.heap.size w wr) (fun i _ => m - (intOf i).toNat)
  case atStart =>
    refine ⟨0, Nat.zero_le _, rfl, ?_⟩
    rw [filled_zero, filled_zero, filled_zero, civ_len, civ_len, civ_len]
    exact HR.out
  case round =>
    obtain ⟨k, hk, rfl, r0, r1, r2, hbel⟩ := hrel
    have HBQ := Lib.hid hbel
    by_cases hlt : k < m
    · have ha := HA.out.below hbel HA.out.lt
      have hg := HA.out.lt
      have c0 : wr.cell? ⟨g, k * 3, none⟩ = some (.int .u32 (F k 0)) := ha.cell k 0 hlt (by omega)
      have c1 : wr.cell? ⟨g, k * 3 + 1, none⟩ = some (.int .u32 (F k 1)) := ha.cell k 1 hlt (by omega)
      have c2 : wr.cell? ⟨g, k * 3 + 2, none⟩ = some (.int .u32 (F k 2)) := ha.cell k 2 hlt (by omega)
      have l0 := civ_len F 0 m
      have l1 := civ_len F 1 m
      have l2 := civ_len F 2 m
      have e0 := r0.at_ (filled_at _ (.int .u32 0) k (by omega))
      have e1 := r1.at_ (filled_at _ (.int .u32 0) k (by omega))
      have e2 := r2.at_ (filled_at _ (.int .u32 0) k (by omega))
      have f0 := r0.frozen k
      have f1 := r1.frozen k
      have f2 := r2.frozen k
      have s0 := ((r0.set k (.int .u32 (F k 0))).far (p := ⟨w.heap.size + 1, k, none⟩) (by simp) (.int .u32 (F k 1))).far (p := ⟨w.heap.size + 1 + 1, k, none⟩) (by simp; omega) (.int .u32 (F k 2))
      have s1 := ((r1.far (p := ⟨w.heap.size, k, none⟩) (by simp) (.int .u32 (F k 0))).set k (.int .u32 (F k 1))).far (p := ⟨w.heap.size + 1 + 1, k, none⟩) (by simp) (.int .u32 (F k 2))
      have s2 := ((r2.far (p := ⟨w.heap.size, k, none⟩) (by simp; omega) (.int .u32 (F k 0))).far (p := ⟨w.heap.size + 1, k, none⟩) (by simp) (.int .u32 (F k 1))).set k (.int .u32 (F k 2))
      rw [filled_set _ _ k (by omega) _ (civ F 0 m k hlt)] at s0
      rw [filled_set _ _ k (by omega) _ (civ F 1 m k hlt)] at s1
      rw [filled_set _ _ k (by omega) _ (civ F 2 m k hlt)] at s2
      have S0 := Lib.hid s0
      have S1 := Lib.hid s1
      have S2 := Lib.hid s2
      have SB := Lib.hid (((hbel.setCell (p := ⟨w.heap.size, k, none⟩) (Nat.le_refl _) (.int .u32 (F k 0))).setCell (p := ⟨w.heap.size + 1, k, none⟩) (by simp) (.int .u32 (F k 1))).setCell (p := ⟨w.heap.size + 1 + 1, k, none⟩) (by simp; omega) (.int .u32 (F k 2)))
      clear s0 s1 s2 r0 r1 r2 ha hbel l0 l1 l2
      go_wp2
      go_roundw
      case rel => exact ⟨k + 1, by omega, by go_num, S0.out, S1.out, S2.out, SB.out⟩
      case measure => simp [intOf]; omega
    · obtain rfl : k = m := by omega
      have S0 := Lib.hid (show Row wr w.heap.size 28 (iv .u32 (col F 0 k)) by have := filled_all (iv .u32 (col F 0 k)) (.int .u32 0); rw [civ_len] at this; rwa [this] at r0)
      have S1 := Lib.hid (show Row wr (w.heap.size + 1) 28 (iv .u32 (col F 1 k)) by have := filled_all (iv .u32 (col F 1 k)) (.int .u32 0); rw [civ_len] at this; rwa [this] at r1)
      have S2 := Lib.hid (show Row wr (w.heap.size + 1 + 1) 28 (iv .u32 (col F 2 k)) by have := filled_all (iv .u32 (col F 2 k)) (.int .u32 0); rw [civ_len] at this; rwa [this] at r2)
      clear r0 r1 r2 hbel
      go_wp2
      go_ret3
      exact ⟨rfl, S0.out, S1.out, S2.out, HBQ.out⟩
end Go.Proofs.Ytjgomgagaolhgab.PrU
