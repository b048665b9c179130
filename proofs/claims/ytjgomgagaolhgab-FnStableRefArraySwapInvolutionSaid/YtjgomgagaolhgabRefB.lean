/- Slices of stable refs: how they are built. -/
import Derived.Test.YtjgomgagaolhgabRows
import Derived.Test.YtjgomgagaolhgabMem
import Derived.Test.YtjgomgagaolhgabSl
import Derived.Test.YtjgomgagaolhgabArr
import Derived.Test.YtjgomgagaolhgabArrB
import Derived.Deep.RegionWith
import Derived.WalkKit
import Derived.ProofKit
import Derived.OpenShut
import Derived.Below
import Derived.WalkLawsBesides
import Derived.Lib.Hide
import Derived.Outline
import Derived.RegionTactic
import Derived.Deep.QuietTactic
import Derived.BigQuiet
import Derived.WalkSpells
import Derived.Deep.OwnRows
import Derived.IntWalk
import Derived.Deep.DeepMust
namespace Go.Proofs.Ytjgomgagaolhgab.RefB
open Go.RowKit Mem Sl
set_option linter.unusedVariables false
open Arr ArrB

theorem new19 (x y z : Int) (w : World) : Calls Try.prog 19 #[.int .u32 x, .int .u32 y, .int .u32 z] w fun e w' => e = .returned (.agg #[.int .u32 x, .int .u32 y, .int .u32 z]) ∧ Below w.heap.size w w' := by
  go_enter Try.func19, Try.ntmps19
  go_wp2
  refine bodyPost_ret (v := .agg #[.int .u32 x, .int .u32 y, .int .u32 z]) (by simp [results, Try.results19, go_sem]) rfl ⟨rfl, ?_⟩
  (repeat (first | exact Below.refl _ _ | apply Below.drew | apply below_drewN | (refine Below.alloc ?_ (by simp <;> omega) _) | (refine Below.setCell ?_ (by simp <;> omega) _)))
theorem set3 {w : World} {g n k : Nat} {z0 z1 z2 : List Int} {x0 x1 x2 : Int} (h : Arr w g n 3 u32s (upto (mk [z0, z1, z2]) k)) (hlt : k < n) (hx0 : x0 = z0.getD k 0) (hx1 : x1 = z1.getD k 0) (hx2 : x2 = z2.getD k 0) :
    Arr (((w.setCell ⟨g, k * 3, none⟩ (.int .u32 x0)).setCell ⟨g, k * 3 + 1, none⟩ (.int .u32 x1)).setCell ⟨g, k * 3 + 2, none⟩ (.int .u32 x2)) g n 3 u32s (upto (mk [z0, z1, z2]) (k + 1)) := by
  refine (((h.set (j := 0) hlt (by omega) x0).set (j := 1) hlt (by omega) x1).set (j := 2) hlt (by omega) x2).congr ?_
  intro k' l hk' hl
  have e : l = 0 ∨ l = 1 ∨ l = 2 := by omega
  by_cases hkk : k' = k
  · subst hkk
    rcases e with rfl | rfl | rfl <;> simp [upd, upto, mk, hx0, hx1, hx2]
  · have : (k' < k + 1) = (k' < k) := by apply propext; omega
    simp [upd, upto, hkk, this]
set_option maxHeartbeats 1000000 in
theorem arr17 (A0 A1 A2 : Option Addr) (n n0 n1 n2 c0 c1 c2 : Nat) (z0 z1 z2 : List Int) (w : World) (h0 : Args.IsInts .u32 w A0 n0 c0 z0) (h1 : Args.IsInts .u32 w A1 n1 c1 z1) (h2 : Args.IsInts .u32 w A2 n2 c2 z2) (hn : n ≤ 65536) (l0 : n ≤ n0) (l1 : n ≤ n1) (l2 : n ≤ n2) :
    Calls Try.prog 17 #[.slice A0 n0 c0, .slice A1 n1 c1, .slice A2 n2 c2, .int .i64 n] w (Built w n 3 u32s (mk [z0, z1, z2])) := by
  have hmk := fun W => run_make_wide (P := Try.prog) 39 44 _ 3 12 _ Try.underlying39 info44 rfl .i64 .i64 n (by omega) (by omega) W
  have R0 := Lib.hid (fun k => h0.read k)
  have R1 := Lib.hid (fun k => h1.read k)
  have R2 := Lib.hid (fun k => h2.read k)
  clear h0 h1 h2
  go_enter Try.func17, Try.ntmps17
  go_wp2
  go_loopw [10] (fun i wr => ∃ k : Nat, k ≤ n ∧ i = .int .i64 k ∧ Arr wr w.heap.size n 3 u32s (upto (mk [z0, z1, z2]) k) ∧ Below w.heap.size w wr) (fun i _ => n - (intOf i).toNat)
  case atStart => exact ⟨0, Nat.zero_le _, rfl, upto_zero (arr_made w 44 _ n 3 u32s rfl zero3), (Below.refl _ _).alloc (Nat.le_refl _) _⟩
  case round =>
    obtain ⟨k, hk, rfl, harr, hbel⟩ := hrel
    by_cases hlt : k < n
    · obtain ⟨b0, o0, ha0, hb0, hc0⟩ := R0.out k (by omega)
      obtain ⟨b1, o1, ha1, hb1, hc1⟩ := R1.out k (by omega)
      obtain ⟨b2, o2, ha2, hb2, hc2⟩ := R2.out k (by omega)
      subst ha0 ha1 ha2
      have d0 := cell_later hbel hc0
      have d1 := cell_later hbel hc1
      have d2 := cell_later hbel hc2
      have hk0 : k < n0 := by omega
      have hk1 : k < n1 := by omega
      have hk2 : k < n2 := by omega
      obtain ⟨x0, hx0⟩ : ∃ x, x = z0.getD k 0 := ⟨_, rfl⟩
      obtain ⟨x1, hx1⟩ : ∃ x, x = z1.getD k 0 := ⟨_, rfl⟩
      obtain ⟨x2, hx2⟩ : ∃ x, x = z2.getD k 0 := ⟨_, rfl⟩
      rw [← hx0] at d0
      rw [← hx1] at d1
      rw [← hx2] at d2
      have HARR := Lib.hid harr
      have HBEL := Lib.hid hbel
      have HX := Lib.hid (And.intro hx0 (And.intro hx1 hx2))
      clear harr hbel hc0 hc1 hc2 hx0 hx1 hx2
      go_wp2
      go_region_with (go_at_call 19; refine (new19 x0 x1 x2 _).mono ?_; rintro e w' ⟨rfl, hb⟩; have harr := HARR.out.drew.below hb HARR.out.lt; have e0 : w'.cell? ⟨w.heap.size, k * 3, none⟩ = some (.int .u32 _) := harr.cell k 0 hlt (by omega); have e1 : w'.cell? ⟨w.heap.size, k * 3 + 1, none⟩ = some (.int .u32 _) := harr.cell k 1 hlt (by omega); have e2 : w'.cell? ⟨w.heap.size, k * 3 + 2, none⟩ = some (.int .u32 _) := harr.cell k 2 hlt (by omega); have fz := harr.frozen; have HB := Lib.hid (HBEL.out.drew.trans (hb.mono HBEL.out.size)); have HA := Lib.hid harr; clear hb harr)
      all_goals
        go_wp2
        go_roundw
        case rel => exact ⟨k + 1, by omega, by go_num, set3 HA.out hlt HX.out.1 HX.out.2.1 HX.out.2.2, ((HB.out.setCell (Nat.le_refl _) _).setCell (Nat.le_refl _) _).setCell (Nat.le_refl _) _⟩
        case measure => simp [intOf]; omega
    · obtain rfl : k = n := by omega
      have HS := Lib.hid (upto_all harr)
      have HB := Lib.hid hbel
      clear harr hbel
      go_wp2
      go_ret
      exact ⟨rfl, HS.out, HB.out⟩
end Go.Proofs.Ytjgomgagaolhgab.RefB
