/- FnAdvanceImportTrackerTypeScriptOnlyExcusesNoMatch: ambSame. -/
import Derived.Test.YtelcjpmaegacoaaDoorRows
import Derived.Test.YtelcjpmaegacoaaDoorMem
import Derived.Test.YtelcjpmaegacoaaDoorSl
import Derived.Test.YtelcjpmaegacoaaDoorAiS
import Derived.Carry
import Derived.Deep.DeepCutAuto
import Derived.WalkKit
import Derived.ProofKit
import Derived.OpenShut
import Derived.Below
import Derived.WalkLawsBesides
import Derived.Lib.Hide
import Derived.Outline
import Derived.RegionTactic
import Derived.Deep.QuietTactic
import Derived.BigQuiet
import Derived.WalkSpells
import Derived.Deep.OwnRows
import Derived.IntWalk
import Derived.Deep.DeepMust
namespace Go.Proofs.YtelcjpmaegacoaaDoor.AiM
open Go.RowKit Mem Sl
set_option linter.unusedVariables false
open Args Fvs AiP AiA AiC AiJ AiS MapK Go.Maps

theorem amb9nil (w : World) : Calls Tryd.prog 9 #[.slice none 0 0, .slice none 0 0] w fun e w' => e = .returned (.bool true) ∧ Below w.heap.size w w' := by
  have HB := Lib.hid (Below.refl w.heap.size w)
  have heq := fun (W : World) (X : Option Addr) (l cc : Nat) => Lib.run_eql_slice_nil (P := Tryd.prog) W 32 103 X l cc 0 0 Tryd.underlying32
  go_enter Tryd.func9, Tryd.ntmps9
  go_wp2_with (rw [heq])
  go_loopw [5] (fun i wr => i = .int .i64 0 ∧ w = wr) (fun i _ => 0 - (intOf i).toNat)
  case atStart => exact ⟨rfl, rfl⟩
  case round =>
    obtain ⟨rfl, rfl⟩ := hrel
    go_wp2
    go_ret
    exact ⟨rfl, HB.out⟩
set_option maxRecDepth 20000 in
set_option maxHeartbeats 1000000 in
theorem amb9 (n : Nat) (hn : n ≤ 2) (b b' : Nat) (X : Nat → Int) (w : World) (h : ∀ j, j < n → Ab w b (5 * j) (X j)) (h' : ∀ j, j < n → Ab w b' (5 * j) (X j)) : Calls Tryd.prog 9 #[.slice (some ⟨b, 0, none⟩) n n, .slice (some ⟨b', 0, none⟩) n n] w fun e w' => e = .returned (.bool true) ∧ Below w.heap.size w w' := by
  have H := Lib.hid h
  have H' := Lib.hid h'
  have HN := Lib.hid hn
  have HW := Lib.hid (Below.refl w.heap.size w)
  clear h h'
  have heq := fun (W : World) (X : Option Addr) (l cc : Nat) => Lib.run_eql_slice_nil (P := Tryd.prog) W 32 103 X l cc 0 0 Tryd.underlying32
  go_enter Tryd.func9, Tryd.ntmps9
  go_wp2_with (rw [heq])
  go_loopw [5] (fun i wr => ∃ k : Nat, k ≤ n ∧ i = .int .i64 k ∧ Below w.heap.size w wr) (fun i _ => n - (intOf i).toNat)
  case atStart => exact ⟨0, Nat.zero_le _, rfl, HW.out⟩
  case round =>
    obtain ⟨k, hk, rfl, hb⟩ := hrel
    have HB := Lib.hid hb
    by_cases hlt : k < n
    · have ha := (H.out k hlt).below hb (H.out k hlt).lt
      have ha' := (H'.out k hlt).below hb (H'.out k hlt).lt
      have e5 : k * 5 = 5 * k := Nat.mul_comm _ _
      have a0 := ha.a0
      have a1 := ha.a1
      have a2 := ha.a2
      have a3 := ha.a3
      have a4 := ha.a4
      have d0 := ha'.a0
      have d1 := ha'.a1
      have d2 := ha'.a2
      have d3 := ha'.a3
      have d4 := ha'.a4
      obtain ⟨x, hx⟩ : ∃ x, x = X k := ⟨_, rfl⟩
      rw [← hx] at a4 d4
      clear ha ha' hb hx
      go_wp2_with fail
      go_quiet (fail)
      go_wp2_with fail
      have a0' := cell_later (below_drewN (Below.refl _ _) nq) a0
      have HB2 := Lib.hid (HB.out.trans ((below_drewN (Below.refl wr.heap.size wr) nq).mono HB.out.size))
      obtain ⟨wd, hwd⟩ : ∃ wd, wd = wr.drewN nq := ⟨_, rfl⟩
      rw [← hwd] at a0' HB2 ⊢
      clear hwd a0 a1 a2 a3 a4 d0 d1 d2 d3 d4
      go_loopw [6] (fun i wx => i = .int .i64 0 ∧ wd = wx) (fun i _ => 0 - (intOf i).toNat)
      case atStart => exact ⟨rfl, rfl⟩
      case round =>
        obtain ⟨rfl, rfl⟩ := hrel
        go_wp2_with fail
        go_roundw
        case rel => exact ⟨k + 1, by omega, by go_num, HB2.out⟩
        case measure => simp only [intOf]; omega
    · obtain rfl : n = k := by omega
      clear hb
      go_wp2
      go_ret
      exact ⟨rfl, HB.out⟩
end Go.Proofs.YtelcjpmaegacoaaDoor.AiM
