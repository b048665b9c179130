/- FnUpdateGeneratedLineAndColumnExact: a digit, the end of a segment. -/
import Derived.Test.YtmakaafjkeeooacDoorRows
import Derived.Test.YtmakaafjkeeooacDoorMem
import Derived.Test.YtmakaafjkeeooacDoorSl
import Derived.Test.YtmakaafjkeeooacDoorUgG
import Derived.Deep.DeepCutAuto
import Derived.WalkKit
import Derived.ProofKit
import Derived.OpenShut
import Derived.Below
import Derived.WalkLawsBesides
import Derived.Lib.Hide
import Derived.Outline
import Derived.RegionTactic
import Derived.Deep.QuietTactic
import Derived.BigQuiet
import Derived.WalkSpells
import Derived.Deep.OwnRows
import Derived.IntWalk
import Derived.Deep.DeepMust
namespace Go.Proofs.YtmakaafjkeeooacDoor.UgJ
open Go.RowKit Mem Sl
set_option linter.unusedVariables false
open Own Vq Dec Lin Str Prn Owg UgA UgB UgC UgD Args

theorem ch_val (d : Nat) (h : d < 64) : ch d = if d < 26 then (d : Int) + 65 else if d < 52 then (d : Int) + 71 else if d < 62 then (d : Int) - 4 else if d = 62 then 43 else 47 := by
  have h' : (List.range 64).all (fun d => ch d == if d < 26 then (d : Int) + 65 else if d < 52 then (d : Int) + 71 else if d < 62 then (d : Int) - 4 else if d = 62 then 43 else 47) = true := by decide
  have := List.all_eq_true.1 h' d (List.mem_range.2 h)
  simpa using this
theorem dig23 (d : Nat) (w : World) (h : d < 64) : Calls Tryd.prog 23 #[.int .u8 (ch d)] w fun e w' => e = .returned (.int .i64 (d : Int)) ∧ w = w' := by
  rw [ch_val d h]
  by_cases h1 : d < 26
  · rw [if_pos h1]
    have t1 : decide ((65 : Int) ≤ (d : Int) + 65) = true := by simp; omega
    have t2 : decide ((d : Int) + 65 ≤ 90) = true := by simp; omega
    go_enter Tryd.func23, Tryd.ntmps23
    go_wp2
    go_ret
    exact ⟨ret_int (by omega), rfl⟩
  rw [if_neg h1]
  by_cases h2 : d < 52
  · rw [if_pos h2]
    have t1 : decide ((65 : Int) ≤ (d : Int) + 71) = true := by simp; omega
    have t2 : decide ((d : Int) + 71 ≤ 90) = false := by simp; omega
    have t3 : decide ((97 : Int) ≤ (d : Int) + 71) = true := by simp; omega
    have t4 : decide ((d : Int) + 71 ≤ 122) = true := by simp; omega
    go_enter Tryd.func23, Tryd.ntmps23
    go_wp2
    go_ret
    exact ⟨ret_int (by omega), rfl⟩
  rw [if_neg h2]
  by_cases h3 : d < 62
  · rw [if_pos h3]
    have t1 : decide ((65 : Int) ≤ (d : Int) - 4) = false := by simp; omega
    have t3 : decide ((97 : Int) ≤ (d : Int) - 4) = false := by simp; omega
    have t5 : decide ((48 : Int) ≤ (d : Int) - 4) = true := by simp; omega
    have t6 : decide ((d : Int) - 4 ≤ 57) = true := by simp; omega
    go_enter Tryd.func23, Tryd.ntmps23
    go_wp2
    go_ret
    exact ⟨ret_int (by omega), rfl⟩
  rw [if_neg h3]
  by_cases h4 : d = 62
  · subst h4
    go_enter Tryd.func23, Tryd.ntmps23
    go_wp2
    go_ret
    exact ⟨rfl, rfl⟩
  · rw [if_neg h4]
    obtain rfl : d = 63 := by omega
    go_enter Tryd.func23, Tryd.ntmps23
    go_wp2
    go_ret
    exact ⟨rfl, rfl⟩
set_option maxHeartbeats 4000000 in
set_option maxRecDepth 100000 in
theorem sep12 (A : Option Addr) (n c S E : Nat) (D : List Int) (w : World) (hi : IsInts .u8 w A n c D) (hn : n ≤ 100000000) (hSE : S ≤ E) (hE : E < n) (hm : ∀ i, S ≤ i → i < E → D.getD i 0 ≠ 44 ∧ D.getD i 0 ≠ 59) (hend : D.getD E 0 = 59) :
    Calls Tryd.prog 12 #[.slice A n c, .int .i64 (S : Int)] w fun e w' => e = .returned (.int .i64 (E : Int)) ∧ ∃ m, w' = w.drewN m := by
  have HR := Lib.hid (fun k => hi.read k)
  have HM := Lib.hid hm
  have HE := Lib.hid hend
  clear hi hm hend
  go_enter Tryd.func12, Tryd.ntmps12
  go_wp2_with fail
  go_loopw [1] (fun i wr => ∃ k m : Nat, S ≤ k ∧ k ≤ E ∧ i = .int .i64 (k : Int) ∧ wr = w.drewN m) (fun i _ => E - (intOf i).toNat)
  case atStart => exact ⟨S, 0, Nat.le_refl _, hSE, rfl, rfl⟩
  case round =>
    obtain ⟨k, m, hk1, hk2, rfl, rfl⟩ := hrel
    obtain ⟨b, off, ha, hb, hcell⟩ := HR.out k (by omega)
    subst ha
    obtain ⟨x, hx⟩ : ∃ x, D.getD k 0 = x := ⟨_, rfl⟩
    rw [hx] at hcell
    have HX := Lib.hid hx
    have v0 : (0 : Int) ≤ (k : Int) := by omega
    have v1 : (k : Int) < (n : Int) := by omega
    have v2 : (k : Int) ≤ 100000000 := by omega
    clear hx
    by_cases hlt : k < E
    · have h9 := HM.out k hk1 hlt
      rw [HX.out] at h9
      have t1 : (x != 44) = true := by simp; omega
      have t2 : (x != 59) = true := by simp; omega
      clear h9
      go_wp2_with fail
      go_roundw
      case rel => exact ⟨k + 1, _, by omega, by omega, by go_num, rfl⟩
      case measure => simp [intOf]; omega
    · obtain rfl : k = E := by omega
      have h9 := HE.out
      rw [HX.out] at h9
      subst h9
      go_wp2_with fail
      go_ret
      exact ⟨rfl, _, rfl⟩
end Go.Proofs.YtmakaafjkeeooacDoor.UgJ
