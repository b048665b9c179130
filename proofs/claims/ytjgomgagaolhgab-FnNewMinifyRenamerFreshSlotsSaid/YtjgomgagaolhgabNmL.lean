/- FnNewMinifyRenamerFreshSlots: the law. -/
import Derived.Test.YtjgomgagaolhgabRows
import Derived.Test.YtjgomgagaolhgabMem
import Derived.Test.YtjgomgagaolhgabSl
import Derived.Test.YtjgomgagaolhgabNmA
import Derived.WalkKit
import Derived.ProofKit
import Derived.OpenShut
import Derived.Below
import Derived.WalkLawsBesides
import Derived.Lib.Hide
import Derived.Outline
import Derived.RegionTactic
import Derived.Deep.QuietTactic
import Derived.BigQuiet
import Derived.WalkSpells
import Derived.Deep.OwnRows
import Derived.IntWalk
import Derived.Deep.DeepMust
namespace Go.Proofs.Ytjgomgagaolhgab.NmL
open Go.RowKit Mem Sl
set_option linter.unusedVariables false
open Go.Proofs.Ytjgomgagaolhgab.Inv Map ArrB NmA

def cnt (n0 n1 n2 n3 k : Nat) : Nat := if k = 0 then n0 else if k = 1 then n1 else if k = 2 then n2 else n3
/-- The renamer, read by the number of a namespace. -/
def RenK (w : World) (p : Nat) (n : Nat → Nat) (g : Nat → Nat) (b : Nat) : Prop :=
  (∀ k, k < 4 → w.cell? ⟨p, 1 + k, none⟩ = some (.slice (some ⟨g k, 0, none⟩) (n k) (n k)) ∧ Zs w (g k) (n k)) ∧ w.cell? ⟨p, 5, none⟩ = some (.map (some b)) ∧ w.heap[b]? = some (.map #[] 0)
theorem ren_k {w : World} {n0 n1 n2 n3 : Nat} {v : Value} (h : Ren w n0 n1 n2 n3 v) : ∃ p g b, v = .pointer (some ⟨p, 0, none⟩) ∧ RenK w p (cnt n0 n1 n2 n3) g b := by
  obtain ⟨p, s0, s1, s2, s3, m, rfl, hr, ⟨⟨g0, rfl, z0⟩, ⟨g1, rfl, z1⟩, ⟨g2, rfl, z2⟩, ⟨g3, rfl, z3⟩⟩, ⟨b, rfl, hm⟩⟩ := h
  refine ⟨p, fun k => if k = 0 then g0 else if k = 1 then g1 else if k = 2 then g2 else g3, b, rfl, fun k hk => ?_, hr.at_ rfl, hm⟩
  have e : k = 0 ∨ k = 1 ∨ k = 2 ∨ k = 3 := by omega
  rcases e with rfl | rfl | rfl | rfl
  · exact ⟨hr.at_ rfl, z0⟩
  · exact ⟨hr.at_ rfl, z1⟩
  · exact ⟨hr.at_ rfl, z2⟩
  · exact ⟨hr.at_ rfl, z3⟩
theorem zs_cell {w : World} {g n i j : Nat} (h : Zs w g n) (hi : i < n) (hj : j < 3) : w.cell? ⟨g, i * 3 + j, none⟩ = (#[Value.string ByteArray.empty, .int .u32 0, .int .u32 0] : Array Value)[j]? := by
  unfold Zs at h
  rw [cell_of_row w g (i * 3 + j) _ 85 (0, 0) h]
  have hm : (i * 3 + j) % 3 = j := by omega
  have hlt : i * 3 + j < n * 3 := by omega
  obtain ⟨x, hx⟩ : ∃ x, (#[Value.string ByteArray.empty, .int .u32 0, .int .u32 0] : Array Value)[j]? = some x := ⟨_, Array.getElem?_eq_getElem (by simpa using hj)⟩
  rw [hx]
  simp only [List.getElem?_toArray] at hx
  simp [madeCells, hlt, hm, getElem!_def, hx]
theorem fit42 (n0 n1 n2 n3 : Int) (w : World) : Calls Try.prog 42 #[.int .u32 n0, .int .u32 n1, .int .u32 n2, .int .u32 n3] w fun e w' => e = .returned (.bool (decide (n0 ≤ 65536) && decide (n1 ≤ 65536) && decide (n2 ≤ 65536) && decide (n3 ≤ 65536))) ∧ w = w' := by
  by_cases h0 : n0 ≤ 65536 <;> by_cases h1 : n1 ≤ 65536 <;> by_cases h2 : n2 ≤ 65536 <;> by_cases h3 : n3 ≤ 65536
  all_goals
    go_enter Try.func42, Try.ntmps42
    go_wp2
    go_ret
    exact ⟨by simp [h0, h1, h2, h3], rfl⟩
theorem fit26 (n0 n1 n2 n3 : Int) (w : World) : Calls Try.prog 26 #[.int .u32 n0, .int .u32 n1, .int .u32 n2, .int .u32 n3] w fun e w' => e = .returned (.bool (decide (n0 ≤ 65536) && decide (n1 ≤ 65536) && decide (n2 ≤ 65536) && decide (n3 ≤ 65536))) ∧ w = w' := by
  go_enter Try.func26, Try.ntmps26
  go_wp2_with fail
  refine (fit42 n0 n1 n2 n3 w).mono ?_
  rintro e w' ⟨rfl, rfl⟩
  obtain ⟨b, hb⟩ : ∃ b, b = (decide (n0 ≤ 65536) && decide (n1 ≤ 65536) && decide (n2 ≤ 65536) && decide (n3 ≤ 65536)) := ⟨_, rfl⟩
  rw [← hb]
  have HB := Lib.hid hb
  clear hb
  go_wp2
  go_ret
  exact ⟨congrArg (fun b => Ending.returned (.bool b)) HB.out, rfl⟩
theorem cnt28 (n0 n1 n2 n3 : Int) (w : World) : Calls Try.prog 28 #[.int .u32 n0, .int .u32 n1, .int .u32 n2, .int .u32 n3] w fun e w' => e = .returned (.agg #[.int .u32 n0, .int .u32 n1, .int .u32 n2, .int .u32 n3]) ∧ Below w.heap.size w w' := by
  go_enter Try.func28, Try.ntmps28
  go_wp2
  refine bodyPost_ret (v := .agg #[.int .u32 n0, .int .u32 n1, .int .u32 n2, .int .u32 n3]) (by simp [results, Try.results28, go_sem]) rfl ⟨rfl, ?_⟩
  exact ((Below.refl _ _).alloc (Nat.le_refl _) _).alloc (by simp) _
theorem len29 (p b : Nat) (n g : Nat → Nat) (w : World) (h : RenK w p n g b) : Calls Try.prog 29 #[.pointer (some ⟨p, 0, none⟩)] w fun e w' => e = .returned (.int .i64 0) ∧ w = w' := by
  have c := h.2.1
  have hl := fun ty => (show MapF w b .bool 0 (fun _ => none) from ⟨#[], 0, h.2.2, rfl, by simp, by simp, by simp⟩).len (P := Try.prog) (t := 81) Try.underlying81 ty
  clear h
  go_enter Try.func29, Try.ntmps29
  go_wp2
  go_ret
  exact ⟨rfl, rfl⟩
theorem at30 (n0 n1 n2 n3 k : Nat) (w : World) (hk : k < 4) : Calls Try.prog 30 #[.int .u32 n0, .int .u32 n1, .int .u32 n2, .int .u32 n3, .int .i64 k] w fun e w' => e = .returned (.int .u32 (cnt n0 n1 n2 n3 k)) ∧ w = w' := by
  have e : k = 0 ∨ k = 1 ∨ k = 2 ∨ k = 3 := by omega
  rcases e with rfl | rfl | rfl | rfl
  all_goals
    go_enter Try.func30, Try.ntmps30
    go_wp2
    go_ret
    exact ⟨rfl, rfl⟩
theorem len31 (p b k : Nat) (n g : Nat → Nat) (w : World) (h : RenK w p n g b) (hk : k < 4) : Calls Try.prog 31 #[.pointer (some ⟨p, 0, none⟩), .int .i64 k] w fun e w' => e = .returned (.int .i64 (n k)) ∧ w = w' := by
  have c := (h.1 k hk).1
  clear h
  go_enter Try.func31, Try.ntmps31
  go_wp2
  go_ret
  exact ⟨rfl, rfl⟩
theorem name32 (p b k i : Nat) (n g : Nat → Nat) (w : World) (h : RenK w p n g b) (hk : k < 4) (hi : i < n k) (hn : n k ≤ 65536) : Calls Try.prog 32 #[.pointer (some ⟨p, 0, none⟩), .int .i64 k, .int .i64 i] w fun e w' => e = .returned (.string ByteArray.empty) ∧ w = w' := by
  have c := (h.1 k hk).1
  have d : w.cell? ⟨g k, i * 3, none⟩ = some (.string ByteArray.empty) := zs_cell (j := 0) (h.1 k hk).2 hi (by omega)
  clear h
  generalize g k = q at c d
  generalize n k = m at c hi hn
  go_enter Try.func32, Try.ntmps32
  go_wp2
  go_ret
  exact ⟨rfl, rfl⟩
theorem count33 (p b k i : Nat) (n g : Nat → Nat) (w : World) (h : RenK w p n g b) (hk : k < 4) (hi : i < n k) (hn : n k ≤ 65536) : Calls Try.prog 33 #[.pointer (some ⟨p, 0, none⟩), .int .i64 k, .int .i64 i] w fun e w' => e = .returned (.int .u32 0) ∧ w = w' := by
  have c := (h.1 k hk).1
  have d : w.cell? ⟨g k, i * 3 + 1, none⟩ = some (.int .u32 0) := zs_cell (j := 1) (h.1 k hk).2 hi (by omega)
  clear h
  generalize g k = q at c d
  generalize n k = m at c hi hn
  go_enter Try.func33, Try.ntmps33
  go_wp2
  go_ret
  exact ⟨rfl, rfl⟩
theorem cnt_le {n0 n1 n2 n3 : Nat} (h0 : n0 ≤ 65536) (h1 : n1 ≤ 65536) (h2 : n2 ≤ 65536) (h3 : n3 ≤ 65536) (k : Nat) : cnt n0 n1 n2 n3 k ≤ 65536 := by
  unfold cnt; split; exact h0; split; exact h1; split; exact h2; exact h3
set_option maxHeartbeats 1000000 in
theorem law (a0 : Int) (a1 : Int) (a2 : Int) (a3 : Int) (w : World) (w0 : (Lit.int .u32 a0).wf = true) (w1 : (Lit.int .u32 a1).wf = true) (w2 : (Lit.int .u32 a2).wf = true) (w3 : (Lit.int .u32 a3).wf = true) :
    Calls Try.prog 6 #[.int .u32 a0, .int .u32 a1, .int .u32 a2, .int .u32 a3] w fun e w' => e = .returned (.bool true) ∧ Below w.heap.size w w' := by
  obtain ⟨n0, rfl⟩ := Int.eq_ofNat_of_zero_le (bounds_u32 w0).1
  obtain ⟨n1, rfl⟩ := Int.eq_ofNat_of_zero_le (bounds_u32 w1).1
  obtain ⟨n2, rfl⟩ := Int.eq_ofNat_of_zero_le (bounds_u32 w2).1
  obtain ⟨n3, rfl⟩ := Int.eq_ofNat_of_zero_le (bounds_u32 w3).1
  clear w0 w1 w2 w3
  go_enter Try.func6, Try.ntmps6
  go_wp2_with fail
  refine (fit26 n0 n1 n2 n3 w).mono ?_
  rintro e w' ⟨rfl, rfl⟩
  by_cases hall : n0 ≤ 65536 ∧ n1 ≤ 65536 ∧ n2 ≤ 65536 ∧ n3 ≤ 65536
  · obtain ⟨h0, h1, h2, h3⟩ := hall
    have eb : (decide ((n0 : Int) ≤ 65536) && decide ((n1 : Int) ≤ 65536) && decide ((n2 : Int) ≤ 65536) && decide ((n3 : Int) ≤ 65536)) = true := by simp; omega
    rw [eb]
    clear eb
    go_wp2_with fail
    refine (cnt28 n0 n1 n2 n3 w).mono ?_
    rintro e u0 ⟨rfl, hb⟩
    have HB := Lib.hid hb
    clear hb
    go_wp2_with fail
    refine (new27 n0 n1 n2 n3 u0 h0 h1 h2 h3).mono ?_
    rintro e u1 ⟨⟨v, rfl, hr⟩, hb⟩
    replace HB := Lib.hid (HB.out.trans (hb.mono HB.out.size))
    obtain ⟨p, g, b, rfl, hk⟩ := ren_k hr
    have HK := Lib.hid hk
    have HC := Lib.hid (cnt_le h0 h1 h2 h3)
    clear hb hr hk
    go_wp2_with fail
    refine (len29 p b _ g u1 HK.out).mono ?_
    rintro e w' ⟨rfl, rfl⟩
    go_wp2_with fail
    go_loop [10] (fun i => ∃ k : Nat, k ≤ 4 ∧ i = .int .i64 k) (fun i => 4 - (intOf i).toNat)
    case atStart => exact ⟨0, by omega, rfl⟩
    case round =>
      obtain ⟨k, hk, rfl⟩ := hrel
      by_cases hlt : k < 4
      · have hlt' : (k : Int) < 4 := by omega
        go_wp2_with fail
        refine (at30 n0 n1 n2 n3 k u1 hlt).mono ?_
        rintro e w' ⟨rfl, rfl⟩
        have hle := HC.out k
        have HL := Lib.hid (len31 p b k _ g u1 HK.out hlt)
        have HN := Lib.hid (fun i hi => name32 p b k i _ g u1 HK.out hlt hi hle)
        have HM := Lib.hid (fun i hi => count33 p b k i _ g u1 HK.out hlt hi hle)
        generalize cnt n0 n1 n2 n3 k = m at HL HN HM hle ⊢
        go_wp2_with fail
        refine HL.out.mono ?_
        rintro e w' ⟨rfl, rfl⟩
        have hmm : ((m : Int) != (m : Int)) = false := by simp
        go_wp2_with fail
        go_loop [12] (fun i => ∃ l : Nat, l ≤ m ∧ i = .int .i64 l) (fun i => m - (intOf i).toNat)
        case atStart => exact ⟨0, by omega, rfl⟩
        case round =>
          obtain ⟨l, hl, rfl⟩ := hrel
          by_cases hlm : l < m
          · have hlm' : (l : Int) < m := by omega
            have e0 : (ByteArray.empty != ByteArray.empty) = false := by decide
            go_wp2_with fail
            refine (HN.out l hlm).mono ?_
            rintro e w' ⟨rfl, rfl⟩
            go_wp2_with fail
            refine (HM.out l hlm).mono ?_
            rintro e w' ⟨rfl, rfl⟩
            go_wp2_with fail
            go_round
            case rel => exact ⟨l + 1, by omega, by go_num⟩
            case measure => simp [intOf]; omega
          · go_wp2_with fail
            go_round
            case rel => exact ⟨k + 1, by omega, by go_num⟩
            case measure => simp [intOf]; omega
      · go_wp2_with fail
        go_ret
        exact ⟨rfl, HB.out⟩
  · have eb : (decide ((n0 : Int) ≤ 65536) && decide ((n1 : Int) ≤ 65536) && decide ((n2 : Int) ≤ 65536) && decide ((n3 : Int) ≤ 65536)) = false := by
      simp; omega
    rw [eb]
    go_wp2_with fail
    go_ret
    exact ⟨rfl, Below.refl _ _⟩
end Go.Proofs.Ytjgomgagaolhgab.NmL
