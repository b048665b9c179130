/- FnEnforceNoCyclicChunkImportsErrsIffStaticCycle: sizes, the edges, copies. -/
import Derived.Test.YtfljkbfacncdgaaDoorRows
import Derived.Test.YtfljkbfacncdgaaDoorMem
import Derived.Test.YtfljkbfacncdgaaDoorSl
import Derived.Test.YtfljkbfacncdgaaDoorFvs
import Derived.Test.YtfljkbfacncdgaaDoorEnR
import Derived.Deep.RegionHeld3
import Derived.WalkKit
import Derived.ProofKit
import Derived.OpenShut
import Derived.Below
import Derived.WalkLawsBesides
import Derived.Lib.Hide
import Derived.Outline
import Derived.RegionTactic
import Derived.Deep.QuietTactic
import Derived.BigQuiet
import Derived.WalkSpells
import Derived.Deep.OwnRows
import Derived.IntWalk
import Derived.Deep.DeepMust
namespace Go.Proofs.YtfljkbfacncdgaaDoor.EnA
open Go.RowKit Mem Sl
set_option linter.unusedVariables false
open Args Fvs EnP EnQ EnR

set_option maxHeartbeats 1000000 in
theorem bytes4 (y0 : Int) (A1 : Option Addr) (n1 c1 : Nat) (A2 : Option Addr) (n2 c2 : Nat) (A3 : Option Addr) (n3 c3 : Nat) (w : World) (m1 : n1 ≤ maxLen) (m2 : n2 ≤ maxLen) (m3 : n3 ≤ maxLen) : Calls Tryd.prog 4 #[.int .i64 y0, .slice A1 n1 c1, .slice A2 n2 c2, .slice A3 n3 c3] w fun e w' => e = .returned (.bool (decide (n1 + n2 + n3 ≤ 1048576))) ∧ w = w' := by
  unfold maxLen at *
  by_cases h0 : n1 ≤ 1048576
  case neg =>
    go_enter Tryd.func4, Tryd.ntmps4
    go_wp2_with fail
    go_ret
    exact ⟨congrArg (fun b => Ending.returned (Value.bool b)) (show false = decide (n1 + n2 + n3 ≤ 1048576) by symm; simp; omega), rfl⟩
  by_cases h1 : n2 ≤ 1048576
  case neg =>
    go_enter Tryd.func4, Tryd.ntmps4
    go_wp2_with fail
    go_ret
    exact ⟨congrArg (fun b => Ending.returned (Value.bool b)) (show false = decide (n1 + n2 + n3 ≤ 1048576) by symm; simp; omega), rfl⟩
  by_cases g1 : n1 + n2 ≤ 1048576
  case neg =>
    go_enter Tryd.func4, Tryd.ntmps4
    go_wp2_with fail
    go_ret
    exact ⟨congrArg (fun b => Ending.returned (Value.bool b)) (show false = decide (n1 + n2 + n3 ≤ 1048576) by symm; simp; omega), rfl⟩
  by_cases h2 : n3 ≤ 1048576
  case neg =>
    go_enter Tryd.func4, Tryd.ntmps4
    go_wp2_with fail
    go_ret
    exact ⟨congrArg (fun b => Ending.returned (Value.bool b)) (show false = decide (n1 + n2 + n3 ≤ 1048576) by symm; simp; omega), rfl⟩
  by_cases g2 : n1 + n2 + n3 ≤ 1048576
  case neg =>
    go_enter Tryd.func4, Tryd.ntmps4
    go_wp2_with fail
    go_ret
    exact ⟨congrArg (fun b => Ending.returned (Value.bool b)) (show false = decide (n1 + n2 + n3 ≤ 1048576) by symm; simp; omega), rfl⟩
  go_enter Tryd.func4, Tryd.ntmps4
  go_wp2_with fail
  go_ret
  exact ⟨congrArg (fun b => Ending.returned (Value.bool b)) (show true = decide (n1 + n2 + n3 ≤ 1048576) by symm; simp; omega), rfl⟩

def ClN (w : World) (n : Nat) (V : Nat → Value) (e : Ending) (w' : World) : Prop := ∃ A' c', e = .returned (.slice A' n c') ∧ Rs w' A' n V ∧ Below w.heap.size w w'

theorem copy6_info : (Tryd.prog.info? 27).map (fun i => (i.zero, i.size, i.bytes)) = some (some (.int .u32 0), 1, 4) := by kernel_rfl
set_option maxHeartbeats 400000 in
theorem copy6 (A : Option Addr) (n c : Nat) (g : Nat → Int) (w : World) (h : Rs w A n (fun i => .int .u32 (g i))) (hn : n ≤ 1048576) (ha : A = none → n = 0 ∧ c = 0) :
    Calls Tryd.prog 6 #[.slice A n c] w (ClN w n (fun i => .int .u32 (g i))) := by
  have heq := fun (W : World) (X : Option Addr) (l cc : Nat) => Lib.run_eql_slice_nil (P := Tryd.prog) W 22 27 X l cc 0 0 Tryd.underlying22
  rcases A with _ | a
  · obtain ⟨rfl, rfl⟩ := ha rfl
    go_enter Tryd.func6, Tryd.ntmps6
    go_wp2
    go_ret
    exact ⟨_, _, rfl, fun i hi => absurd hi (Nat.not_lt_zero i), Below.refl _ _⟩
  · have hmk := fun W => run_make_row' (P := Tryd.prog) 22 27 (.int .u32 0) 4 Tryd.underlying22 copy6_info rfl .i64 .i64 n (by omega) (by omega) W
    have HR := Lib.hid h
    clear h ha
    go_enter Tryd.func6, Tryd.ntmps6
    go_wp2
    go_loopw [4] (fun i wr => ∃ k : Nat, k ≤ n ∧ i = .int .i64 k ∧ Fv wr w.heap.size n (upto (fun i => .int .u32 (g i)) (.int .u32 0) k) ∧ Below w.heap.size w wr) (fun i _ => n - (intOf i).toNat)
    case atStart => exact ⟨0, Nat.zero_le _, rfl, (fv_made w 27 (.int .u32 0) n).congr (fun i _ => rfl), (Below.refl _ _).alloc (Nat.le_refl _) _⟩
    case round =>
      obtain ⟨k, hk, rfl, hrow, hbel⟩ := hrel
      by_cases hlt : k < n
      · obtain ⟨b, off, ha, hb, hcell⟩ := HR.out k hlt
        injection ha with ha
        subst ha
        have c1 := cell_later hbel hcell
        have c2 : wr.cell? ⟨w.heap.size, k, none⟩ = some (.int .u32 0) := hrow.at_ hlt (by simp [upto])
        have c3 := hrow.frozen k
        have HSET := Lib.hid ((hrow.set hlt (.int .u32 (g k))).congr (fun i _ => upto_step (fun i => .int .u32 (g i)) _ k i))
        have HB := Lib.hid (hbel.setCell (p := ⟨w.heap.size, k, none⟩) (Nat.le_refl _) (.int .u32 (g k)))
        obtain ⟨u, hu⟩ : ∃ u, u = g k := ⟨_, rfl⟩
        simp only [← hu] at c1 HSET HB
        clear hrow hbel hcell hb hu
        go_wp2
        go_roundw
        case rel => exact ⟨k + 1, by omega, by go_num, HSET.out, HB.out⟩
        case measure => simp [intOf]; omega
      · obtain rfl : k = n := by omega
        have HC := Lib.hid (hrow.congr (V' := fun i => .int .u32 (g i)) (fun i hi => by simp [upto, hi]))
        have HB := Lib.hid hbel
        clear hrow hbel
        go_wp2
        go_ret
        exact ⟨_, _, rfl, Rs.of_fv HC.out, HB.out⟩

theorem copy7_info : (Tryd.prog.info? 4).map (fun i => (i.zero, i.size, i.bytes)) = some (some (.bool false), 1, 1) := by kernel_rfl
set_option maxHeartbeats 400000 in
theorem copy7 (A : Option Addr) (n c : Nat) (g : Nat → Bool) (w : World) (h : Rs w A n (fun i => .bool (g i))) (hn : n ≤ 1048576) (ha : A = none → n = 0 ∧ c = 0) :
    Calls Tryd.prog 7 #[.slice A n c] w (ClN w n (fun i => .bool (g i))) := by
  have heq := fun (W : World) (X : Option Addr) (l cc : Nat) => Lib.run_eql_slice_nil (P := Tryd.prog) W 23 4 X l cc 0 0 Tryd.underlying23
  rcases A with _ | a
  · obtain ⟨rfl, rfl⟩ := ha rfl
    go_enter Tryd.func7, Tryd.ntmps7
    go_wp2
    go_ret
    exact ⟨_, _, rfl, fun i hi => absurd hi (Nat.not_lt_zero i), Below.refl _ _⟩
  · have hmk := fun W => run_make_row' (P := Tryd.prog) 23 4 (.bool false) 1 Tryd.underlying23 copy7_info rfl .i64 .i64 n (by omega) (by omega) W
    have HR := Lib.hid h
    clear h ha
    go_enter Tryd.func7, Tryd.ntmps7
    go_wp2
    go_loopw [4] (fun i wr => ∃ k : Nat, k ≤ n ∧ i = .int .i64 k ∧ Fv wr w.heap.size n (upto (fun i => .bool (g i)) (.bool false) k) ∧ Below w.heap.size w wr) (fun i _ => n - (intOf i).toNat)
    case atStart => exact ⟨0, Nat.zero_le _, rfl, (fv_made w 4 (.bool false) n).congr (fun i _ => rfl), (Below.refl _ _).alloc (Nat.le_refl _) _⟩
    case round =>
      obtain ⟨k, hk, rfl, hrow, hbel⟩ := hrel
      by_cases hlt : k < n
      · obtain ⟨b, off, ha, hb, hcell⟩ := HR.out k hlt
        injection ha with ha
        subst ha
        have c1 := cell_later hbel hcell
        have c2 : wr.cell? ⟨w.heap.size, k, none⟩ = some (.bool false) := hrow.at_ hlt (by simp [upto])
        have c3 := hrow.frozen k
        have HSET := Lib.hid ((hrow.set hlt (.bool (g k))).congr (fun i _ => upto_step (fun i => .bool (g i)) _ k i))
        have HB := Lib.hid (hbel.setCell (p := ⟨w.heap.size, k, none⟩) (Nat.le_refl _) (.bool (g k)))
        obtain ⟨u, hu⟩ : ∃ u, u = g k := ⟨_, rfl⟩
        simp only [← hu] at c1 HSET HB
        clear hrow hbel hcell hb hu
        go_wp2
        go_roundw
        case rel => exact ⟨k + 1, by omega, by go_num, HSET.out, HB.out⟩
        case measure => simp [intOf]; omega
      · obtain rfl : k = n := by omega
        have HC := Lib.hid (hrow.congr (V' := fun i => .bool (g i)) (fun i hi => by simp [upto, hi]))
        have HB := Lib.hid hbel
        clear hrow hbel
        go_wp2
        go_ret
        exact ⟨_, _, rfl, Rs.of_fv HC.out, HB.out⟩

/-- The edges fit: what zzEdgesFit says of them. -/
def Ef (w : World) (n : Int) (m n2 n3 : Nat) (f t : Nat → Int) (e : Ending) (w' : World) : Prop := ∃ b, e = .returned (.bool b) ∧ (b = true → 0 ≤ n ∧ n ≤ 4096 ∧ n2 = m ∧ n3 = m ∧ ∀ i, i < m → f i < n ∧ t i < n) ∧ w = w'
set_option maxHeartbeats 1000000 in
theorem fit5 (n : Int) (A1 A2 A3 : Option Addr) (m c1 n2 c2 n3 c3 : Nat) (f t : Nat → Int) (w : World) (h1 : Rs w A1 m (fun i => .int .u32 (f i))) (h2 : Rs w A2 n2 (fun i => .int .u32 (t i))) (hm : m ≤ 1048576) (hf : ∀ i, 0 ≤ f i) (ht : ∀ i, 0 ≤ t i) :
    Calls Tryd.prog 5 #[.int .i64 n, .slice A1 m c1, .slice A2 n2 c2, .slice A3 n3 c3] w (Ef w n m n2 n3 f t) := by
  have H1 := Lib.hid h1
  have H2 := Lib.hid h2
  clear h1 h2
  by_cases a1 : n < 0
  · have g1 : decide (n < 0) = true := by simpa using a1
    clear a1
    go_enter Tryd.func5, Tryd.ntmps5
    go_wp2_with fail
    go_ret
    exact ⟨_, rfl, (fun h => by cases h), rfl⟩
  have g1 : decide (n < 0) = false := by simpa using a1
  by_cases a2 : 4096 < n
  · have g2 : decide (4096 < n) = true := by simpa using a2
    clear a1 a2
    go_enter Tryd.func5, Tryd.ntmps5
    go_wp2_with fail
    go_ret
    exact ⟨_, rfl, (fun h => by cases h), rfl⟩
  have g2 : decide (4096 < n) = false := by simpa using a2
  by_cases a3 : n2 = m
  case neg =>
    have g3 : ((n2 : Int) != (m : Int)) = true := by simp; omega
    clear a1 a2
    go_enter Tryd.func5, Tryd.ntmps5
    go_wp2_with fail
    go_ret
    exact ⟨_, rfl, (fun h => by cases h), rfl⟩
  subst a3
  have g3 : ((n2 : Int) != (n2 : Int)) = false := by simp
  by_cases a4 : n3 = n2
  case neg =>
    have g4 : ((n3 : Int) != (n2 : Int)) = true := by simp; omega
    clear a1 a2
    go_enter Tryd.func5, Tryd.ntmps5
    go_wp2_with fail
    go_ret
    exact ⟨_, rfl, (fun h => by cases h), rfl⟩
  subst a4
  have g4 : ((n3 : Int) != (n3 : Int)) = false := by simp
  have wn : IntKind.u32.wrap n = n := IntWalk.u32_in _ (by omega)
  have B := Lib.hid (show 0 ≤ n ∧ n ≤ 4096 from by omega)
  have HF := Lib.hid hf
  have HT := Lib.hid ht
  clear a1 a2 hf ht
  go_enter Tryd.func5, Tryd.ntmps5
  go_wp2
  go_loop [9] (fun i => ∃ k : Nat, k ≤ n3 ∧ i = .int .i64 k ∧ ∀ i, i < k → f i < n ∧ t i < n) (fun i => n3 - (intOf i).toNat)
  case atStart => exact ⟨0, Nat.zero_le _, rfl, fun i hi => absurd hi (Nat.not_lt_zero i)⟩
  case round =>
    obtain ⟨k, hk, rfl, hall⟩ := hrel
    have HA := Lib.hid hall
    clear hall
    by_cases hlt : k < n3
    · obtain ⟨b, off, ha, hb, hcell⟩ := H1.out k hlt
      obtain ⟨b', off', ha', hb', hcell'⟩ := H2.out k hlt
      subst ha ha'
      obtain ⟨x, hx⟩ : ∃ x, x = f k := ⟨_, rfl⟩
      obtain ⟨y, hy⟩ : ∃ y, y = t k := ⟨_, rfl⟩
      simp only [← hx] at hcell
      simp only [← hy] at hcell'
      have HX := Lib.hid hx
      have HY := Lib.hid hy
      clear hb hb' hx hy
      by_cases h1 : n ≤ x
      · have t1 : decide (n ≤ x) = true := by simpa using h1
        clear h1
        go_wp2
        go_ret
        exact ⟨_, rfl, (fun h => by cases h), rfl⟩
      · have t1 : decide (n ≤ x) = false := by simpa using h1
        by_cases h2 : n ≤ y
        · have t2 : decide (n ≤ y) = true := by simpa using h2
          clear h1 h2
          go_wp2
          go_ret
          exact ⟨_, rfl, (fun h => by cases h), rfl⟩
        · have t2 : decide (n ≤ y) = false := by simpa using h2
          have HA2 := Lib.hid (show ∀ i, i < k + 1 → f i < n ∧ t i < n by
            intro i hi
            by_cases e : i = k
            · subst e; rw [← HX.out, ← HY.out]; omega
            · exact HA.out i (by omega))
          clear h1 h2
          go_wp2
          go_round
          case rel => exact ⟨k + 1, by omega, by go_num, HA2.out⟩
          case measure => simp [intOf]; omega
    · obtain rfl : k = n3 := by omega
      go_wp2
      go_ret
      exact ⟨_, rfl, fun _ => ⟨B.out.1, B.out.2, rfl, rfl, HA.out⟩, rfl⟩
end Go.Proofs.YtfljkbfacncdgaaDoor.EnA
