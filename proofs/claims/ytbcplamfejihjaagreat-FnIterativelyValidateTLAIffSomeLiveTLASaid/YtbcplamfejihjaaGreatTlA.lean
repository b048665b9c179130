/- FnIterativelyValidateTLAIffSomeLiveTLA: helpers. -/
import Derived.Test.YtbcplamfejihjaaGreatRows
import Derived.Test.YtbcplamfejihjaaGreatMem
import Derived.Test.YtbcplamfejihjaaGreatSl
import Derived.Test.YtbcplamfejihjaaGreatArgs
import Derived.Test.YtbcplamfejihjaaGreatFvs
import Derived.Deep.RegionHeld3
import Derived.WalkKit
import Derived.ProofKit
import Derived.OpenShut
import Derived.Below
import Derived.WalkLawsBesides
import Derived.Lib.Hide
import Derived.Outline
import Derived.RegionTactic
import Derived.Deep.QuietTactic
import Derived.BigQuiet
import Derived.WalkSpells
import Derived.Deep.OwnRows
import Derived.IntWalk
import Derived.Deep.DeepMust
namespace Go.Proofs.YtbcplamfejihjaaGreat.TlA
open Go.RowKit Mem Sl
set_option linter.unusedVariables false
open Args Fvs

set_option maxHeartbeats 1000000 in
theorem bytes4 (A0 : Option Addr) (n0 c0 : Nat) (A1 : Option Addr) (n1 c1 : Nat) (A2 : Option Addr) (n2 c2 : Nat) (A3 : Option Addr) (n3 c3 : Nat) (A4 : Option Addr) (n4 c4 : Nat) (w : World) (m0 : n0 ≤ maxLen) (m1 : n1 ≤ maxLen) (m2 : n2 ≤ maxLen) (m3 : n3 ≤ maxLen) (m4 : n4 ≤ maxLen) : Calls Tryz.prog 4 #[.slice A0 n0 c0, .slice A1 n1 c1, .slice A2 n2 c2, .slice A3 n3 c3, .slice A4 n4 c4] w fun e w' => e = .returned (.bool (decide (n0 + n1 + n2 + n3 + n4 ≤ 1048576))) ∧ w = w' := by
  unfold maxLen at *
  by_cases h0 : n0 ≤ 1048576
  case neg =>
    go_enter Tryz.func4, Tryz.ntmps4
    go_wp2_with fail
    go_ret
    exact ⟨congrArg (fun b => Ending.returned (Value.bool b)) (show false = decide (n0 + n1 + n2 + n3 + n4 ≤ 1048576) by symm; simp; omega), rfl⟩
  by_cases h1 : n1 ≤ 1048576
  case neg =>
    go_enter Tryz.func4, Tryz.ntmps4
    go_wp2_with fail
    go_ret
    exact ⟨congrArg (fun b => Ending.returned (Value.bool b)) (show false = decide (n0 + n1 + n2 + n3 + n4 ≤ 1048576) by symm; simp; omega), rfl⟩
  by_cases g1 : n0 + n1 ≤ 1048576
  case neg =>
    go_enter Tryz.func4, Tryz.ntmps4
    go_wp2_with fail
    go_ret
    exact ⟨congrArg (fun b => Ending.returned (Value.bool b)) (show false = decide (n0 + n1 + n2 + n3 + n4 ≤ 1048576) by symm; simp; omega), rfl⟩
  by_cases h2 : n2 ≤ 1048576
  case neg =>
    go_enter Tryz.func4, Tryz.ntmps4
    go_wp2_with fail
    go_ret
    exact ⟨congrArg (fun b => Ending.returned (Value.bool b)) (show false = decide (n0 + n1 + n2 + n3 + n4 ≤ 1048576) by symm; simp; omega), rfl⟩
  by_cases g2 : n0 + n1 + n2 ≤ 1048576
  case neg =>
    go_enter Tryz.func4, Tryz.ntmps4
    go_wp2_with fail
    go_ret
    exact ⟨congrArg (fun b => Ending.returned (Value.bool b)) (show false = decide (n0 + n1 + n2 + n3 + n4 ≤ 1048576) by symm; simp; omega), rfl⟩
  by_cases h3 : n3 ≤ 1048576
  case neg =>
    go_enter Tryz.func4, Tryz.ntmps4
    go_wp2_with fail
    go_ret
    exact ⟨congrArg (fun b => Ending.returned (Value.bool b)) (show false = decide (n0 + n1 + n2 + n3 + n4 ≤ 1048576) by symm; simp; omega), rfl⟩
  by_cases g3 : n0 + n1 + n2 + n3 ≤ 1048576
  case neg =>
    go_enter Tryz.func4, Tryz.ntmps4
    go_wp2_with fail
    go_ret
    exact ⟨congrArg (fun b => Ending.returned (Value.bool b)) (show false = decide (n0 + n1 + n2 + n3 + n4 ≤ 1048576) by symm; simp; omega), rfl⟩
  by_cases h4 : n4 ≤ 1048576
  case neg =>
    go_enter Tryz.func4, Tryz.ntmps4
    go_wp2_with fail
    go_ret
    exact ⟨congrArg (fun b => Ending.returned (Value.bool b)) (show false = decide (n0 + n1 + n2 + n3 + n4 ≤ 1048576) by symm; simp; omega), rfl⟩
  by_cases g4 : n0 + n1 + n2 + n3 + n4 ≤ 1048576
  case neg =>
    go_enter Tryz.func4, Tryz.ntmps4
    go_wp2_with fail
    go_ret
    exact ⟨congrArg (fun b => Ending.returned (Value.bool b)) (show false = decide (n0 + n1 + n2 + n3 + n4 ≤ 1048576) by symm; simp; omega), rfl⟩
  go_enter Tryz.func4, Tryz.ntmps4
  go_wp2_with fail
  go_ret
  exact ⟨congrArg (fun b => Ending.returned (Value.bool b)) (show true = decide (n0 + n1 + n2 + n3 + n4 ≤ 1048576) by symm; simp; omega), rfl⟩

theorem copy6_info : (Tryz.prog.info? 4).map (fun i => (i.zero, i.size, i.bytes)) = some (some (.bool false), 1, 1) := by kernel_rfl
set_option maxHeartbeats 400000 in
theorem copy6 (A : Option Addr) (n c : Nat) (g : Nat → Bool) (w : World) (h : Rs w A n (fun i => .bool (g i))) (hn : n ≤ 4096) (ha : A = none → n = 0) :
    Calls Tryz.prog 6 #[.slice A n c] w (Cl w n (fun i => .bool (g i))) := by
  have heq := fun (W : World) (X : Option Addr) (l cc : Nat) => Lib.run_eql_slice_nil (P := Tryz.prog) W 22 4 X l cc 0 0 Tryz.underlying22
  rcases A with _ | a
  · obtain rfl : n = 0 := ha rfl
    go_enter Tryz.func6, Tryz.ntmps6
    go_wp2
    go_ret
    exact ⟨_, _, rfl, fun i hi => absurd hi (Nat.not_lt_zero i), Below.refl _ _⟩
  · have hmk := fun W => run_make_row' (P := Tryz.prog) 22 4 (.bool false) 1 Tryz.underlying22 copy6_info rfl .i64 .i64 n (by omega) (by omega) W
    have HR := Lib.hid h
    clear h ha
    go_enter Tryz.func6, Tryz.ntmps6
    go_wp2
    go_loopw [4] (fun i wr => ∃ k : Nat, k ≤ n ∧ i = .int .i64 k ∧ Fv wr w.heap.size n (upto (fun i => .bool (g i)) (.bool false) k) ∧ Below w.heap.size w wr) (fun i _ => n - (intOf i).toNat)
    case atStart => exact ⟨0, Nat.zero_le _, rfl, (fv_made w 4 (.bool false) n).congr (fun i _ => rfl), (Below.refl _ _).alloc (Nat.le_refl _) _⟩
    case round =>
      obtain ⟨k, hk, rfl, hrow, hbel⟩ := hrel
      by_cases hlt : k < n
      · obtain ⟨b, off, ha, hb, hcell⟩ := HR.out k hlt
        injection ha with ha
        subst ha
        have c1 := cell_later hbel hcell
        have c2 : wr.cell? ⟨w.heap.size, k, none⟩ = some (.bool false) := hrow.at_ hlt (by simp [upto])
        have c3 := hrow.frozen k
        have HSET := Lib.hid ((hrow.set hlt (.bool (g k))).congr (fun i _ => upto_step (fun i => .bool (g i)) _ k i))
        have HB := Lib.hid (hbel.setCell (p := ⟨w.heap.size, k, none⟩) (Nat.le_refl _) (.bool (g k)))
        obtain ⟨u, hu⟩ : ∃ u, u = g k := ⟨_, rfl⟩
        simp only [← hu] at c1 HSET HB
        clear hrow hbel hcell hb hu
        go_wp2
        go_roundw
        case rel => exact ⟨k + 1, by omega, by go_num, HSET.out, HB.out⟩
        case measure => simp [intOf]; omega
      · obtain rfl : k = n := by omega
        have HC := Lib.hid (hrow.congr (V' := fun i => .bool (g i)) (fun i hi => by simp [upto, hi]))
        have HB := Lib.hid hbel
        clear hrow hbel
        go_wp2
        go_ret
        exact ⟨_, _, rfl, Rs.of_fv HC.out, HB.out⟩

theorem copy7_info : (Tryz.prog.info? 36).map (fun i => (i.zero, i.size, i.bytes)) = some (some (.int .u32 0), 1, 4) := by kernel_rfl
set_option maxHeartbeats 400000 in
theorem copy7 (A : Option Addr) (n c : Nat) (g : Nat → Int) (w : World) (h : Rs w A n (fun i => .int .u32 (g i))) (hn : n ≤ 4096) (ha : A = none → n = 0) :
    Calls Tryz.prog 7 #[.slice A n c] w (Cl w n (fun i => .int .u32 (g i))) := by
  have heq := fun (W : World) (X : Option Addr) (l cc : Nat) => Lib.run_eql_slice_nil (P := Tryz.prog) W 23 36 X l cc 0 0 Tryz.underlying23
  rcases A with _ | a
  · obtain rfl : n = 0 := ha rfl
    go_enter Tryz.func7, Tryz.ntmps7
    go_wp2
    go_ret
    exact ⟨_, _, rfl, fun i hi => absurd hi (Nat.not_lt_zero i), Below.refl _ _⟩
  · have hmk := fun W => run_make_row' (P := Tryz.prog) 23 36 (.int .u32 0) 4 Tryz.underlying23 copy7_info rfl .i64 .i64 n (by omega) (by omega) W
    have HR := Lib.hid h
    clear h ha
    go_enter Tryz.func7, Tryz.ntmps7
    go_wp2
    go_loopw [4] (fun i wr => ∃ k : Nat, k ≤ n ∧ i = .int .i64 k ∧ Fv wr w.heap.size n (upto (fun i => .int .u32 (g i)) (.int .u32 0) k) ∧ Below w.heap.size w wr) (fun i _ => n - (intOf i).toNat)
    case atStart => exact ⟨0, Nat.zero_le _, rfl, (fv_made w 36 (.int .u32 0) n).congr (fun i _ => rfl), (Below.refl _ _).alloc (Nat.le_refl _) _⟩
    case round =>
      obtain ⟨k, hk, rfl, hrow, hbel⟩ := hrel
      by_cases hlt : k < n
      · obtain ⟨b, off, ha, hb, hcell⟩ := HR.out k hlt
        injection ha with ha
        subst ha
        have c1 := cell_later hbel hcell
        have c2 : wr.cell? ⟨w.heap.size, k, none⟩ = some (.int .u32 0) := hrow.at_ hlt (by simp [upto])
        have c3 := hrow.frozen k
        have HSET := Lib.hid ((hrow.set hlt (.int .u32 (g k))).congr (fun i _ => upto_step (fun i => .int .u32 (g i)) _ k i))
        have HB := Lib.hid (hbel.setCell (p := ⟨w.heap.size, k, none⟩) (Nat.le_refl _) (.int .u32 (g k)))
        obtain ⟨u, hu⟩ : ∃ u, u = g k := ⟨_, rfl⟩
        simp only [← hu] at c1 HSET HB
        clear hrow hbel hcell hb hu
        go_wp2
        go_roundw
        case rel => exact ⟨k + 1, by omega, by go_num, HSET.out, HB.out⟩
        case measure => simp [intOf]; omega
      · obtain rfl : k = n := by omega
        have HC := Lib.hid (hrow.congr (V' := fun i => .int .u32 (g i)) (fun i hi => by simp [upto, hi]))
        have HB := Lib.hid hbel
        clear hrow hbel
        go_wp2
        go_ret
        exact ⟨_, _, rfl, Rs.of_fv HC.out, HB.out⟩

theorem copy8_info : (Tryz.prog.info? 5).map (fun i => (i.zero, i.size, i.bytes)) = some (some (.int .u8 0), 1, 1) := by kernel_rfl
set_option maxHeartbeats 400000 in
theorem copy8 (A : Option Addr) (n c : Nat) (g : Nat → Int) (w : World) (h : Rs w A n (fun i => .int .u8 (g i))) (hn : n ≤ 4096) (ha : A = none → n = 0) :
    Calls Tryz.prog 8 #[.slice A n c] w (Cl w n (fun i => .int .u8 (g i))) := by
  have heq := fun (W : World) (X : Option Addr) (l cc : Nat) => Lib.run_eql_slice_nil (P := Tryz.prog) W 24 5 X l cc 0 0 Tryz.underlying24
  rcases A with _ | a
  · obtain rfl : n = 0 := ha rfl
    go_enter Tryz.func8, Tryz.ntmps8
    go_wp2
    go_ret
    exact ⟨_, _, rfl, fun i hi => absurd hi (Nat.not_lt_zero i), Below.refl _ _⟩
  · have hmk := fun W => run_make_row' (P := Tryz.prog) 24 5 (.int .u8 0) 1 Tryz.underlying24 copy8_info rfl .i64 .i64 n (by omega) (by omega) W
    have HR := Lib.hid h
    clear h ha
    go_enter Tryz.func8, Tryz.ntmps8
    go_wp2
    go_loopw [4] (fun i wr => ∃ k : Nat, k ≤ n ∧ i = .int .i64 k ∧ Fv wr w.heap.size n (upto (fun i => .int .u8 (g i)) (.int .u8 0) k) ∧ Below w.heap.size w wr) (fun i _ => n - (intOf i).toNat)
    case atStart => exact ⟨0, Nat.zero_le _, rfl, (fv_made w 5 (.int .u8 0) n).congr (fun i _ => rfl), (Below.refl _ _).alloc (Nat.le_refl _) _⟩
    case round =>
      obtain ⟨k, hk, rfl, hrow, hbel⟩ := hrel
      by_cases hlt : k < n
      · obtain ⟨b, off, ha, hb, hcell⟩ := HR.out k hlt
        injection ha with ha
        subst ha
        have c1 := cell_later hbel hcell
        have c2 : wr.cell? ⟨w.heap.size, k, none⟩ = some (.int .u8 0) := hrow.at_ hlt (by simp [upto])
        have c3 := hrow.frozen k
        have HSET := Lib.hid ((hrow.set hlt (.int .u8 (g k))).congr (fun i _ => upto_step (fun i => .int .u8 (g i)) _ k i))
        have HB := Lib.hid (hbel.setCell (p := ⟨w.heap.size, k, none⟩) (Nat.le_refl _) (.int .u8 (g k)))
        obtain ⟨u, hu⟩ : ∃ u, u = g k := ⟨_, rfl⟩
        simp only [← hu] at c1 HSET HB
        clear hrow hbel hcell hb hu
        go_wp2
        go_roundw
        case rel => exact ⟨k + 1, by omega, by go_num, HSET.out, HB.out⟩
        case measure => simp [intOf]; omega
      · obtain rfl : k = n := by omega
        have HC := Lib.hid (hrow.congr (V' := fun i => .int .u8 (g i)) (fun i hi => by simp [upto, hi]))
        have HB := Lib.hid hbel
        clear hrow hbel
        go_wp2
        go_ret
        exact ⟨_, _, rfl, Rs.of_fv HC.out, HB.out⟩

/-- The kind of an import by its number. -/
def kd (x : Int) : Int := if x % 3 = 0 then 1 else if x % 3 = 1 then 2 else 3
theorem kinds_info : (Tryz.prog.info? 42).map (fun i => (i.zero, i.size, i.bytes)) = some (some (.int .u8 0), 1, 1) := by kernel_rfl
set_option maxHeartbeats 1000000 in
theorem kinds10 (A : Option Addr) (n c : Nat) (f : Nat → Int) (w : World) (h : Rs w A n (fun i => .int .u8 (f i))) (hf : ∀ i, i < n → 0 ≤ f i ∧ f i ≤ 255) (hn : n ≤ 4096) :
    Calls Tryz.prog 10 #[.slice A n c] w (Cl w n (fun i => .int .u8 (kd (f i)))) := by
  have hmk := fun W => run_make_row' (P := Tryz.prog) 33 42 (.int .u8 0) 1 Tryz.underlying33 kinds_info rfl .i64 .i64 n (by omega) (by omega) W
  have HR := Lib.hid h
  have HF := Lib.hid hf
  clear h hf
  go_enter Tryz.func10, Tryz.ntmps10
  go_wp2
  go_loopw [4] (fun i wr => ∃ k : Nat, k ≤ n ∧ i = .int .i64 k ∧ Fv wr w.heap.size n (upto (fun i => .int .u8 (kd (f i))) (.int .u8 0) k) ∧ Below w.heap.size w wr) (fun i _ => n - (intOf i).toNat)
  case atStart => exact ⟨0, Nat.zero_le _, rfl, (fv_made w 42 (.int .u8 0) n).congr (fun i _ => rfl), (Below.refl _ _).alloc (Nat.le_refl _) _⟩
  case round =>
    obtain ⟨k, hk, rfl, hrow, hbel⟩ := hrel
    by_cases hlt : k < n
    · obtain ⟨b, off, ha, hb, hcell⟩ := HR.out k hlt
      subst ha
      have c1 := cell_later hbel hcell
      have c2 : wr.cell? ⟨w.heap.size, k, none⟩ = some (.int .u8 0) := hrow.at_ hlt (by simp [upto])
      have c3 := hrow.frozen k
      obtain ⟨x0, x1⟩ := HF.out k hlt
      have HSET := Lib.hid ((hrow.set hlt (.int .u8 (kd (f k)))).congr (fun i _ => upto_step (fun i => .int .u8 (kd (f i))) _ k i))
      have HB := Lib.hid (hbel.setCell (p := ⟨w.heap.size, k, none⟩) (Nat.le_refl _) (.int .u8 (kd (f k))))
      obtain ⟨x, hx⟩ : ∃ x, x = f k := ⟨_, rfl⟩
      simp only [← hx] at c1 x0 x1
      rw [← hx] at HSET HB
      clear hrow hbel hcell hb hx
      have h3 : x % 3 = 0 ∨ x % 3 = 1 ∨ x % 3 = 2 := by omega
      rcases h3 with h3 | h3 | h3
      · have e : kd x = 1 := by unfold kd; rw [if_pos h3]
        have t1 : (x % 3 == 0) = true := by simp [h3]
        rw [e] at HSET HB
        clear e h3
        go_wp2
        go_roundw
        case rel => exact ⟨k + 1, by omega, by go_num, HSET.out, HB.out⟩
        case measure => simp [intOf]; omega
      · have e : kd x = 2 := by unfold kd; rw [if_neg (by omega), if_pos h3]
        have t1 : (x % 3 == 0) = false := by simp [h3]
        have t2 : (x % 3 == 1) = true := by simp [h3]
        rw [e] at HSET HB
        clear e h3
        go_wp2
        go_roundw
        case rel => exact ⟨k + 1, by omega, by go_num, HSET.out, HB.out⟩
        case measure => simp [intOf]; omega
      · have e : kd x = 3 := by unfold kd; rw [if_neg (by omega), if_neg (by omega)]
        have t1 : (x % 3 == 0) = false := by simp [h3]
        have t2 : (x % 3 == 1) = false := by simp [h3]
        rw [e] at HSET HB
        clear e h3
        go_wp2
        go_roundw
        case rel => exact ⟨k + 1, by omega, by go_num, HSET.out, HB.out⟩
        case measure => simp [intOf]; omega
    · obtain rfl : k = n := by omega
      have HC := Lib.hid (hrow.congr (V' := fun i => .int .u8 (kd (f i))) (fun i hi => by simp [upto, hi]))
      have HB := Lib.hid hbel
      clear hrow hbel
      go_wp2
      go_ret
      exact ⟨_, _, rfl, Rs.of_fv HC.out, HB.out⟩
/-- Every edge lies inside the graph. -/
def Ed (w : World) (n m : Nat) (f t : Nat → Int) (e : Ending) (w' : World) : Prop := ∃ b, e = .returned (.bool b) ∧ (b = true → ∀ i, i < m → f i < n ∧ t i < n) ∧ w = w'
set_option maxHeartbeats 1000000 in
theorem edges5 (n : Nat) (A : Option Addr) (m c : Nat) (A' : Option Addr) (c' : Nat) (f t : Nat → Int) (w : World) (h : Rs w A m (fun i => .int .u32 (f i))) (h' : Rs w A' m (fun i => .int .u32 (t i))) (hf : ∀ i, i < m → 0 ≤ f i ∧ f i ≤ 4294967295) (ht : ∀ i, i < m → 0 ≤ t i ∧ t i ≤ 4294967295) (hm : m ≤ 4096) (hn : n ≤ 4096) :
    Calls Tryz.prog 5 #[.int .i64 (n : Int), .slice A m c, .slice A' m c'] w (Ed w n m f t) := by
  have HR := Lib.hid h
  have HR' := Lib.hid h'
  have HF := Lib.hid hf
  have HT := Lib.hid ht
  clear h h' hf ht
  go_enter Tryz.func5, Tryz.ntmps5
  go_wp2
  go_loop [7] (fun i => ∃ k : Nat, k ≤ m ∧ i = .int .i64 k ∧ ∀ i, i < k → f i < n ∧ t i < n) (fun i => m - (intOf i).toNat)
  case atStart => exact ⟨0, Nat.zero_le _, rfl, fun i hi => absurd hi (Nat.not_lt_zero i)⟩
  case round =>
    obtain ⟨k, hk, rfl, hall⟩ := hrel
    have HA := Lib.hid hall
    clear hall
    by_cases hlt : k < m
    · obtain ⟨b, off, ha, hb, hcell⟩ := HR.out k hlt
      obtain ⟨b', off', ha', hb', hcell'⟩ := HR'.out k hlt
      subst ha ha'
      obtain ⟨x0, x1⟩ := HF.out k hlt
      obtain ⟨y0, y1⟩ := HT.out k hlt
      obtain ⟨x, hx⟩ : ∃ x, x = f k := ⟨_, rfl⟩
      obtain ⟨y, hy⟩ : ∃ y, y = t k := ⟨_, rfl⟩
      simp only [← hx] at hcell x0 x1
      simp only [← hy] at hcell' y0 y1
      have HX := Lib.hid hx
      have HY := Lib.hid hy
      clear hb hb' hx hy
      by_cases h1 : x < (n : Int)
      · by_cases h2 : y < (n : Int)
        · have t1 : decide ((n : Int) ≤ x) = false := by simp; omega
          have t2 : decide ((n : Int) ≤ y) = false := by simp; omega
          have HA2 := Lib.hid (show ∀ i, i < k + 1 → f i < n ∧ t i < n by
            intro i hi
            by_cases e : i = k
            · subst e; rw [← HX.out, ← HY.out]; exact ⟨h1, h2⟩
            · exact HA.out i (by omega))
          go_wp2
          go_round
          case rel => exact ⟨k + 1, by omega, by go_num, HA2.out⟩
          case measure => simp [intOf]; omega
        · have t1 : decide ((n : Int) ≤ x) = false := by simp; omega
          have t2 : decide ((n : Int) ≤ y) = true := by simp; omega
          go_wp2
          go_ret
          exact ⟨_, rfl, (fun h => by cases h), rfl⟩
      · have t1 : decide ((n : Int) ≤ x) = true := by simp; omega
        go_wp2
        go_ret
        exact ⟨_, rfl, (fun h => by cases h), rfl⟩
    · obtain rfl : k = m := by omega
      go_wp2
      go_ret
      exact ⟨_, rfl, fun _ => HA.out, rfl⟩
theorem xor_u32 (x : Int) (h : 0 ≤ x ∧ x ≤ 4294967295) : bits .xor .u32 IntKind.u32.max x = 4294967295 - x := by
  obtain ⟨a, rfl⟩ := Int.eq_ofNat_of_zero_le h.1
  have hm : BitVec.ofInt 32 IntKind.u32.max = BitVec.allOnes 32 := by decide
  show IntKind.u32.wrap ((BitVec.ofInt 32 IntKind.u32.max ^^^ BitVec.ofInt 32 (a : Int)).toNat : Int) = _
  rw [hm, BitVec.allOnes_xor, BitVec.toNat_not, BitVec.ofInt_natCast, BitVec.toNat_ofNat, Nat.mod_eq_of_lt (by omega), IntWalk.u32_in _ (by omega)]
  omega
theorem make12 (x : Int) (w : World) (h : 0 ≤ x ∧ x ≤ 4294967295) : Calls Tryz.prog 12 #[.int .u32 x] w fun e w' => e = .returned (.agg #[.int .u32 (4294967295 - x)]) ∧ Below w.heap.size w w' := by
  have HB := Lib.hid (Below.refl w.heap.size w)
  have hx := xor_u32 x h
  go_enter Tryz.func12, Tryz.ntmps12
  go_wp2
  exact bodyPost_ret (v := .agg #[.int .u32 (4294967295 - x)]) (by simp [results, Tryz.results12, go_sem]) rfl ⟨rfl, by repeat (first | exact HB.out | (refine Below.alloc ?_ (by simp <;> omega) _) | (refine Below.setCell ?_ (by simp <;> omega) _))⟩
theorem get26 (x : Int) (w : World) (h : 0 ≤ x ∧ x ≤ 4294967295) : Calls Tryz.prog 26 #[.agg #[.int .u32 x]] w fun e w' => e = .returned (.int .u32 (4294967295 - x)) ∧ Below w.heap.size w w' := by
  have HB := Lib.hid ((Below.refl w.heap.size w).alloc (Nat.le_refl _) (.cells #[.int .u32 x] 40))
  have hx := xor_u32 x h
  go_enter Tryz.func26, Tryz.ntmps26
  go_wp2
  go_ret
  exact ⟨rfl, HB.out⟩
theorem val27 (x : Int) (w : World) (b : Bool) (hb : (x != 0) = b) : Calls Tryz.prog 27 #[.agg #[.int .u32 x]] w fun e w' => e = .returned (.bool b) ∧ Below w.heap.size w w' := by
  have HB := Lib.hid ((Below.refl w.heap.size w).alloc (Nat.le_refl _) (.cells #[.int .u32 x] 40))
  go_enter Tryz.func27, Tryz.ntmps27
  go_wp2
  go_ret
  exact ⟨rfl, HB.out⟩
end Go.Proofs.YtbcplamfejihjaaGreat.TlA
