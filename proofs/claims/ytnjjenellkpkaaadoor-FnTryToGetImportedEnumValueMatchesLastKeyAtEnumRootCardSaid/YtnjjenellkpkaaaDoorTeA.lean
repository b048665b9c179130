/- FnTryToGetImportedEnumValueMatchesLastKeyAtEnumRoot: copies, sizes, floats. -/
import Derived.Test.YtnjjenellkpkaaaDoorRows
import Derived.Test.YtnjjenellkpkaaaDoorMem
import Derived.Test.YtnjjenellkpkaaaDoorSl
import Derived.Test.YtnjjenellkpkaaaDoorArgw
import Derived.Test.YtnjjenellkpkaaaDoorFvs
import Derived.Deep.RegionHeld3
import Derived.WalkKit
import Derived.ProofKit
import Derived.OpenShut
import Derived.Below
import Derived.WalkLawsBesides
import Derived.Lib.Hide
import Derived.Outline
import Derived.RegionTactic
import Derived.Deep.QuietTactic
import Derived.BigQuiet
import Derived.WalkSpells
import Derived.Deep.OwnRows
import Derived.IntWalk
import Derived.Deep.DeepMust
namespace Go.Proofs.YtnjjenellkpkaaaDoor.TeA
open Go.RowKit Mem Sl
set_option linter.unusedVariables false
open Args Argw Fvs

theorem rs_strs {w : World} {A : Option Addr} {n c : Nat} {zs : List ByteArray} (h : Args.IsStrs w A n c zs) : Rs w A n (fun i => .string (zs.getD i ByteArray.empty)) := fun i hi => by
  obtain ⟨h1, h2, h3, h4, h5, h6⟩ := h
  obtain ⟨b, o, ha, hb, hc⟩ := h6 (by omega)
  exact ⟨b, o, ha, hb, hc i hi⟩
theorem rs_floats {k : FloatKind} {w : World} {A : Option Addr} {n c : Nat} {zs : List Nat} (h : IsFloats k w A n c zs) : Rs w A n (fun i => .float k (zs.getD i 0)) := fun i hi => by
  obtain ⟨h1, h2, h3, h4, h5, h6⟩ := h
  obtain ⟨b, o, ha, hb, hc⟩ := h6 (by omega)
  exact ⟨b, o, ha, hb, hc i hi⟩

def ClN (w : World) (n : Nat) (V : Nat → Value) (e : Ending) (w' : World) : Prop := ∃ A' c', e = .returned (.slice A' n c') ∧ Rs w' A' n V ∧ Below w.heap.size w w' ∧ (∀ b o, A' = some ⟨b, o, none⟩ → w.heap.size ≤ b) ∧ (A' = none → n = 0 ∧ c' = 0)

theorem copy8_info : (Tryd.prog.info? 5).map (fun i => (i.zero, i.size, i.bytes)) = some (some (.int .u8 0), 1, 1) := by kernel_rfl
set_option maxHeartbeats 400000 in
theorem copy8 (A : Option Addr) (n c : Nat) (g : Nat → Int) (w : World) (h : Rs w A n (fun i => .int .u8 (g i))) (hn : n ≤ 1048576) (ha : A = none → n = 0 ∧ c = 0) :
    Calls Tryd.prog 8 #[.slice A n c] w (ClN w n (fun i => .int .u8 (g i))) := by
  have heq := fun (W : World) (X : Option Addr) (l cc : Nat) => Lib.run_eql_slice_nil (P := Tryd.prog) W 22 5 X l cc 0 0 Tryd.underlying22
  rcases A with _ | a
  · obtain ⟨rfl, rfl⟩ := ha rfl
    go_enter Tryd.func8, Tryd.ntmps8
    go_wp2
    go_ret
    exact ⟨_, _, rfl, fun i hi => absurd hi (Nat.not_lt_zero i), Below.refl _ _, (fun _ _ h => by cases h), fun _ => ⟨rfl, rfl⟩⟩
  · have hmk := fun W => run_make_row' (P := Tryd.prog) 22 5 (.int .u8 0) 1 Tryd.underlying22 copy8_info rfl .i64 .i64 n (by omega) (by omega) W
    have HR := Lib.hid h
    clear h ha
    go_enter Tryd.func8, Tryd.ntmps8
    go_wp2
    go_loopw [4] (fun i wr => ∃ k : Nat, k ≤ n ∧ i = .int .i64 k ∧ Fv wr w.heap.size n (upto (fun i => .int .u8 (g i)) (.int .u8 0) k) ∧ Below w.heap.size w wr) (fun i _ => n - (intOf i).toNat)
    case atStart => exact ⟨0, Nat.zero_le _, rfl, (fv_made w 5 (.int .u8 0) n).congr (fun i _ => rfl), (Below.refl _ _).alloc (Nat.le_refl _) _⟩
    case round =>
      obtain ⟨k, hk, rfl, hrow, hbel⟩ := hrel
      by_cases hlt : k < n
      · obtain ⟨b, off, ha, hb, hcell⟩ := HR.out k hlt
        injection ha with ha
        subst ha
        have c1 := cell_later hbel hcell
        have c2 : wr.cell? ⟨w.heap.size, k, none⟩ = some (.int .u8 0) := hrow.at_ hlt (by simp [upto])
        have c3 := hrow.frozen k
        have HSET := Lib.hid ((hrow.set hlt (.int .u8 (g k))).congr (fun i _ => upto_step (fun i => .int .u8 (g i)) _ k i))
        have HB := Lib.hid (hbel.setCell (p := ⟨w.heap.size, k, none⟩) (Nat.le_refl _) (.int .u8 (g k)))
        obtain ⟨u, hu⟩ : ∃ u, u = g k := ⟨_, rfl⟩
        simp only [← hu] at c1 HSET HB
        clear hrow hbel hcell hb hu
        go_wp2
        go_roundw
        case rel => exact ⟨k + 1, by omega, by go_num, HSET.out, HB.out⟩
        case measure => simp [intOf]; omega
      · obtain rfl : k = n := by omega
        have HC := Lib.hid (hrow.congr (V' := fun i => .int .u8 (g i)) (fun i hi => by simp [upto, hi]))
        have HB := Lib.hid hbel
        clear hrow hbel
        go_wp2
        go_ret
        exact ⟨_, _, rfl, Rs.of_fv HC.out, HB.out, (fun b o h => by cases h; exact Nat.le_refl _), fun h => by cases h⟩

theorem copy9_info : (Tryd.prog.info? 21).map (fun i => (i.zero, i.size, i.bytes)) = some (some (.int .i32 0), 1, 4) := by kernel_rfl
set_option maxHeartbeats 400000 in
theorem copy9 (A : Option Addr) (n c : Nat) (g : Nat → Int) (w : World) (h : Rs w A n (fun i => .int .i32 (g i))) (hn : n ≤ 1048576) (ha : A = none → n = 0 ∧ c = 0) :
    Calls Tryd.prog 9 #[.slice A n c] w (ClN w n (fun i => .int .i32 (g i))) := by
  have heq := fun (W : World) (X : Option Addr) (l cc : Nat) => Lib.run_eql_slice_nil (P := Tryd.prog) W 23 21 X l cc 0 0 Tryd.underlying23
  rcases A with _ | a
  · obtain ⟨rfl, rfl⟩ := ha rfl
    go_enter Tryd.func9, Tryd.ntmps9
    go_wp2
    go_ret
    exact ⟨_, _, rfl, fun i hi => absurd hi (Nat.not_lt_zero i), Below.refl _ _, (fun _ _ h => by cases h), fun _ => ⟨rfl, rfl⟩⟩
  · have hmk := fun W => run_make_row' (P := Tryd.prog) 23 21 (.int .i32 0) 4 Tryd.underlying23 copy9_info rfl .i64 .i64 n (by omega) (by omega) W
    have HR := Lib.hid h
    clear h ha
    go_enter Tryd.func9, Tryd.ntmps9
    go_wp2
    go_loopw [4] (fun i wr => ∃ k : Nat, k ≤ n ∧ i = .int .i64 k ∧ Fv wr w.heap.size n (upto (fun i => .int .i32 (g i)) (.int .i32 0) k) ∧ Below w.heap.size w wr) (fun i _ => n - (intOf i).toNat)
    case atStart => exact ⟨0, Nat.zero_le _, rfl, (fv_made w 21 (.int .i32 0) n).congr (fun i _ => rfl), (Below.refl _ _).alloc (Nat.le_refl _) _⟩
    case round =>
      obtain ⟨k, hk, rfl, hrow, hbel⟩ := hrel
      by_cases hlt : k < n
      · obtain ⟨b, off, ha, hb, hcell⟩ := HR.out k hlt
        injection ha with ha
        subst ha
        have c1 := cell_later hbel hcell
        have c2 : wr.cell? ⟨w.heap.size, k, none⟩ = some (.int .i32 0) := hrow.at_ hlt (by simp [upto])
        have c3 := hrow.frozen k
        have HSET := Lib.hid ((hrow.set hlt (.int .i32 (g k))).congr (fun i _ => upto_step (fun i => .int .i32 (g i)) _ k i))
        have HB := Lib.hid (hbel.setCell (p := ⟨w.heap.size, k, none⟩) (Nat.le_refl _) (.int .i32 (g k)))
        obtain ⟨u, hu⟩ : ∃ u, u = g k := ⟨_, rfl⟩
        simp only [← hu] at c1 HSET HB
        clear hrow hbel hcell hb hu
        go_wp2
        go_roundw
        case rel => exact ⟨k + 1, by omega, by go_num, HSET.out, HB.out⟩
        case measure => simp [intOf]; omega
      · obtain rfl : k = n := by omega
        have HC := Lib.hid (hrow.congr (V' := fun i => .int .i32 (g i)) (fun i hi => by simp [upto, hi]))
        have HB := Lib.hid hbel
        clear hrow hbel
        go_wp2
        go_ret
        exact ⟨_, _, rfl, Rs.of_fv HC.out, HB.out, (fun b o h => by cases h; exact Nat.le_refl _), fun h => by cases h⟩

theorem copy10_info : (Tryd.prog.info? 9).map (fun i => (i.zero, i.size, i.bytes)) = some (some (.string ByteArray.empty), 1, 16) := by kernel_rfl
set_option maxHeartbeats 400000 in
theorem copy10 (A : Option Addr) (n c : Nat) (g : Nat → ByteArray) (w : World) (h : Rs w A n (fun i => .string (g i))) (hn : n ≤ 1048576) (ha : A = none → n = 0 ∧ c = 0) :
    Calls Tryd.prog 10 #[.slice A n c] w (ClN w n (fun i => .string (g i))) := by
  have heq := fun (W : World) (X : Option Addr) (l cc : Nat) => Lib.run_eql_slice_nil (P := Tryd.prog) W 24 9 X l cc 0 0 Tryd.underlying24
  rcases A with _ | a
  · obtain ⟨rfl, rfl⟩ := ha rfl
    go_enter Tryd.func10, Tryd.ntmps10
    go_wp2
    go_ret
    exact ⟨_, _, rfl, fun i hi => absurd hi (Nat.not_lt_zero i), Below.refl _ _, (fun _ _ h => by cases h), fun _ => ⟨rfl, rfl⟩⟩
  · have hmk := fun W => run_make_row' (P := Tryd.prog) 24 9 (.string ByteArray.empty) 16 Tryd.underlying24 copy10_info rfl .i64 .i64 n (by omega) (by omega) W
    have HR := Lib.hid h
    clear h ha
    go_enter Tryd.func10, Tryd.ntmps10
    go_wp2
    go_loopw [4] (fun i wr => ∃ k : Nat, k ≤ n ∧ i = .int .i64 k ∧ Fv wr w.heap.size n (upto (fun i => .string (g i)) (.string ByteArray.empty) k) ∧ Below w.heap.size w wr) (fun i _ => n - (intOf i).toNat)
    case atStart => exact ⟨0, Nat.zero_le _, rfl, (fv_made w 9 (.string ByteArray.empty) n).congr (fun i _ => rfl), (Below.refl _ _).alloc (Nat.le_refl _) _⟩
    case round =>
      obtain ⟨k, hk, rfl, hrow, hbel⟩ := hrel
      by_cases hlt : k < n
      · obtain ⟨b, off, ha, hb, hcell⟩ := HR.out k hlt
        injection ha with ha
        subst ha
        have c1 := cell_later hbel hcell
        have c2 : wr.cell? ⟨w.heap.size, k, none⟩ = some (.string ByteArray.empty) := hrow.at_ hlt (by simp [upto])
        have c3 := hrow.frozen k
        have HSET := Lib.hid ((hrow.set hlt (.string (g k))).congr (fun i _ => upto_step (fun i => .string (g i)) _ k i))
        have HB := Lib.hid (hbel.setCell (p := ⟨w.heap.size, k, none⟩) (Nat.le_refl _) (.string (g k)))
        obtain ⟨u, hu⟩ : ∃ u, u = g k := ⟨_, rfl⟩
        simp only [← hu] at c1 HSET HB
        clear hrow hbel hcell hb hu
        go_wp2
        go_roundw
        case rel => exact ⟨k + 1, by omega, by go_num, HSET.out, HB.out⟩
        case measure => simp [intOf]; omega
      · obtain rfl : k = n := by omega
        have HC := Lib.hid (hrow.congr (V' := fun i => .string (g i)) (fun i hi => by simp [upto, hi]))
        have HB := Lib.hid hbel
        clear hrow hbel
        go_wp2
        go_ret
        exact ⟨_, _, rfl, Rs.of_fv HC.out, HB.out, (fun b o h => by cases h; exact Nat.le_refl _), fun h => by cases h⟩

theorem copy11_info : (Tryd.prog.info? 44).map (fun i => (i.zero, i.size, i.bytes)) = some (some (.float .f64 0), 1, 8) := by kernel_rfl
set_option maxHeartbeats 400000 in
theorem copy11 (A : Option Addr) (n c : Nat) (g : Nat → Nat) (w : World) (h : Rs w A n (fun i => .float .f64 (g i))) (hn : n ≤ 1048576) (ha : A = none → n = 0 ∧ c = 0) :
    Calls Tryd.prog 11 #[.slice A n c] w (ClN w n (fun i => .float .f64 (g i))) := by
  have heq := fun (W : World) (X : Option Addr) (l cc : Nat) => Lib.run_eql_slice_nil (P := Tryd.prog) W 25 44 X l cc 0 0 Tryd.underlying25
  rcases A with _ | a
  · obtain ⟨rfl, rfl⟩ := ha rfl
    go_enter Tryd.func11, Tryd.ntmps11
    go_wp2
    go_ret
    exact ⟨_, _, rfl, fun i hi => absurd hi (Nat.not_lt_zero i), Below.refl _ _, (fun _ _ h => by cases h), fun _ => ⟨rfl, rfl⟩⟩
  · have hmk := fun W => run_make_row' (P := Tryd.prog) 25 44 (.float .f64 0) 8 Tryd.underlying25 copy11_info rfl .i64 .i64 n (by omega) (by omega) W
    have HR := Lib.hid h
    clear h ha
    go_enter Tryd.func11, Tryd.ntmps11
    go_wp2
    go_loopw [4] (fun i wr => ∃ k : Nat, k ≤ n ∧ i = .int .i64 k ∧ Fv wr w.heap.size n (upto (fun i => .float .f64 (g i)) (.float .f64 0) k) ∧ Below w.heap.size w wr) (fun i _ => n - (intOf i).toNat)
    case atStart => exact ⟨0, Nat.zero_le _, rfl, (fv_made w 44 (.float .f64 0) n).congr (fun i _ => rfl), (Below.refl _ _).alloc (Nat.le_refl _) _⟩
    case round =>
      obtain ⟨k, hk, rfl, hrow, hbel⟩ := hrel
      by_cases hlt : k < n
      · obtain ⟨b, off, ha, hb, hcell⟩ := HR.out k hlt
        injection ha with ha
        subst ha
        have c1 := cell_later hbel hcell
        have c2 : wr.cell? ⟨w.heap.size, k, none⟩ = some (.float .f64 0) := hrow.at_ hlt (by simp [upto])
        have c3 := hrow.frozen k
        have HSET := Lib.hid ((hrow.set hlt (.float .f64 (g k))).congr (fun i _ => upto_step (fun i => .float .f64 (g i)) _ k i))
        have HB := Lib.hid (hbel.setCell (p := ⟨w.heap.size, k, none⟩) (Nat.le_refl _) (.float .f64 (g k)))
        obtain ⟨u, hu⟩ : ∃ u, u = g k := ⟨_, rfl⟩
        simp only [← hu] at c1 HSET HB
        clear hrow hbel hcell hb hu
        have hst : (store ⟨w.heap.size, k, none⟩ (.float .f64 u)).run Tryd.prog wr = .ok () (wr.setCell ⟨w.heap.size, k, none⟩ (.float .f64 u)) := by rw [run_store _ _ _ _ _ rfl, c2]; simp [c3]
        go_wp2
        go_roundw
        case rel => exact ⟨k + 1, by omega, by go_num, HSET.out, HB.out⟩
        case measure => simp [intOf]; omega
      · obtain rfl : k = n := by omega
        have HC := Lib.hid (hrow.congr (V' := fun i => .float .f64 (g i)) (fun i hi => by simp [upto, hi]))
        have HB := Lib.hid hbel
        clear hrow hbel
        go_wp2
        go_ret
        exact ⟨_, _, rfl, Rs.of_fv HC.out, HB.out, (fun b o h => by cases h; exact Nat.le_refl _), fun h => by cases h⟩

theorem copy22_info : (Tryd.prog.info? 61).map (fun i => (i.zero, i.size, i.bytes)) = some (some (.int .u16 0), 1, 2) := by kernel_rfl
set_option maxHeartbeats 400000 in
theorem copy22 (A : Option Addr) (n c : Nat) (g : Nat → Int) (w : World) (h : Rs w A n (fun i => .int .u16 (g i))) (hn : n ≤ 1048576) (ha : A = none → n = 0 ∧ c = 0) :
    Calls Tryd.prog 22 #[.slice A n c] w (ClN w n (fun i => .int .u16 (g i))) := by
  have heq := fun (W : World) (X : Option Addr) (l cc : Nat) => Lib.run_eql_slice_nil (P := Tryd.prog) W 43 61 X l cc 0 0 Tryd.underlying43
  rcases A with _ | a
  · obtain ⟨rfl, rfl⟩ := ha rfl
    go_enter Tryd.func22, Tryd.ntmps22
    go_wp2
    go_ret
    exact ⟨_, _, rfl, fun i hi => absurd hi (Nat.not_lt_zero i), Below.refl _ _, (fun _ _ h => by cases h), fun _ => ⟨rfl, rfl⟩⟩
  · have hmk := fun W => run_make_row' (P := Tryd.prog) 43 61 (.int .u16 0) 2 Tryd.underlying43 copy22_info rfl .i64 .i64 n (by omega) (by omega) W
    have HR := Lib.hid h
    clear h ha
    go_enter Tryd.func22, Tryd.ntmps22
    go_wp2
    go_loopw [4] (fun i wr => ∃ k : Nat, k ≤ n ∧ i = .int .i64 k ∧ Fv wr w.heap.size n (upto (fun i => .int .u16 (g i)) (.int .u16 0) k) ∧ Below w.heap.size w wr) (fun i _ => n - (intOf i).toNat)
    case atStart => exact ⟨0, Nat.zero_le _, rfl, (fv_made w 61 (.int .u16 0) n).congr (fun i _ => rfl), (Below.refl _ _).alloc (Nat.le_refl _) _⟩
    case round =>
      obtain ⟨k, hk, rfl, hrow, hbel⟩ := hrel
      by_cases hlt : k < n
      · obtain ⟨b, off, ha, hb, hcell⟩ := HR.out k hlt
        injection ha with ha
        subst ha
        have c1 := cell_later hbel hcell
        have c2 : wr.cell? ⟨w.heap.size, k, none⟩ = some (.int .u16 0) := hrow.at_ hlt (by simp [upto])
        have c3 := hrow.frozen k
        have HSET := Lib.hid ((hrow.set hlt (.int .u16 (g k))).congr (fun i _ => upto_step (fun i => .int .u16 (g i)) _ k i))
        have HB := Lib.hid (hbel.setCell (p := ⟨w.heap.size, k, none⟩) (Nat.le_refl _) (.int .u16 (g k)))
        obtain ⟨u, hu⟩ : ∃ u, u = g k := ⟨_, rfl⟩
        simp only [← hu] at c1 HSET HB
        clear hrow hbel hcell hb hu
        go_wp2
        go_roundw
        case rel => exact ⟨k + 1, by omega, by go_num, HSET.out, HB.out⟩
        case measure => simp [intOf]; omega
      · obtain rfl : k = n := by omega
        have HC := Lib.hid (hrow.congr (V' := fun i => .int .u16 (g i)) (fun i hi => by simp [upto, hi]))
        have HB := Lib.hid hbel
        clear hrow hbel
        go_wp2
        go_ret
        exact ⟨_, _, rfl, Rs.of_fv HC.out, HB.out, (fun b o h => by cases h; exact Nat.le_refl _), fun h => by cases h⟩

/-- Rows of numbers: the headers, and each row. -/
structure Rw (w : World) (A : Option Addr) (n : Nat) (Ar : Nat → Option Addr) (L C : Nat → Nat) (Z : Nat → Nat → Int) : Prop where
  hd : Rs w A n (fun i => .slice (Ar i) (L i) (C i))
  row : ∀ i, i < n → Rs w (Ar i) (L i) (fun j => .int .u16 (Z i j))
theorem Rw.later {w w' : World} {A : Option Addr} {n : Nat} {Ar : Nat → Option Addr} {L C : Nat → Nat} {Z : Nat → Nat → Int} (h : Rw w A n Ar L C Z) (hb : Below w.heap.size w w') : Rw w' A n Ar L C Z := ⟨h.hd.later hb, fun i hi => (h.row i hi).later hb⟩
theorem rw_of {w : World} {A : Option Addr} {n c : Nat} {Ar : Nat → Option Addr} {L C : Nat → Nat} {Z : Nat → List Int} (h : IsRows .u16 w A n c Ar L C Z) : Rw w A n Ar L C (fun i j => (Z i).getD j 0) :=
  ⟨fun i hi => h.cell i hi, fun i hi => Rs.of_ints (h.row i hi)⟩
def ClR (w : World) (n : Nat) (L : Nat → Nat) (Z : Nat → Nat → Int) (e : Ending) (w' : World) : Prop := ∃ A' c' Ar' C', e = .returned (.slice A' n c') ∧ Rw w' A' n Ar' L C' Z ∧ Below w.heap.size w w' ∧ ∀ i, i < n → Ar' i = none → L i = 0 ∧ C' i = 0
theorem copy12_info : (Tryd.prog.info? 43).map (fun i => (i.zero, i.size, i.bytes)) = some (some (.slice none 0 0), 1, 24) := by kernel_rfl
set_option maxHeartbeats 1000000 in
theorem copy12 (A : Option Addr) (n c : Nat) (Ar : Nat → Option Addr) (L C : Nat → Nat) (Z : Nat → Nat → Int) (w : World) (h : Rw w A n Ar L C Z) (hn : n ≤ 1048576) (ha : A = none → n = 0 ∧ c = 0) (hL : ∀ i, i < n → L i ≤ 1048576) (hN : ∀ i, i < n → Ar i = none → L i = 0 ∧ C i = 0) :
    Calls Tryd.prog 12 #[.slice A n c] w (ClR w n L Z) := by
  have heq := fun (W : World) (X : Option Addr) (l cc : Nat) => Lib.run_eql_slice_nil (P := Tryd.prog) W 26 43 X l cc 0 0 Tryd.underlying26
  rcases A with _ | a
  · obtain ⟨rfl, rfl⟩ := ha rfl
    go_enter Tryd.func12, Tryd.ntmps12
    go_wp2
    go_ret
    exact ⟨_, _, fun _ => none, fun _ => 0, rfl, ⟨fun i hi => absurd hi (Nat.not_lt_zero i), fun i hi => absurd hi (Nat.not_lt_zero i)⟩, Below.refl _ _, fun i hi => absurd hi (Nat.not_lt_zero i)⟩
  · have hmk := fun W => run_make_row' (P := Tryd.prog) 26 43 (.slice none 0 0) 24 Tryd.underlying26 copy12_info rfl .i64 .i64 n (by omega) (by omega) W
    have HR := Lib.hid h
    have HL := Lib.hid hL
    have HN := Lib.hid hN
    clear h ha hL hN
    go_enter Tryd.func12, Tryd.ntmps12
    go_wp2
    go_loopw [4] (fun i wr => ∃ (k : Nat) (Ar' : Nat → Option Addr) (C' : Nat → Nat), k ≤ n ∧ i = .int .i64 k ∧ Fv wr w.heap.size n (upto (fun i => .slice (Ar' i) (L i) (C' i)) (.slice none 0 0) k) ∧ (∀ i, i < k → Rs wr (Ar' i) (L i) (fun j => .int .u16 (Z i j)) ∧ (∀ b o, Ar' i = some ⟨b, o, none⟩ → w.heap.size < b) ∧ (Ar' i = none → L i = 0 ∧ C' i = 0)) ∧ Below w.heap.size w wr) (fun i _ => n - (intOf i).toNat)
    case atStart => exact ⟨0, fun _ => none, fun _ => 0, Nat.zero_le _, rfl, (fv_made w 43 (.slice none 0 0) n).congr (fun i _ => rfl), fun i hi => absurd hi (Nat.not_lt_zero i), (Below.refl _ _).alloc (Nat.le_refl _) _⟩
    case round =>
      obtain ⟨k, Ar', C', hk, rfl, hrow, hrs, hbel⟩ := hrel
      by_cases hlt : k < n
      · obtain ⟨b, off, ha, hb, hcell⟩ := HR.out.hd k hlt
        injection ha with ha
        subst ha
        have c1 := cell_later hbel hcell
        have HC := Lib.hid (copy22 (Ar k) (L k) (C k) (Z k) wr ((HR.out.row k hlt).later hbel) (HL.out k hlt) (HN.out k hlt))
        have HROW := Lib.hid hrow
        have HRS := Lib.hid hrs
        have HB := Lib.hid hbel
        obtain ⟨X, hX⟩ : ∃ X, X = Ar k := ⟨_, rfl⟩
        obtain ⟨l, hl⟩ : ∃ X, X = L k := ⟨_, rfl⟩
        obtain ⟨d, hd⟩ : ∃ X, X = C k := ⟨_, rfl⟩
        simp only [← hX, ← hl, ← hd] at c1
        rw [← hX, ← hl, ← hd] at HC
        have HLK := Lib.hid hl
        clear hrow hrs hbel hcell hb hX hl hd
        go_wp2_with fail
        refine HC.out.mono ?_
        rintro e w2 ⟨A2, d2, rfl, hr2, hb2, hN2, hn2⟩
        have hrow2 := HROW.out.below hb2 HROW.out.lt
        have c2 : w2.cell? ⟨w.heap.size, k, none⟩ = some (.slice none 0 0) := hrow2.at_ hlt (by simp [upto])
        have c3 := hrow2.frozen k
        have hset := (hrow2.set hlt (.slice A2 l d2)).congr (V' := upto (fun i => .slice (up Ar' k A2 i) (L i) (up C' k d2 i)) (.slice none 0 0) (k + 1)) (fun i _ => by
          by_cases e : i = k
          · subst e; simp [up, upto, HLK.out]
          · simp only [up_ne _ _ e, upto]
            have : (i < k + 1) = (i < k) := by apply propext; omega
            simp [this])
        have HSET := Lib.hid hset
        have hbw : Below w.heap.size w w2 := HB.out.trans (hb2.mono HB.out.size)
        have HBW := Lib.hid (hbw.setCell (p := ⟨w.heap.size, k, none⟩) (Nat.le_refl _) (.slice A2 l d2))
        have hBk : w.heap.size < wr.heap.size := HROW.out.lt
        have far : ∀ (B : Option Addr) (m : Nat) (V : Nat → Value), Rs w2 B m V → (∀ b o, B = some ⟨b, o, none⟩ → b ≠ w.heap.size) → Rs (w2.setCell ⟨w.heap.size, k, none⟩ (.slice A2 l d2)) B m V := fun B m V h hne j hj => by
          obtain ⟨b, o, ha, hlt', hc⟩ := h j hj
          exact ⟨b, o, ha, by simpa using hlt', (World.cell?_of_block (a := ⟨b, o + j, none⟩) (Below.heap_setCell w2 ⟨w.heap.size, k, none⟩ _ b (hne b o ha))).trans hc⟩
        have hnew : ∀ i, i < k + 1 → Rs (w2.setCell ⟨w.heap.size, k, none⟩ (.slice A2 l d2)) (up Ar' k A2 i) (L i) (fun j => .int .u16 (Z i j)) ∧ (∀ b o, up Ar' k A2 i = some ⟨b, o, none⟩ → w.heap.size < b) ∧ (up Ar' k A2 i = none → L i = 0 ∧ up C' k d2 i = 0) := fun i hi => by
          by_cases e : i = k
          · subst e
            rw [up_self, up_self, ← HLK.out]
            refine ⟨far A2 _ _ hr2 (fun b o e => Nat.ne_of_gt (by have := hN2 b o e; omega)), fun b o e => by have := hN2 b o e; omega, hn2⟩
          · rw [up_ne _ _ e, up_ne _ _ e]
            obtain ⟨q1, q2, q3⟩ := HRS.out i (by omega)
            exact ⟨far _ _ _ (q1.later hb2) (fun b o e => Nat.ne_of_gt (q2 b o e)), q2, q3⟩
        have HNEW := Lib.hid hnew
        clear hrow2 hset hbw hr2 hb2 hN2 hn2 far hnew hBk
        go_wp2_with fail
        go_roundw
        case rel => exact ⟨k + 1, up Ar' k A2, up C' k d2, by omega, by go_num, HSET.out, HNEW.out, HBW.out⟩
        case measure => simp [intOf]; omega
      · obtain rfl : k = n := by omega
        have HC := Lib.hid (hrow.congr (V' := fun i => .slice (Ar' i) (L i) (C' i)) (fun i hi => by simp [upto, hi]))
        have HRS := Lib.hid hrs
        have HB := Lib.hid hbel
        clear hrow hbel hrs
        go_wp2
        go_ret
        exact ⟨_, _, Ar', C', rfl, ⟨Rs.of_fv HC.out, fun i hi => (HRS.out i hi).1⟩, HB.out, fun i hi => (HRS.out i hi).2.2⟩

def Bo (w : World) (P : Prop) (e : Ending) (w' : World) : Prop := ∃ b, e = .returned (.bool b) ∧ (b = true → P) ∧ w = w'
def Io (w : World) (e : Ending) (w' : World) : Prop := ∃ x, e = .returned (.int .i64 x) ∧ w = w'
theorem add_int (a b : Int) : (binOp .add 3 (.int .i64 a) (.int .i64 b)) = (binOp .add 3 (.int .i64 a) (.int .i64 b)) := rfl
set_option maxHeartbeats 1000000 in
theorem size5 (A : Option Addr) (n c : Nat) (g : Nat → ByteArray) (w : World) (h : Rs w A n (fun i => .string (g i))) (hn : n ≤ 1048576) : Calls Tryd.prog 5 #[.slice A n c] w (Io w) := by
  have HR := Lib.hid h
  clear h
  go_enter Tryd.func5, Tryd.ntmps5
  go_wp2
  go_loop [3, 4] (fun t i => ∃ (k : Nat) (x : Int), k ≤ n ∧ i = .int .i64 k ∧ t = .int .i64 x) (fun _ i => n - (intOf i).toNat)
  case atStart => exact ⟨0, 0, Nat.zero_le _, rfl, rfl⟩
  case round =>
    obtain ⟨k, x, hk, rfl, rfl⟩ := hrel
    by_cases hlt : k < n
    · obtain ⟨b, off, ha, hb, hcell⟩ := HR.out k hlt
      subst ha
      obtain ⟨u, hu⟩ : ∃ u, u = g k := ⟨_, rfl⟩
      simp only [← hu] at hcell
      clear hb hu
      obtain ⟨y, hy⟩ : ∃ y, y = IntKind.i64.wrap (x + IntKind.i64.wrap (16 + (u.size : Int))) := ⟨_, rfl⟩
      obtain ⟨y0, hy0⟩ : ∃ y, y = IntKind.i64.wrap (16 + (u.size : Int)) := ⟨_, rfl⟩
      rw [← hy0] at hy
      have e1 := hy0.symm
      have e2 := hy.symm
      clear hy0 hy
      by_cases hgt : (1048576 : Int) < y
      · have t1 : decide ((1048576 : Int) < y) = true := by simpa using hgt
        clear hgt
        go_wp2
        go_ret
        exact ⟨_, rfl, rfl⟩
      · have t1 : decide ((1048576 : Int) < y) = false := by simpa using hgt
        clear hgt
        go_wp2
        go_round
        case rel => exact ⟨k + 1, y, by omega, by go_num, rfl⟩
        case measure => simp [intOf]; omega
    · go_wp2
      go_ret
      exact ⟨_, rfl, rfl⟩
set_option maxHeartbeats 1000000 in
theorem size6 (A : Option Addr) (n c : Nat) (Ar : Nat → Option Addr) (L C : Nat → Nat) (w : World) (h : Rs w A n (fun i => .slice (Ar i) (L i) (C i))) (hn : n ≤ 1048576) : Calls Tryd.prog 6 #[.slice A n c] w (Io w) := by
  have HR := Lib.hid h
  clear h
  go_enter Tryd.func6, Tryd.ntmps6
  go_wp2
  go_loop [3, 4] (fun t i => ∃ (k : Nat) (x : Int), k ≤ n ∧ i = .int .i64 k ∧ t = .int .i64 x) (fun _ i => n - (intOf i).toNat)
  case atStart => exact ⟨0, 0, Nat.zero_le _, rfl, rfl⟩
  case round =>
    obtain ⟨k, x, hk, rfl, rfl⟩ := hrel
    by_cases hlt : k < n
    · obtain ⟨b, off, ha, hb, hcell⟩ := HR.out k hlt
      subst ha
      obtain ⟨u, hu⟩ : ∃ u, u = L k := ⟨_, rfl⟩
      simp only [← hu] at hcell
      clear hb hu
      obtain ⟨y1, e0⟩ : ∃ y, IntKind.i64.wrap (2 * (u : Int)) = y := ⟨_, rfl⟩
      obtain ⟨y0, e1⟩ : ∃ y, IntKind.i64.wrap (24 + y1) = y := ⟨_, rfl⟩
      obtain ⟨y, e2⟩ : ∃ y, IntKind.i64.wrap (x + y0) = y := ⟨_, rfl⟩
      by_cases hgt : (1048576 : Int) < y
      · have t1 : decide ((1048576 : Int) < y) = true := by simpa using hgt
        clear hgt
        go_wp2
        go_ret
        exact ⟨_, rfl, rfl⟩
      · have t1 : decide ((1048576 : Int) < y) = false := by simpa using hgt
        clear hgt
        go_wp2
        go_round
        case rel => exact ⟨k + 1, y, by omega, by go_num, rfl⟩
        case measure => simp [intOf]; omega
    · go_wp2
      go_ret
      exact ⟨_, rfl, rfl⟩
/-- The last key. -/
def lastK (g : Nat → ByteArray) (x : ByteArray) : Nat → Int
  | 0 => -1
  | k + 1 => if g k = x then (k : Int) else lastK g x k
theorem last25 (A : Option Addr) (n c : Nat) (g : Nat → ByteArray) (x : ByteArray) (w : World) (h : Rs w A n (fun i => .string (g i))) (hn : n ≤ 1048576) : Calls Tryd.prog 25 #[.slice A n c, .string x] w fun e w' => e = .returned (.int .i64 (lastK g x n)) ∧ w = w' := by
  have HR := Lib.hid h
  clear h
  go_enter Tryd.func25, Tryd.ntmps25
  go_wp2
  go_loop [5, 6] (fun t i => ∃ (k : Nat), k ≤ n ∧ i = .int .i64 k ∧ t = .int .i64 (lastK g x k)) (fun _ i => n - (intOf i).toNat)
  case atStart => exact ⟨0, Nat.zero_le _, rfl, rfl⟩
  case round =>
    obtain ⟨k, hk, rfl, rfl⟩ := hrel
    by_cases hlt : k < n
    · obtain ⟨b, off, ha, hb, hcell⟩ := HR.out k hlt
      subst ha
      obtain ⟨u, hu⟩ : ∃ u, u = g k := ⟨_, rfl⟩
      simp only [← hu] at hcell
      clear hb
      by_cases he : u = x
      · have HL := Lib.hid (show lastK g x (k + 1) = (k : Int) from by show (if g k = x then (k : Int) else _) = _; rw [if_pos (by rw [← hu]; exact he)])
        subst he
        go_wp2
        go_round
        case rel => exact ⟨k + 1, by omega, by go_num, by rw [HL.out]⟩
        case measure => simp [intOf]; omega
      · have t1 : (u.toList == x.toList) = false := by
          cases h9 : (u.toList == x.toList) with
          | false => rfl
          | true => exact absurd (ByteArray.ext (by simpa [ByteArray.toList_eq] using h9)) he
        have HL := Lib.hid (show lastK g x (k + 1) = lastK g x k from by show (if g k = x then (k : Int) else _) = _; rw [if_neg (by rw [← hu]; exact he)])
        clear hu
        go_wp2
        go_round
        case rel => exact ⟨k + 1, by omega, by go_num, by rw [HL.out]⟩
        case measure => simp [intOf]; omega
    · obtain rfl : k = n := by omega
      go_wp2
      go_ret
      exact ⟨rfl, rfl⟩
set_option maxHeartbeats 1000000 in
theorem same27 (A : Option Addr) (n c : Nat) (z : Nat → Int) (w : World) (h : Rs w A n (fun i => .int .u16 (z i))) (hn : n ≤ 1048576) : Calls Tryd.prog 27 #[.slice A n c, .slice A n c] w fun e w' => e = .returned (.bool true) ∧ ∃ m, w' = w.drewN m := by
  have heq := fun (W : World) (X : Option Addr) (l cc : Nat) => Lib.run_eql_slice_nil (P := Tryd.prog) W 43 61 X l cc 0 0 Tryd.underlying43
  have HR := Lib.hid h
  have hne : ((n : Int) != (n : Int)) = false := by simp
  clear h
  rcases A with _ | a
  · have hn0 : n = 0 := by
      rcases Nat.eq_zero_or_pos n with h0 | h0
      · exact h0
      · obtain ⟨b, o, ha, _⟩ := HR.out 0 h0
        cases ha
    subst hn0
    go_enter Tryd.func27, Tryd.ntmps27
    go_wp2
    go_loop [5] (fun i => i = .int .i64 0) (fun _ => 0)
    case atStart => rfl
    case round =>
      subst hrel
      go_wp2
      go_ret
      exact ⟨rfl, 0, rfl⟩
  · go_enter Tryd.func27, Tryd.ntmps27
    go_wp2
    go_loopw [5] (fun i wr => ∃ k m : Nat, k ≤ n ∧ i = .int .i64 k ∧ wr = w.drewN m) (fun i _ => n - (intOf i).toNat)
    case atStart => exact ⟨0, 0, Nat.zero_le _, rfl, rfl⟩
    case round =>
      obtain ⟨k, m, hk, rfl, rfl⟩ := hrel
      by_cases hlt : k < n
      · obtain ⟨b, off, ha, hb, hcell⟩ := HR.out k hlt
        injection ha with ha
        subst ha
        obtain ⟨x, hx⟩ : ∃ x, x = z k := ⟨_, rfl⟩
        simp only [← hx] at hcell
        clear hx hb
        have hxx : (x != x) = false := by simp
        go_wp2
        go_quiet (fail)
        go_wp2
        go_roundw
        case rel => exact ⟨k + 1, m + nq, by omega, by go_num, by simp⟩
        case measure => simp [intOf]; omega
      · go_wp2
        go_ret
        exact ⟨rfl, m, rfl⟩
open Ieee in
theorem div_one (a : Nat) (h : (FloatKind.f64.format.order a a != some .eq) = false) : ∃ r, FloatKind.f64.format.div 4607182418800017408 a = some r := by
  have h1 : FloatKind.f64.format.read 4607182418800017408 = .number false 4503599627370496 (-52) := by decide +kernel
  unfold Format.order at h
  unfold Format.div
  rw [h1]
  cases hr : FloatKind.f64.format.read a with
  | number s m i =>
    simp only [Datum.quotient]
    split
    · rw [if_neg (by decide)]; exact ⟨_, rfl⟩
    · exact ⟨_, rfl⟩
  | infinity s => exact ⟨_, rfl⟩
  | nan s t =>
    rw [hr] at h
    simp [Datum.order] at h
theorem same28 (a : Nat) (w : World) : Calls Tryd.prog 28 #[.float .f64 a, .float .f64 a] w fun e w' => e = .returned (.bool true) ∧ w = w' := by
  obtain ⟨b1, h1⟩ : ∃ b, (FloatKind.f64.format.order a a != some .eq) = b := ⟨_, rfl⟩
  cases b1 with
  | true =>
    go_enter Tryd.func28, Tryd.ntmps28
    go_wp2
    go_ret
    exact ⟨rfl, rfl⟩
  | false =>
    obtain ⟨r, hr⟩ := div_one a h1
    have hq : ∀ W, (binOp .quo 44 (.float .f64 4607182418800017408) (.float .f64 a)).run Tryd.prog W = .ok (.float .f64 r) W := fun W => by simp [binOp, Op.floatArith, hr]
    obtain ⟨b2, h2⟩ : ∃ b, (FloatKind.f64.format.order a 0 == some .eq) = b := ⟨_, rfl⟩
    obtain ⟨b3, h3⟩ : ∃ b, (FloatKind.f64.format.order r 0 == some .gt) = b := ⟨_, rfl⟩
    have hbb : (b3 == b3) = true := by simp
    clear hr
    cases b2 with
    | true =>
      go_enter Tryd.func28, Tryd.ntmps28
      go_wp2
      go_ret
      exact ⟨rfl, rfl⟩
    | false =>
      go_enter Tryd.func28, Tryd.ntmps28
      go_wp2
      go_ret
      exact ⟨rfl, rfl⟩
theorem pos31 (w : World) : Calls Tryd.prog 31 #[.float .f64 0] w fun e w' => e = .returned (.bool true) ∧ w = w' := by
  have h1 : (FloatKind.f64.format.order 0 0 == some .eq) = true := by decide +kernel
  have hd : FloatKind.f64.format.div 4607182418800017408 0 = some 9218868437227405312 := by decide +kernel
  have hq : ∀ W, (binOp .quo 44 (.float .f64 4607182418800017408) (.float .f64 0)).run Tryd.prog W = .ok (.float .f64 9218868437227405312) W := fun W => by simp [binOp, Op.floatArith, hd]
  have h3 : (FloatKind.f64.format.order 9218868437227405312 0 == some .gt) = true := by decide +kernel
  clear hd
  go_enter Tryd.func31, Tryd.ntmps31
  go_wp2
  go_ret
  exact ⟨rfl, rfl⟩
theorem zero26 (w : World) : Calls Tryd.prog 26 #[.agg #[.slice none 0 0, .float .f64 0]] w fun e w' => e = .returned (.bool true) ∧ Below w.heap.size w w' := by
  have heq := fun (W : World) (X : Option Addr) (l cc : Nat) => Lib.run_eql_slice_nil (P := Tryd.prog) W 43 61 X l cc 0 0 Tryd.underlying43
  have HB := Lib.hid ((Below.refl w.heap.size w).alloc (Nat.le_refl _) (.cells #[.slice none 0 0, .float .f64 0] 46))
  go_enter Tryd.func26, Tryd.ntmps26
  go_wp2_with fail
  refine (pos31 _).mono ?_
  rintro e w2 ⟨rfl, rfl⟩
  go_wp2_with fail
  go_ret
  exact ⟨rfl, HB.out⟩

set_option maxRecDepth 100000 in
set_option maxHeartbeats 4000000 in
theorem bytes4 (A0 : Option Addr) (n0 c0 : Nat) (A1 : Option Addr) (n1 c1 : Nat) (a2 : Int) (A3 : Option Addr) (n3 c3 : Nat) (g : Nat → ByteArray) (A4 : Option Addr) (n4 c4 : Nat) (A5 : Option Addr) (n5 c5 : Nat) (Ar : Nat → Option Addr) (L C : Nat → Nat) (a6 : Bool) (a7 : Int) (a8 : ByteArray) (w : World)
    (h3 : Rs w A3 n3 (fun i => .string (g i))) (h5 : Rs w A5 n5 (fun i => .slice (Ar i) (L i) (C i))) (m0 : n0 ≤ maxLen) (m1 : n1 ≤ maxLen) (m3 : n3 ≤ maxLen) (m4 : n4 ≤ maxLen) (m5 : n5 ≤ maxLen) (m8 : a8.size ≤ maxLen) :
    Calls Tryd.prog 4 #[.slice A0 n0 c0, .slice A1 n1 c1, .int .i32 a2, .slice A3 n3 c3, .slice A4 n4 c4, .slice A5 n5 c5, .bool a6, .int .u32 a7, .string a8] w (Bo w (∀ i, i < n5 → L i ≤ 1048576)) := by
  unfold maxLen at *
  have H3 := Lib.hid h3
  have H5 := Lib.hid h5
  clear h3 h5
  go_enter Tryd.func4, Tryd.ntmps4
  by_cases q0 : 1048576 < n0
  · have g0 : decide ((1048576 : Int) < (n0 : Int)) = true := by simp; omega
    clear q0
    go_wp2_with fail
    go_ret
    exact ⟨_, rfl, (fun h => by cases h), rfl⟩
  have g0 : decide ((1048576 : Int) < (n0 : Int)) = false := by simp; omega
  by_cases q1 : 1048576 < n1
  · have g1 : decide ((1048576 : Int) < (n1 : Int)) = true := by simp; omega
    clear q1
    go_wp2_with fail
    go_ret
    exact ⟨_, rfl, (fun h => by cases h), rfl⟩
  have g1 : decide ((1048576 : Int) < (n1 : Int)) = false := by simp; omega
  by_cases q2 : 1048576 < n0 + n1
  · have g2 : decide ((1048576 : Int) < ((n0 : Int) + (n1 : Int))) = true := by simp; omega
    clear q2
    go_wp2_with fail
    go_ret
    exact ⟨_, rfl, (fun h => by cases h), rfl⟩
  have g2 : decide ((1048576 : Int) < ((n0 : Int) + (n1 : Int))) = false := by simp; omega
  by_cases q3 : 1048576 < n3
  · have g3 : decide ((1048576 : Int) < (n3 : Int)) = true := by simp; omega
    clear q3
    go_wp2_with fail
    go_ret
    exact ⟨_, rfl, (fun h => by cases h), rfl⟩
  have g3 : decide ((1048576 : Int) < (n3 : Int)) = false := by simp; omega
  by_cases q4 : 1048576 < n0 + n1 + n3
  · have g4 : decide ((1048576 : Int) < ((n0 : Int) + (n1 : Int) + (n3 : Int))) = true := by simp; omega
    clear q4
    go_wp2_with fail
    go_ret
    exact ⟨_, rfl, (fun h => by cases h), rfl⟩
  have g4 : decide ((1048576 : Int) < ((n0 : Int) + (n1 : Int) + (n3 : Int))) = false := by simp; omega
  go_wp2_with fail
  clear g0 g1 g2 g3 g4
  go_loop [19, 20] (fun t i => ∃ k s : Nat, k ≤ n3 ∧ i = .int .i64 (k : Int) ∧ t = .int .i64 (s : Int) ∧ s ≤ 1048576) (fun _ i => n3 - (intOf i).toNat)
  case atStart => exact ⟨0, n0 + n1 + n3, Nat.zero_le _, rfl, by go_num, by omega⟩
  case round =>
    obtain ⟨k, s, hk, rfl, rfl, hs⟩ := hrel
    by_cases hlt : k < n3
    · obtain ⟨b, off, ha, hb, hcell⟩ := H3.out k hlt
      subst ha
      obtain ⟨u, hu⟩ : ∃ u, u = g k := ⟨_, rfl⟩
      simp only [← hu] at hcell
      clear hb hu
      obtain ⟨l, hl⟩ : ∃ l, l = u.size := ⟨_, rfl⟩
      have hl2 : u.size = l := hl.symm
      clear hl
      by_cases q10 : 1048576 < l
      · have g10 : decide ((1048576 : Int) < (l : Int)) = true := by simp; omega
        clear q10
        go_wp2
        go_ret
        exact ⟨_, rfl, (fun h => by cases h), rfl⟩
      have g10 : decide ((1048576 : Int) < (l : Int)) = false := by simp; omega
      by_cases q11 : 1048576 < s + l
      · have g11 : decide ((1048576 : Int) < (s : Int) + (l : Int)) = true := by simp; omega
        go_wp2
        go_ret
        exact ⟨_, rfl, (fun h => by cases h), rfl⟩
      have g11 : decide ((1048576 : Int) < (s : Int) + (l : Int)) = false := by simp; omega
      go_wp2
      go_round
      case rel => exact ⟨k + 1, s + l, by omega, by go_num, by go_num, by omega⟩
      case measure => simp [intOf]; omega
    · obtain rfl : k = n3 := by omega
      clear hlt hk
      by_cases q20 : 1048576 < n4
      · have g20 : decide ((1048576 : Int) < (n4 : Int)) = true := by simp; omega
        clear q20
        go_wp2_with fail
        go_ret
        exact ⟨_, rfl, (fun h => by cases h), rfl⟩
      have g20 : decide ((1048576 : Int) < (n4 : Int)) = false := by simp; omega
      by_cases q21 : 1048576 < s + n4
      · have g21 : decide ((1048576 : Int) < ((s : Int) + (n4 : Int))) = true := by simp; omega
        clear q21
        go_wp2_with fail
        go_ret
        exact ⟨_, rfl, (fun h => by cases h), rfl⟩
      have g21 : decide ((1048576 : Int) < ((s : Int) + (n4 : Int))) = false := by simp; omega
      by_cases q22 : 1048576 < n5
      · have g22 : decide ((1048576 : Int) < (n5 : Int)) = true := by simp; omega
        clear q22
        go_wp2_with fail
        go_ret
        exact ⟨_, rfl, (fun h => by cases h), rfl⟩
      have g22 : decide ((1048576 : Int) < (n5 : Int)) = false := by simp; omega
      by_cases q23 : 1048576 < s + n4 + n5
      · have g23 : decide ((1048576 : Int) < ((s : Int) + (n4 : Int) + (n5 : Int))) = true := by simp; omega
        clear q23
        go_wp2_with fail
        go_ret
        exact ⟨_, rfl, (fun h => by cases h), rfl⟩
      have g23 : decide ((1048576 : Int) < ((s : Int) + (n4 : Int) + (n5 : Int))) = false := by simp; omega
      go_wp2_with fail
      clear g20 g21 g22 g23
      go_loop [19, 21] (fun t i => ∃ k s : Nat, k ≤ n5 ∧ i = .int .i64 (k : Int) ∧ t = .int .i64 (s : Int) ∧ s ≤ 1048576 ∧ ∀ i, i < k → L i ≤ 1048576) (fun _ i => n5 - (intOf i).toNat)
      case atStart => exact ⟨0, s + n4 + n5, Nat.zero_le _, rfl, by go_num, by omega, fun i hi => absurd hi (Nat.not_lt_zero i)⟩
      case round =>
        clear hs q20 q21 q22 q23
        obtain ⟨k, s, hk, rfl, rfl, hs, hall⟩ := hrel
        have HALL := Lib.hid hall
        clear hall
        by_cases hlt : k < n5
        · obtain ⟨b, off, ha, hb, hcell⟩ := H5.out k hlt
          subst ha
          obtain ⟨l, hl⟩ : ∃ u, u = L k := ⟨_, rfl⟩
          simp only [← hl] at hcell
          have HLK := Lib.hid hl
          clear hb hl
          by_cases q10 : 1048576 < l
          · have g10 : decide ((1048576 : Int) < (l : Int)) = true := by simp; omega
            clear q10
            go_wp2
            go_ret
            exact ⟨_, rfl, (fun h => by cases h), rfl⟩
          have g10 : decide ((1048576 : Int) < (l : Int)) = false := by simp; omega
          by_cases q11 : 1048576 < s + l
          · have g11 : decide ((1048576 : Int) < (s : Int) + (l : Int)) = true := by simp; omega
            go_wp2
            go_ret
            exact ⟨_, rfl, (fun h => by cases h), rfl⟩
          have g11 : decide ((1048576 : Int) < (s : Int) + (l : Int)) = false := by simp; omega
          have HALL2 := Lib.hid (show ∀ i, i < k + 1 → L i ≤ 1048576 from fun i hi => by
            by_cases e : i = k
            · subst e; rw [← HLK.out]; omega
            · exact HALL.out i (by omega))
          go_wp2
          go_round
          case rel => exact ⟨k + 1, s + l, by omega, by go_num, by go_num, by omega, HALL2.out⟩
          case measure => simp [intOf]; omega
        · obtain rfl : k = n5 := by omega
          obtain ⟨l, hl⟩ : ∃ l, l = a8.size := ⟨_, rfl⟩
          have hl2 : a8.size = l := hl.symm
          rw [hl2] at m8
          clear hl
          by_cases q30 : 1048576 < l
          · have g30 : decide ((1048576 : Int) < (l : Int)) = true := by simp; omega
            clear q30
            go_wp2_with fail
            go_ret
            exact ⟨_, rfl, (fun h => by cases h), rfl⟩
          have g30 : decide ((1048576 : Int) < (l : Int)) = false := by simp; omega
          by_cases q31 : 1048576 < s + l
          · have g31 : decide ((1048576 : Int) < ((s : Int) + (l : Int))) = true := by simp; omega
            clear q31
            go_wp2_with fail
            go_ret
            exact ⟨_, rfl, (fun h => by cases h), rfl⟩
          have g31 : decide ((1048576 : Int) < ((s : Int) + (l : Int))) = false := by simp; omega
          go_wp2_with fail
          go_ret
          exact ⟨_, rfl, fun _ => HALL.out, rfl⟩
end Go.Proofs.YtnjjenellkpkaaaDoor.TeA
