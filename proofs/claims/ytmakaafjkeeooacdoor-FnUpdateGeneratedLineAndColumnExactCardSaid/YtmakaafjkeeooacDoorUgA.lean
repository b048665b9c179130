/- FnUpdateGeneratedLineAndColumnExact: helpers, one rune. -/
import Derived.Test.YtmakaafjkeeooacDoorRows
import Derived.Test.YtmakaafjkeeooacDoorMem
import Derived.Test.YtmakaafjkeeooacDoorSl
import Derived.Test.YtmakaafjkeeooacDoorOwn
import Derived.Test.YtmakaafjkeeooacDoorVq
import Derived.Test.YtmakaafjkeeooacDoorVars
import Derived.Test.YtmakaafjkeeooacDoorDec
import Derived.Test.YtmakaafjkeeooacDoorLin
import Derived.Test.YtmakaafjkeeooacDoorStr
import Derived.Test.YtmakaafjkeeooacDoorOwg
import Derived.Laws.BitsLemmas
import Derived.WalkKit
import Derived.ProofKit
import Derived.OpenShut
import Derived.Below
import Derived.WalkLawsBesides
import Derived.Lib.Hide
import Derived.Outline
import Derived.RegionTactic
import Derived.Deep.QuietTactic
import Derived.BigQuiet
import Derived.WalkSpells
import Derived.Deep.OwnRows
import Derived.IntWalk
import Derived.Deep.DeepMust
namespace Go.Proofs.YtmakaafjkeeooacDoor.UgA
open Go.RowKit Mem Sl
set_option linter.unusedVariables false
open Own Vq Dec Lin Str Prn Owg

set_option maxHeartbeats 1000000 in
theorem bytes4 (A0 : Option Addr) (n0 c0 : Nat) (y1 : Bool) (y2 : Int) (w : World) (m0 : n0 ≤ maxLen) : Calls Tryd.prog 4 #[.slice A0 n0 c0, .bool y1, .int .i32 y2] w fun e w' => e = .returned (.bool (decide (n0 ≤ 1048576))) ∧ w = w' := by
  unfold maxLen at *
  by_cases h0 : n0 ≤ 1048576
  case neg =>
    go_enter Tryd.func4, Tryd.ntmps4
    go_wp2_with fail
    go_ret
    exact ⟨congrArg (fun b => Ending.returned (Value.bool b)) (show false = decide (n0 ≤ 1048576) by symm; simp; omega), rfl⟩
  go_enter Tryd.func4, Tryd.ntmps4
  go_wp2_with fail
  go_ret
  exact ⟨congrArg (fun b => Ending.returned (Value.bool b)) (show true = decide (n0 ≤ 1048576) by symm; simp; omega), rfl⟩

theorem clone6_info : (Tryd.prog.info? 5).map (fun i => (i.zero, i.size, i.bytes)) = some (some (.int .u8 0), 1, 1) := by kernel_rfl
set_option maxHeartbeats 400000 in
theorem clone6 (A : Option Addr) (n c : Nat) (zs : List Int) (w : World) (h : Args.IsInts .u8 w A n c zs) (hn : n ≤ 1048576) :
    Calls Tryd.prog 6 #[.slice A n c] w fun e w' => Cloned .u8 5 w A n zs e w' := by
  have heq := fun (W : World) (X : Option Addr) (l cc : Nat) => Lib.run_eql_slice_nil (P := Tryd.prog) W 22 5 X l cc 0 0 Tryd.underlying22
  rcases A with _ | a
  · obtain ⟨h1, h2, h3, h4, h5, h6⟩ := h
    have hc := h5 rfl
    obtain rfl : n = 0 := by omega
    obtain rfl : zs = [] := List.eq_nil_of_length_eq_zero h3
    go_enter Tryd.func6, Tryd.ntmps6
    go_wp2
    go_ret
    exact ⟨_, rfl, .inl ⟨rfl, rfl, rfl⟩⟩
  · have hmk := fun W => run_make_row' (P := Tryd.prog) 22 5 (.int .u8 0) 1 Tryd.underlying22 clone6_info rfl .i64 .i64 n (by omega) (by omega) W
    have hlen := h.2.2.1
    have hrd := fun k => h.read k
    have HR := Lib.hid hrd
    clear hrd
    go_enter Tryd.func6, Tryd.ntmps6
    go_wp2
    go_loopw [4] (fun i wr => ∃ k : Nat, k ≤ n ∧ i = .int .i64 k ∧ Row wr w.heap.size 5 (filled (iv .u8 zs) (.int .u8 0) k) ∧ Below w.heap.size w wr ∧ wr.heap.size = w.heap.size + 1) (fun i _ => n - (intOf i).toNat)
    case atStart =>
      refine ⟨0, Nat.zero_le _, rfl, ?_, (Below.refl _ _).alloc (Nat.le_refl _) _, by simp⟩
      rw [filled_zero, iv_length, hlen]
      exact made_row w 5 (.int .u8 0) n
    case round =>
      obtain ⟨k, hk, rfl, hrow, hbel, hsz⟩ := hrel
      have HS := Lib.hid hsz
      clear hsz
      by_cases hlt : k < n
      · obtain ⟨b, off, ha, hb, hcell⟩ := HR.out k hlt
        injection ha with ha
        subst ha
        obtain ⟨x, hx⟩ : ∃ x, x = zs.getD k 0 := ⟨_, rfl⟩
        rw [← hx] at hcell
        have c1 := cell_later hbel hcell
        have hl : k < (iv .u8 zs).length := by rw [iv_length]; omega
        have c2 := hrow.at_ (filled_at (iv .u8 zs) (.int .u8 0) k hl)
        have c3 := hrow.frozen k
        have hset := hrow.set k (.int .u8 x)
        rw [filled_set _ _ k hl _ (by rw [hx]; exact iv_at .u8 zs k (by omega))] at hset
        have HSET := Lib.hid hset
        have HB := Lib.hid hbel
        clear hset hbel hrow hcell hx
        go_wp2
        go_roundw
        case rel => exact ⟨k + 1, by omega, by go_num, HSET.out, HB.out.setCell (Nat.le_refl _) _, by simpa using HS.out⟩
        case measure => simp [intOf]; omega
      · have hkn : k = n := by omega
        subst hkn
        have HROW := Lib.hid hrow
        have HB := Lib.hid hbel
        clear hrow hbel
        go_wp2
        go_ret
        refine ⟨_, rfl, .inr ⟨by simp, rfl, ?_, HB.out, HS.out⟩⟩
        have h1 := HROW.out
        rwa [← hlen, ← iv_length .u8 zs, filled_all] at h1

theorem info5 : (Tryd.prog.info? 5).map (fun i => (i.zero, i.size, i.bytes)) = some (some (.int .u8 0), 1, 1) := by kernel_rfl
theorem is5 (w : World) : Calls Tryd.prog 5 #[] w fun e w' => e = .returned (.bool true) ∧ w = w' := by
  go_enter Tryd.func5, Tryd.ntmps5
  go_wp2
  go_ret
  exact ⟨rfl, rfl⟩
/-- The text s in memory, at the head of its block. -/
def Tx (w : World) (A : Option Addr) (n c : Nat) (s : ByteArray) : Prop :=
  s.size = n ∧ n ≤ c ∧ c ≤ maxLen ∧ (0 < n → ∃ b, A = some ⟨b, 0, none⟩ ∧ b < w.heap.size ∧ ∀ j, j < n → w.cell? ⟨b, j, none⟩ = some (.int .u8 ((by_ s j : Nat) : Int)))
theorem Tx.later {w w' : World} {A : Option Addr} {n c : Nat} {s : ByteArray} (h : Tx w A n c s) (hb : Below w.heap.size w w') : Tx w' A n c s := by
  obtain ⟨h1, h2, h3, h4⟩ := h
  refine ⟨h1, h2, h3, fun hn => ?_⟩
  obtain ⟨b, ha, hlt, hc⟩ := h4 hn
  exact ⟨b, ha, Nat.lt_of_lt_of_le hlt hb.size, fun j hj => (hb.cell (p := ⟨b, j, none⟩) hlt).trans (hc j hj)⟩
def yes (s : ByteArray) (n j : Nat) : Bool := decide (j < n) && (decide (128 ≤ by_ s j) && decide (by_ s j ≤ 191))
theorem cont26 (b n c : Nat) (s : ByteArray) (j : Nat) (w : World) (hs : s.size = n) (hj : j ≤ 2097152) (hcell : ∀ j, j < n → w.cell? ⟨b, j, none⟩ = some (.int .u8 ((by_ s j : Nat) : Int))) :
    Calls Tryd.prog 26 #[.slice (some ⟨b, 0, none⟩) n c, .int .i64 (j : Int)] w fun e w' => e = .returned (.bool (yes s n j)) ∧ w = w' := by
  by_cases h1 : j < n
  · have c1 := hcell j h1
    have t1 : decide ((j : Int) < (n : Int)) = true := by simp; omega
    have lb := by_lt s j
    unfold yes
    rw [decide_eq_true h1, Bool.true_and]
    generalize by_ s j = B at *
    clear hcell
    by_cases h2 : 128 ≤ B
    · have t2 : decide ((128 : Int) ≤ (B : Int)) = true := by simp; omega
      by_cases h3 : B ≤ 191
      · have t3 : decide ((B : Int) ≤ 191) = true := by simp; omega
        go_enter Tryd.func26, Tryd.ntmps26
        go_wp2
        go_ret
        exact ⟨by simp [h2, h3], rfl⟩
      · have t3 : decide ((B : Int) ≤ 191) = false := by simp; omega
        go_enter Tryd.func26, Tryd.ntmps26
        go_wp2
        go_ret
        exact ⟨by simp [h3], rfl⟩
    · have t2 : decide ((128 : Int) ≤ (B : Int)) = false := by simp; omega
      go_enter Tryd.func26, Tryd.ntmps26
      go_wp2
      go_ret
      exact ⟨by simp [h2], rfl⟩
  · have t1 : decide ((j : Int) < (n : Int)) = false := by simp; omega
    unfold yes
    rw [decide_eq_false h1, Bool.false_and]
    clear hcell
    go_enter Tryd.func26, Tryd.ntmps26
    go_wp2
    go_ret
    exact ⟨rfl, rfl⟩
theorem and_u8_63 : ∀ x : Fin 256, bits .and .u8 ((x.val : Nat) : Int) 63 = ((x.val % 64 : Nat) : Int) := by decide +kernel
theorem and_31 : ∀ x : Fin 256, bits .and .i64 ((x.val : Nat) : Int) 31 = ((x.val % 32 : Nat) : Int) := by decide +kernel
theorem and_15 : ∀ x : Fin 256, bits .and .i64 ((x.val : Nat) : Int) 15 = ((x.val % 16 : Nat) : Int) := by decide +kernel
theorem and_7 : ∀ x : Fin 256, bits .and .i64 ((x.val : Nat) : Int) 7 = ((x.val % 8 : Nat) : Int) := by decide +kernel
theorem or_to (i : Nat) (x y : Int) (r : Nat) (h0 : 0 ≤ x) (h1 : x % 2 ^ i = 0) (h2 : x < 4294967296) (h3 : 0 ≤ y) (h4 : y < 2 ^ i) (h5 : y < 4294967296) (hr : (r : Int) = x + y) : bits .or .i64 x y = (r : Int) := by
  rw [hr]
  exact bits_join .i64 62 (by decide) wraps_i64 i x y h0 h1 (by omega) h3 h4 (by omega)
def RuP (s : ByteArray) (i : Nat) (w : World) (e : Ending) (w' : World) : Prop := e = .returned (.tuple #[.int .i64 (ru s i : Nat), .int .i64 (wd s i : Nat)]) ∧ ∃ m, w' = w.drewN m
theorem leaf {s : ByteArray} {i R W : Nat} {w : World} (hd : Utf8.decode s i = (R, W)) (m : Nat) : RuP s i w (.returned (.tuple #[.int .i64 (R : Int), .int .i64 (W : Int)])) (w.drewN m) := by
  refine ⟨?_, m, rfl⟩
  unfold ru wd
  rw [hd]
theorem leaf0 {s : ByteArray} {i R W : Nat} {w : World} (hd : Utf8.decode s i = (R, W)) : RuP s i w (.returned (.tuple #[.int .i64 (R : Int), .int .i64 (W : Int)])) w := leaf hd 0
theorem decb (s : ByteArray) (i : Nat) (h0 : 128 ≤ by_ s i) (h2 : ¬ ok2 s i) (h3 : ¬ ok3 s i) (h4 : ¬ ok4 s i) (w : World) : RuP s i w (.returned (.tuple #[.int .i64 65533, .int .i64 1])) w := leaf0 (decBad s i h0 h2 h3 h4)

set_option maxHeartbeats 8000000 in
set_option maxRecDepth 100000 in
theorem r12 (b n c : Nat) (s : ByteArray) (i : Nat) (w : World) (hi : i < n) (hs : s.size = n) (hn : n ≤ 1048576) (hcell : ∀ j, j < n → w.cell? ⟨b, j, none⟩ = some (.int .u8 ((by_ s j : Nat) : Int))) (hc : ¬ (224 ≤ by_ s i ∧ by_ s i ≤ 244)) : Calls Tryd.prog 22 #[.slice (some ⟨b, 0, none⟩) n c, .int .i64 (i : Int)] w (RuP s i w) := by
  have hsz := hs
  have x0 := hcell i hi
  have x1 := hcell (i + 1)
  have x2 := hcell (i + 2)
  have x3 := hcell (i + 3)
  have HC1 := Lib.hid (show Calls Tryd.prog 26 #[.slice (some ⟨b, 0, none⟩) n c, .int .i64 ((i : Int) + 1)] w fun e w' => e = .returned (.bool (yes s n (i + 1))) ∧ w = w' from cont26 b n c s (i + 1) w hs (by omega) hcell)
  have HC2 := Lib.hid (show Calls Tryd.prog 26 #[.slice (some ⟨b, 0, none⟩) n c, .int .i64 ((i : Int) + 2)] w fun e w' => e = .returned (.bool (yes s n (i + 2))) ∧ w = w' from cont26 b n c s (i + 2) w hs (by omega) hcell)
  have HC3 := Lib.hid (show Calls Tryd.prog 26 #[.slice (some ⟨b, 0, none⟩) n c, .int .i64 ((i : Int) + 3)] w fun e w' => e = .returned (.bool (yes s n (i + 3))) ∧ w = w' from cont26 b n c s (i + 3) w hs (by omega) hcell)
  clear hcell
  obtain ⟨B0, hB0⟩ : ∃ B, by_ s (i + 0) = B := ⟨_, rfl⟩
  have l0 := by_lt s (i + 0)
  obtain ⟨B1, hB1⟩ : ∃ B, by_ s (i + 1) = B := ⟨_, rfl⟩
  have l1 := by_lt s (i + 1)
  obtain ⟨B2, hB2⟩ : ∃ B, by_ s (i + 2) = B := ⟨_, rfl⟩
  have l2 := by_lt s (i + 2)
  obtain ⟨B3, hB3⟩ : ∃ B, by_ s (i + 3) = B := ⟨_, rfl⟩
  have l3 := by_lt s (i + 3)
  unfold yes at HC1 HC2 HC3
  simp only [Nat.add_zero] at hB0 l0
  rw [hB0] at x0 l0 hc
  rw [hB1] at x1 l1 HC1
  rw [hB2] at x2 l2 HC2
  rw [hB3] at x3 l3 HC3
  have H0 := Lib.hid hB0
  have H1 := Lib.hid hB1
  have H2 := Lib.hid hB2
  have H3 := Lib.hid hB3
  have HSZ := Lib.hid hsz
  clear hB0 hB1 hB2 hB3 hsz hs
  have p0 : (0 : Int) ≤ (i : Int) := by omega
  by_cases c1 : B0 < 128
  · clear x1 x2 x3
    have q1 : decide ((B0 : Int) < 128) = true := by simp; omega
    go_enter Tryd.func22, Tryd.ntmps22
    go_wp2_with fail
    refine bodyPost_ret (v := .tuple #[.int .i64 (B0 : Int), .int .i64 1]) (by simp [results, Tryd.results22]) rfl ?_
    have e0 := H0.out
    have e1 := H1.out
    have e2 := H2.out
    have e3 := H3.out
    have e4 := HSZ.out
    exact leaf0 (R := B0) (W := 1) (by rw [dec1 s i (by omega), e0])
  have q1 : decide ((B0 : Int) < 128) = false := by simp; omega
  by_cases c2 : 194 ≤ B0 ∧ B0 ≤ 223
  · obtain ⟨c2a, c2b⟩ := c2
    have q2 : decide ((194 : Int) ≤ (B0 : Int)) = true := by simp; omega
    have q3 : decide ((B0 : Int) ≤ 223) = true := by simp; omega
    by_cases g1 : i + 1 < n ∧ 128 ≤ B1 ∧ B1 ≤ 191
    · obtain ⟨d1, g1a, g1b⟩ := g1
      have y1 := x1 d1
      have v1 : (i : Int) + 1 < (n : Int) := by omega
      rw [show (decide (i + 1 < n) && (decide (128 ≤ B1) && decide (B1 ≤ 191))) = true by simp; omega] at HC1
      clear x1 x2 x3
      obtain ⟨C0, hC0⟩ : ∃ C, C = B0 - 192 := ⟨_, rfl⟩
      obtain ⟨C1, hC1⟩ : ∃ C, C = B1 - 128 := ⟨_, rfl⟩
      have b0 : C0 < 32 := by omega
      have b1 : C1 < 64 := by omega
      have a0 : bits .and .i64 (B0 : Int) 31 = (C0 : Int) := by rw [and_31 ⟨B0, l0⟩]; simp only; omega
      have a1 : bits .and .u8 (B1 : Int) 63 = (C1 : Int) := by rw [and_u8_63 ⟨B1, l1⟩]; simp only; omega
      obtain ⟨R, hR⟩ : ∃ R, R = C0 * 64 + C1 := ⟨_, rfl⟩
      have o1 : bits .or .i64 ((C0 : Int) * 64) (C1 : Int) = (R : Int) := or_to 6 _ _ R (by omega) (by omega) (by omega) (by omega) (by omega) (by omega) (by omega)
      have HR := Lib.hid (show R = (B0 - 192) * 64 + (B1 - 128) by omega)
      clear hC0 hC1 hR
      go_enter Tryd.func22, Tryd.ntmps22
      go_wp2_with (first | (go_at_call 26; (with_reducible refine HC1.out.mono ?_); rintro e w' ⟨rfl, rfl⟩))
      refine bodyPost_ret (v := .tuple #[.int .i64 (R : Int), .int .i64 2]) (by simp [results, Tryd.results22]) rfl ?_
      have e0 := H0.out
      have e1 := H1.out
      have e2 := H2.out
      have e3 := H3.out
      have e4 := HSZ.out
      exact leaf0 (R := R) (W := 2) (by rw [dec2 s i (by unfold ok2; omega), e0, e1, HR.out])
    · skip
      rw [show (decide (i + 1 < n) && (decide (128 ≤ B1) && decide (B1 ≤ 191))) = false by simp; omega] at HC1
      clear x1 x2 x3
      go_enter Tryd.func22, Tryd.ntmps22
      go_wp2_with (first | (go_at_call 26; (with_reducible refine HC1.out.mono ?_); rintro e w' ⟨rfl, rfl⟩))
      refine bodyPost_ret (v := .tuple #[.int .i64 65533, .int .i64 1]) (by simp [results, Tryd.results22]) rfl ?_
      have e0 := H0.out
      have e1 := H1.out
      have e2 := H2.out
      have e3 := H3.out
      have e4 := HSZ.out
      exact decb s i (by omega) (by unfold ok2; omega) (by unfold ok3; omega) (by unfold ok4; omega) w
  clear x1 x2 x3
  by_cases c5 : B0 < 194
  · have q2 : decide ((194 : Int) ≤ (B0 : Int)) = false := by simp; omega
    have q3 : decide ((224 : Int) ≤ (B0 : Int)) = false := by simp; omega
    have q4 : decide ((240 : Int) ≤ (B0 : Int)) = false := by simp; omega
    go_enter Tryd.func22, Tryd.ntmps22
    go_wp2_with fail
    refine bodyPost_ret (v := .tuple #[.int .i64 65533, .int .i64 1]) (by simp [results, Tryd.results22]) rfl ?_
    have e0 := H0.out
    have e1 := H1.out
    have e2 := H2.out
    have e3 := H3.out
    have e4 := HSZ.out
    exact decb s i (by omega) (by unfold ok2; omega) (by unfold ok3; omega) (by unfold ok4; omega) w
  have c6 : 244 < B0 := by omega
  have q2 : decide ((194 : Int) ≤ (B0 : Int)) = true := by simp; omega
  have q3 : decide ((B0 : Int) ≤ 223) = false := by simp; omega
  have q4 : decide ((224 : Int) ≤ (B0 : Int)) = true := by simp; omega
  have q5 : decide ((B0 : Int) ≤ 239) = false := by simp; omega
  have q6 : decide ((240 : Int) ≤ (B0 : Int)) = true := by simp; omega
  have q7 : decide ((B0 : Int) ≤ 244) = false := by simp; omega
  go_enter Tryd.func22, Tryd.ntmps22
  go_wp2_with fail
  refine bodyPost_ret (v := .tuple #[.int .i64 65533, .int .i64 1]) (by simp [results, Tryd.results22]) rfl ?_
  have e0 := H0.out
  have e1 := H1.out
  have e2 := H2.out
  have e3 := H3.out
  have e4 := HSZ.out
  exact decb s i (by omega) (by unfold ok2; omega) (by unfold ok3; omega) (by unfold ok4; omega) w
end Go.Proofs.YtmakaafjkeeooacDoor.UgA
