/- zzRune: four bytes. -/
import Derived.Test.YtmakaafjkeeooacDoorRows
import Derived.Test.YtmakaafjkeeooacDoorMem
import Derived.Test.YtmakaafjkeeooacDoorSl
import Derived.Test.YtmakaafjkeeooacDoorUgA
import Derived.Laws.BitsLemmas
import Derived.WalkKit
import Derived.ProofKit
import Derived.OpenShut
import Derived.Below
import Derived.WalkLawsBesides
import Derived.Lib.Hide
import Derived.Outline
import Derived.RegionTactic
import Derived.Deep.QuietTactic
import Derived.BigQuiet
import Derived.WalkSpells
import Derived.Deep.OwnRows
import Derived.IntWalk
import Derived.Deep.DeepMust
namespace Go.Proofs.YtmakaafjkeeooacDoor.UgA4
open Go.RowKit Mem Sl
set_option linter.unusedVariables false
open Own Vq Dec Lin Str Prn Owg UgA

set_option maxHeartbeats 8000000 in
set_option maxRecDepth 100000 in
theorem r4a (b n c : Nat) (s : ByteArray) (i : Nat) (w : World) (hi : i < n) (hs : s.size = n) (hn : n ≤ 1048576) (hcell : ∀ j, j < n → w.cell? ⟨b, j, none⟩ = some (.int .u8 ((by_ s j : Nat) : Int))) (hc : by_ s i = 240) : Calls Tryd.prog 22 #[.slice (some ⟨b, 0, none⟩) n c, .int .i64 (i : Int)] w (RuP s i w) := by
  have hsz := hs
  have x0 := hcell i hi
  have x1 := hcell (i + 1)
  have x2 := hcell (i + 2)
  have x3 := hcell (i + 3)
  have HC1 := Lib.hid (show Calls Tryd.prog 26 #[.slice (some ⟨b, 0, none⟩) n c, .int .i64 ((i : Int) + 1)] w fun e w' => e = .returned (.bool (yes s n (i + 1))) ∧ w = w' from cont26 b n c s (i + 1) w hs (by omega) hcell)
  have HC2 := Lib.hid (show Calls Tryd.prog 26 #[.slice (some ⟨b, 0, none⟩) n c, .int .i64 ((i : Int) + 2)] w fun e w' => e = .returned (.bool (yes s n (i + 2))) ∧ w = w' from cont26 b n c s (i + 2) w hs (by omega) hcell)
  have HC3 := Lib.hid (show Calls Tryd.prog 26 #[.slice (some ⟨b, 0, none⟩) n c, .int .i64 ((i : Int) + 3)] w fun e w' => e = .returned (.bool (yes s n (i + 3))) ∧ w = w' from cont26 b n c s (i + 3) w hs (by omega) hcell)
  clear hcell
  obtain ⟨B0, hB0⟩ : ∃ B, by_ s (i + 0) = B := ⟨_, rfl⟩
  have l0 := by_lt s (i + 0)
  obtain ⟨B1, hB1⟩ : ∃ B, by_ s (i + 1) = B := ⟨_, rfl⟩
  have l1 := by_lt s (i + 1)
  obtain ⟨B2, hB2⟩ : ∃ B, by_ s (i + 2) = B := ⟨_, rfl⟩
  have l2 := by_lt s (i + 2)
  obtain ⟨B3, hB3⟩ : ∃ B, by_ s (i + 3) = B := ⟨_, rfl⟩
  have l3 := by_lt s (i + 3)
  unfold yes at HC1 HC2 HC3
  simp only [Nat.add_zero] at hB0 l0
  rw [hB0] at x0 l0 hc
  rw [hB1] at x1 l1 HC1
  rw [hB2] at x2 l2 HC2
  rw [hB3] at x3 l3 HC3
  have H0 := Lib.hid hB0
  have H1 := Lib.hid hB1
  have H2 := Lib.hid hB2
  have H3 := Lib.hid hB3
  have HSZ := Lib.hid hsz
  clear hB0 hB1 hB2 hB3 hsz hs
  have p0 : (0 : Int) ≤ (i : Int) := by omega
  have q0 : 240 ≤ B0 ∧ B0 ≤ 240 := by omega
  obtain ⟨q0a, q0b⟩ := q0
  have q1 : decide ((B0 : Int) < 128) = false := by simp; omega
  have q2 : decide ((194 : Int) ≤ (B0 : Int)) = true := by simp; omega
  have q3 : decide ((B0 : Int) ≤ 223) = false := by simp; omega
  have q4 : decide ((224 : Int) ≤ (B0 : Int)) = true := by simp; omega
  have q5 : decide ((B0 : Int) ≤ 239) = false := by simp; omega
  have q5' : decide ((240 : Int) ≤ (B0 : Int)) = true := by simp; omega
  have q5b : decide ((B0 : Int) ≤ 244) = true := by simp; omega
  have q6 : ((B0 : Int) == 240) = true := by simp; omega
  have q7 : ((B0 : Int) == 244) = false := by simp; omega
  clear hc
  by_cases d2 : i + 1 < n
  · have y1 := x1 d2
    have u1 : decide ((i : Int) + 1 < (n : Int)) = true := by simp; omega
    have v1 : (i : Int) + 1 < (n : Int) := by omega
    by_cases g1 : B1 < 144
    · have s1 : decide ((144 : Int) ≤ (B1 : Int)) = false := by simp; omega
      clear x1 x2 x3
      go_enter Tryd.func22, Tryd.ntmps22
      go_wp2_with fail
      refine bodyPost_ret (v := .tuple #[.int .i64 65533, .int .i64 1]) (by simp [results, Tryd.results22]) rfl ?_
      have e0 := H0.out
      have e1 := H1.out
      have e2 := H2.out
      have e3 := H3.out
      have e4 := HSZ.out
      exact decb s i (by omega) (by unfold ok2; omega) (by unfold ok3; omega) (by unfold ok4; omega) w
    have s1 : decide ((144 : Int) ≤ (B1 : Int)) = true := by simp; omega
    by_cases g2 : 191 < B1
    · have s2 : decide ((B1 : Int) ≤ 191) = false := by simp; omega
      clear x1 x2 x3
      go_enter Tryd.func22, Tryd.ntmps22
      go_wp2_with fail
      refine bodyPost_ret (v := .tuple #[.int .i64 65533, .int .i64 1]) (by simp [results, Tryd.results22]) rfl ?_
      have e0 := H0.out
      have e1 := H1.out
      have e2 := H2.out
      have e3 := H3.out
      have e4 := HSZ.out
      exact decb s i (by omega) (by unfold ok2; omega) (by unfold ok3; omega) (by unfold ok4; omega) w
    have s2 : decide ((B1 : Int) ≤ 191) = true := by simp; omega
    by_cases g3 : i + 2 < n ∧ 128 ≤ B2 ∧ B2 ≤ 191
    · obtain ⟨d3, g3a, g3b⟩ := g3
      rw [show (decide (i + 2 < n) && (decide (128 ≤ B2) && decide (B2 ≤ 191))) = true by simp; omega] at HC2
      have y2 := x2 d3
      have v2 : (i : Int) + 2 < (n : Int) := by omega
      by_cases g4 : i + 3 < n ∧ 128 ≤ B3 ∧ B3 ≤ 191
      · obtain ⟨d4, g4a, g4b⟩ := g4
        rw [show (decide (i + 3 < n) && (decide (128 ≤ B3) && decide (B3 ≤ 191))) = true by simp; omega] at HC3
        have y3 := x3 d4
        have v3 : (i : Int) + 3 < (n : Int) := by omega
        clear x1 x2 x3
        obtain ⟨C0, hC0⟩ : ∃ C, C = B0 - 240 := ⟨_, rfl⟩
        obtain ⟨C1, hC1⟩ : ∃ C, C = B1 - 128 := ⟨_, rfl⟩
        obtain ⟨C2, hC2⟩ : ∃ C, C = B2 - 128 := ⟨_, rfl⟩
        obtain ⟨C3, hC3⟩ : ∃ C, C = B3 - 128 := ⟨_, rfl⟩
        have b0 : C0 < 8 := by omega
        have b1 : C1 < 64 := by omega
        have b2 : C2 < 64 := by omega
        have b3 : C3 < 64 := by omega
        have a0 : bits .and .i64 (B0 : Int) 7 = (C0 : Int) := by rw [and_7 ⟨B0, l0⟩]; simp only; omega
        have a1 : bits .and .u8 (B1 : Int) 63 = (C1 : Int) := by rw [and_u8_63 ⟨B1, l1⟩]; simp only; omega
        have a2 : bits .and .u8 (B2 : Int) 63 = (C2 : Int) := by rw [and_u8_63 ⟨B2, l2⟩]; simp only; omega
        have a3 : bits .and .u8 (B3 : Int) 63 = (C3 : Int) := by rw [and_u8_63 ⟨B3, l3⟩]; simp only; omega
        obtain ⟨X, hX⟩ : ∃ X, X = C0 * 262144 + C1 * 4096 := ⟨_, rfl⟩
        obtain ⟨Y, hY⟩ : ∃ Y, Y = X + C2 * 64 := ⟨_, rfl⟩
        obtain ⟨R, hR⟩ : ∃ R, R = Y + C3 := ⟨_, rfl⟩
        have o1 : bits .or .i64 ((C0 : Int) * 262144) ((C1 : Int) * 4096) = (X : Int) := or_to 18 _ _ X (by omega) (by omega) (by omega) (by omega) (by omega) (by omega) (by omega)
        have o2 : bits .or .i64 (X : Int) ((C2 : Int) * 64) = (Y : Int) := or_to 12 _ _ Y (by omega) (by omega) (by omega) (by omega) (by omega) (by omega) (by omega)
        have o3 : bits .or .i64 (Y : Int) (C3 : Int) = (R : Int) := or_to 6 _ _ R (by omega) (by omega) (by omega) (by omega) (by omega) (by omega) (by omega)
        have HR := Lib.hid (show R = (B0 - 240) * 262144 + (B1 - 128) * 4096 + (B2 - 128) * 64 + (B3 - 128) by omega)
        clear hC0 hC1 hC2 hC3 hX hY hR
        go_enter Tryd.func22, Tryd.ntmps22
        go_wp2_with (first | (go_at_call 26; (with_reducible refine HC2.out.mono ?_); rintro e w' ⟨rfl, rfl⟩) | (go_at_call 26; (with_reducible refine HC3.out.mono ?_); rintro e w' ⟨rfl, rfl⟩))
        go_quiet (fail)
        go_wp2_with fail
        refine bodyPost_ret (v := .tuple #[.int .i64 (R : Int), .int .i64 4]) (by simp [results, Tryd.results22]) rfl ?_
        have e0 := H0.out
        have e1 := H1.out
        have e2 := H2.out
        have e3 := H3.out
        have e4 := HSZ.out
        exact leaf (R := R) (W := 4) (by rw [dec4 s i (by unfold ok4; omega), e0, e1, e2, e3, HR.out]) _
      · skip
        rw [show (decide (i + 3 < n) && (decide (128 ≤ B3) && decide (B3 ≤ 191))) = false by simp; omega] at HC3
        clear x1 x2 x3
        go_enter Tryd.func22, Tryd.ntmps22
        go_wp2_with (first | (go_at_call 26; (with_reducible refine HC2.out.mono ?_); rintro e w' ⟨rfl, rfl⟩) | (go_at_call 26; (with_reducible refine HC3.out.mono ?_); rintro e w' ⟨rfl, rfl⟩))
        refine bodyPost_ret (v := .tuple #[.int .i64 65533, .int .i64 1]) (by simp [results, Tryd.results22]) rfl ?_
        have e0 := H0.out
        have e1 := H1.out
        have e2 := H2.out
        have e3 := H3.out
        have e4 := HSZ.out
        exact decb s i (by omega) (by unfold ok2; omega) (by unfold ok3; omega) (by unfold ok4; omega) w
    · skip
      rw [show (decide (i + 2 < n) && (decide (128 ≤ B2) && decide (B2 ≤ 191))) = false by simp; omega] at HC2
      clear x1 x2 x3
      go_enter Tryd.func22, Tryd.ntmps22
      go_wp2_with (first | (go_at_call 26; (with_reducible refine HC2.out.mono ?_); rintro e w' ⟨rfl, rfl⟩))
      refine bodyPost_ret (v := .tuple #[.int .i64 65533, .int .i64 1]) (by simp [results, Tryd.results22]) rfl ?_
      have e0 := H0.out
      have e1 := H1.out
      have e2 := H2.out
      have e3 := H3.out
      have e4 := HSZ.out
      exact decb s i (by omega) (by unfold ok2; omega) (by unfold ok3; omega) (by unfold ok4; omega) w
  · have u1 : decide ((i : Int) + 1 < (n : Int)) = false := by simp; omega
    clear x1 x2 x3
    go_enter Tryd.func22, Tryd.ntmps22
    go_wp2_with fail
    refine bodyPost_ret (v := .tuple #[.int .i64 65533, .int .i64 1]) (by simp [results, Tryd.results22]) rfl ?_
    have e0 := H0.out
    have e1 := H1.out
    have e2 := H2.out
    have e3 := H3.out
    have e4 := HSZ.out
    exact decb s i (by omega) (by unfold ok2; omega) (by unfold ok3; omega) (by unfold ok4; omega) w

set_option maxHeartbeats 8000000 in
set_option maxRecDepth 100000 in
theorem r4b (b n c : Nat) (s : ByteArray) (i : Nat) (w : World) (hi : i < n) (hs : s.size = n) (hn : n ≤ 1048576) (hcell : ∀ j, j < n → w.cell? ⟨b, j, none⟩ = some (.int .u8 ((by_ s j : Nat) : Int))) (hc : by_ s i = 244) : Calls Tryd.prog 22 #[.slice (some ⟨b, 0, none⟩) n c, .int .i64 (i : Int)] w (RuP s i w) := by
  have hsz := hs
  have x0 := hcell i hi
  have x1 := hcell (i + 1)
  have x2 := hcell (i + 2)
  have x3 := hcell (i + 3)
  have HC1 := Lib.hid (show Calls Tryd.prog 26 #[.slice (some ⟨b, 0, none⟩) n c, .int .i64 ((i : Int) + 1)] w fun e w' => e = .returned (.bool (yes s n (i + 1))) ∧ w = w' from cont26 b n c s (i + 1) w hs (by omega) hcell)
  have HC2 := Lib.hid (show Calls Tryd.prog 26 #[.slice (some ⟨b, 0, none⟩) n c, .int .i64 ((i : Int) + 2)] w fun e w' => e = .returned (.bool (yes s n (i + 2))) ∧ w = w' from cont26 b n c s (i + 2) w hs (by omega) hcell)
  have HC3 := Lib.hid (show Calls Tryd.prog 26 #[.slice (some ⟨b, 0, none⟩) n c, .int .i64 ((i : Int) + 3)] w fun e w' => e = .returned (.bool (yes s n (i + 3))) ∧ w = w' from cont26 b n c s (i + 3) w hs (by omega) hcell)
  clear hcell
  obtain ⟨B0, hB0⟩ : ∃ B, by_ s (i + 0) = B := ⟨_, rfl⟩
  have l0 := by_lt s (i + 0)
  obtain ⟨B1, hB1⟩ : ∃ B, by_ s (i + 1) = B := ⟨_, rfl⟩
  have l1 := by_lt s (i + 1)
  obtain ⟨B2, hB2⟩ : ∃ B, by_ s (i + 2) = B := ⟨_, rfl⟩
  have l2 := by_lt s (i + 2)
  obtain ⟨B3, hB3⟩ : ∃ B, by_ s (i + 3) = B := ⟨_, rfl⟩
  have l3 := by_lt s (i + 3)
  unfold yes at HC1 HC2 HC3
  simp only [Nat.add_zero] at hB0 l0
  rw [hB0] at x0 l0 hc
  rw [hB1] at x1 l1 HC1
  rw [hB2] at x2 l2 HC2
  rw [hB3] at x3 l3 HC3
  have H0 := Lib.hid hB0
  have H1 := Lib.hid hB1
  have H2 := Lib.hid hB2
  have H3 := Lib.hid hB3
  have HSZ := Lib.hid hsz
  clear hB0 hB1 hB2 hB3 hsz hs
  have p0 : (0 : Int) ≤ (i : Int) := by omega
  have q0 : 244 ≤ B0 ∧ B0 ≤ 244 := by omega
  obtain ⟨q0a, q0b⟩ := q0
  have q1 : decide ((B0 : Int) < 128) = false := by simp; omega
  have q2 : decide ((194 : Int) ≤ (B0 : Int)) = true := by simp; omega
  have q3 : decide ((B0 : Int) ≤ 223) = false := by simp; omega
  have q4 : decide ((224 : Int) ≤ (B0 : Int)) = true := by simp; omega
  have q5 : decide ((B0 : Int) ≤ 239) = false := by simp; omega
  have q5' : decide ((240 : Int) ≤ (B0 : Int)) = true := by simp; omega
  have q5b : decide ((B0 : Int) ≤ 244) = true := by simp; omega
  have q6 : ((B0 : Int) == 240) = false := by simp; omega
  have q7 : ((B0 : Int) == 244) = true := by simp; omega
  clear hc
  by_cases d2 : i + 1 < n
  · have y1 := x1 d2
    have u1 : decide ((i : Int) + 1 < (n : Int)) = true := by simp; omega
    have v1 : (i : Int) + 1 < (n : Int) := by omega
    by_cases g1 : B1 < 128
    · have s1 : decide ((128 : Int) ≤ (B1 : Int)) = false := by simp; omega
      clear x1 x2 x3
      go_enter Tryd.func22, Tryd.ntmps22
      go_wp2_with fail
      refine bodyPost_ret (v := .tuple #[.int .i64 65533, .int .i64 1]) (by simp [results, Tryd.results22]) rfl ?_
      have e0 := H0.out
      have e1 := H1.out
      have e2 := H2.out
      have e3 := H3.out
      have e4 := HSZ.out
      exact decb s i (by omega) (by unfold ok2; omega) (by unfold ok3; omega) (by unfold ok4; omega) w
    have s1 : decide ((128 : Int) ≤ (B1 : Int)) = true := by simp; omega
    by_cases g2 : 143 < B1
    · have s2 : decide ((B1 : Int) ≤ 143) = false := by simp; omega
      clear x1 x2 x3
      go_enter Tryd.func22, Tryd.ntmps22
      go_wp2_with fail
      refine bodyPost_ret (v := .tuple #[.int .i64 65533, .int .i64 1]) (by simp [results, Tryd.results22]) rfl ?_
      have e0 := H0.out
      have e1 := H1.out
      have e2 := H2.out
      have e3 := H3.out
      have e4 := HSZ.out
      exact decb s i (by omega) (by unfold ok2; omega) (by unfold ok3; omega) (by unfold ok4; omega) w
    have s2 : decide ((B1 : Int) ≤ 143) = true := by simp; omega
    by_cases g3 : i + 2 < n ∧ 128 ≤ B2 ∧ B2 ≤ 191
    · obtain ⟨d3, g3a, g3b⟩ := g3
      rw [show (decide (i + 2 < n) && (decide (128 ≤ B2) && decide (B2 ≤ 191))) = true by simp; omega] at HC2
      have y2 := x2 d3
      have v2 : (i : Int) + 2 < (n : Int) := by omega
      by_cases g4 : i + 3 < n ∧ 128 ≤ B3 ∧ B3 ≤ 191
      · obtain ⟨d4, g4a, g4b⟩ := g4
        rw [show (decide (i + 3 < n) && (decide (128 ≤ B3) && decide (B3 ≤ 191))) = true by simp; omega] at HC3
        have y3 := x3 d4
        have v3 : (i : Int) + 3 < (n : Int) := by omega
        clear x1 x2 x3
        obtain ⟨C0, hC0⟩ : ∃ C, C = B0 - 240 := ⟨_, rfl⟩
        obtain ⟨C1, hC1⟩ : ∃ C, C = B1 - 128 := ⟨_, rfl⟩
        obtain ⟨C2, hC2⟩ : ∃ C, C = B2 - 128 := ⟨_, rfl⟩
        obtain ⟨C3, hC3⟩ : ∃ C, C = B3 - 128 := ⟨_, rfl⟩
        have b0 : C0 < 8 := by omega
        have b1 : C1 < 64 := by omega
        have b2 : C2 < 64 := by omega
        have b3 : C3 < 64 := by omega
        have a0 : bits .and .i64 (B0 : Int) 7 = (C0 : Int) := by rw [and_7 ⟨B0, l0⟩]; simp only; omega
        have a1 : bits .and .u8 (B1 : Int) 63 = (C1 : Int) := by rw [and_u8_63 ⟨B1, l1⟩]; simp only; omega
        have a2 : bits .and .u8 (B2 : Int) 63 = (C2 : Int) := by rw [and_u8_63 ⟨B2, l2⟩]; simp only; omega
        have a3 : bits .and .u8 (B3 : Int) 63 = (C3 : Int) := by rw [and_u8_63 ⟨B3, l3⟩]; simp only; omega
        obtain ⟨X, hX⟩ : ∃ X, X = C0 * 262144 + C1 * 4096 := ⟨_, rfl⟩
        obtain ⟨Y, hY⟩ : ∃ Y, Y = X + C2 * 64 := ⟨_, rfl⟩
        obtain ⟨R, hR⟩ : ∃ R, R = Y + C3 := ⟨_, rfl⟩
        have o1 : bits .or .i64 ((C0 : Int) * 262144) ((C1 : Int) * 4096) = (X : Int) := or_to 18 _ _ X (by omega) (by omega) (by omega) (by omega) (by omega) (by omega) (by omega)
        have o2 : bits .or .i64 (X : Int) ((C2 : Int) * 64) = (Y : Int) := or_to 12 _ _ Y (by omega) (by omega) (by omega) (by omega) (by omega) (by omega) (by omega)
        have o3 : bits .or .i64 (Y : Int) (C3 : Int) = (R : Int) := or_to 6 _ _ R (by omega) (by omega) (by omega) (by omega) (by omega) (by omega) (by omega)
        have HR := Lib.hid (show R = (B0 - 240) * 262144 + (B1 - 128) * 4096 + (B2 - 128) * 64 + (B3 - 128) by omega)
        clear hC0 hC1 hC2 hC3 hX hY hR
        go_enter Tryd.func22, Tryd.ntmps22
        go_wp2_with (first | (go_at_call 26; (with_reducible refine HC2.out.mono ?_); rintro e w' ⟨rfl, rfl⟩) | (go_at_call 26; (with_reducible refine HC3.out.mono ?_); rintro e w' ⟨rfl, rfl⟩))
        go_quiet (fail)
        go_wp2_with fail
        refine bodyPost_ret (v := .tuple #[.int .i64 (R : Int), .int .i64 4]) (by simp [results, Tryd.results22]) rfl ?_
        have e0 := H0.out
        have e1 := H1.out
        have e2 := H2.out
        have e3 := H3.out
        have e4 := HSZ.out
        exact leaf (R := R) (W := 4) (by rw [dec4 s i (by unfold ok4; omega), e0, e1, e2, e3, HR.out]) _
      · skip
        rw [show (decide (i + 3 < n) && (decide (128 ≤ B3) && decide (B3 ≤ 191))) = false by simp; omega] at HC3
        clear x1 x2 x3
        go_enter Tryd.func22, Tryd.ntmps22
        go_wp2_with (first | (go_at_call 26; (with_reducible refine HC2.out.mono ?_); rintro e w' ⟨rfl, rfl⟩) | (go_at_call 26; (with_reducible refine HC3.out.mono ?_); rintro e w' ⟨rfl, rfl⟩))
        refine bodyPost_ret (v := .tuple #[.int .i64 65533, .int .i64 1]) (by simp [results, Tryd.results22]) rfl ?_
        have e0 := H0.out
        have e1 := H1.out
        have e2 := H2.out
        have e3 := H3.out
        have e4 := HSZ.out
        exact decb s i (by omega) (by unfold ok2; omega) (by unfold ok3; omega) (by unfold ok4; omega) w
    · skip
      rw [show (decide (i + 2 < n) && (decide (128 ≤ B2) && decide (B2 ≤ 191))) = false by simp; omega] at HC2
      clear x1 x2 x3
      go_enter Tryd.func22, Tryd.ntmps22
      go_wp2_with (first | (go_at_call 26; (with_reducible refine HC2.out.mono ?_); rintro e w' ⟨rfl, rfl⟩))
      refine bodyPost_ret (v := .tuple #[.int .i64 65533, .int .i64 1]) (by simp [results, Tryd.results22]) rfl ?_
      have e0 := H0.out
      have e1 := H1.out
      have e2 := H2.out
      have e3 := H3.out
      have e4 := HSZ.out
      exact decb s i (by omega) (by unfold ok2; omega) (by unfold ok3; omega) (by unfold ok4; omega) w
  · have u1 : decide ((i : Int) + 1 < (n : Int)) = false := by simp; omega
    clear x1 x2 x3
    go_enter Tryd.func22, Tryd.ntmps22
    go_wp2_with fail
    refine bodyPost_ret (v := .tuple #[.int .i64 65533, .int .i64 1]) (by simp [results, Tryd.results22]) rfl ?_
    have e0 := H0.out
    have e1 := H1.out
    have e2 := H2.out
    have e3 := H3.out
    have e4 := HSZ.out
    exact decb s i (by omega) (by unfold ok2; omega) (by unfold ok3; omega) (by unfold ok4; omega) w

set_option maxHeartbeats 8000000 in
set_option maxRecDepth 100000 in
theorem r4c (b n c : Nat) (s : ByteArray) (i : Nat) (w : World) (hi : i < n) (hs : s.size = n) (hn : n ≤ 1048576) (hcell : ∀ j, j < n → w.cell? ⟨b, j, none⟩ = some (.int .u8 ((by_ s j : Nat) : Int))) (hc : 240 ≤ by_ s i ∧ by_ s i ≤ 244 ∧ by_ s i ≠ 240 ∧ by_ s i ≠ 244) : Calls Tryd.prog 22 #[.slice (some ⟨b, 0, none⟩) n c, .int .i64 (i : Int)] w (RuP s i w) := by
  have hsz := hs
  have x0 := hcell i hi
  have x1 := hcell (i + 1)
  have x2 := hcell (i + 2)
  have x3 := hcell (i + 3)
  have HC1 := Lib.hid (show Calls Tryd.prog 26 #[.slice (some ⟨b, 0, none⟩) n c, .int .i64 ((i : Int) + 1)] w fun e w' => e = .returned (.bool (yes s n (i + 1))) ∧ w = w' from cont26 b n c s (i + 1) w hs (by omega) hcell)
  have HC2 := Lib.hid (show Calls Tryd.prog 26 #[.slice (some ⟨b, 0, none⟩) n c, .int .i64 ((i : Int) + 2)] w fun e w' => e = .returned (.bool (yes s n (i + 2))) ∧ w = w' from cont26 b n c s (i + 2) w hs (by omega) hcell)
  have HC3 := Lib.hid (show Calls Tryd.prog 26 #[.slice (some ⟨b, 0, none⟩) n c, .int .i64 ((i : Int) + 3)] w fun e w' => e = .returned (.bool (yes s n (i + 3))) ∧ w = w' from cont26 b n c s (i + 3) w hs (by omega) hcell)
  clear hcell
  obtain ⟨B0, hB0⟩ : ∃ B, by_ s (i + 0) = B := ⟨_, rfl⟩
  have l0 := by_lt s (i + 0)
  obtain ⟨B1, hB1⟩ : ∃ B, by_ s (i + 1) = B := ⟨_, rfl⟩
  have l1 := by_lt s (i + 1)
  obtain ⟨B2, hB2⟩ : ∃ B, by_ s (i + 2) = B := ⟨_, rfl⟩
  have l2 := by_lt s (i + 2)
  obtain ⟨B3, hB3⟩ : ∃ B, by_ s (i + 3) = B := ⟨_, rfl⟩
  have l3 := by_lt s (i + 3)
  unfold yes at HC1 HC2 HC3
  simp only [Nat.add_zero] at hB0 l0
  rw [hB0] at x0 l0 hc
  rw [hB1] at x1 l1 HC1
  rw [hB2] at x2 l2 HC2
  rw [hB3] at x3 l3 HC3
  have H0 := Lib.hid hB0
  have H1 := Lib.hid hB1
  have H2 := Lib.hid hB2
  have H3 := Lib.hid hB3
  have HSZ := Lib.hid hsz
  clear hB0 hB1 hB2 hB3 hsz hs
  have p0 : (0 : Int) ≤ (i : Int) := by omega
  obtain ⟨c3a, c3b, n1, n2⟩ := hc
  have q1 : decide ((B0 : Int) < 128) = false := by simp; omega
  have q2 : decide ((194 : Int) ≤ (B0 : Int)) = true := by simp; omega
  have q3 : decide ((B0 : Int) ≤ 223) = false := by simp; omega
  have q4 : decide ((224 : Int) ≤ (B0 : Int)) = true := by simp; omega
  have q5 : decide ((B0 : Int) ≤ 239) = false := by simp; omega
  have q5' : decide ((240 : Int) ≤ (B0 : Int)) = true := by simp; omega
  have q5b : decide ((B0 : Int) ≤ 244) = true := by simp; omega
  have q6 : ((B0 : Int) == 240) = false := by simp; omega
  have q7 : ((B0 : Int) == 244) = false := by simp; omega
  by_cases d2 : i + 1 < n
  · have y1 := x1 d2
    have u1 : decide ((i : Int) + 1 < (n : Int)) = true := by simp; omega
    have v1 : (i : Int) + 1 < (n : Int) := by omega
    by_cases g1 : B1 < 128
    · have s1 : decide ((128 : Int) ≤ (B1 : Int)) = false := by simp; omega
      clear x1 x2 x3
      go_enter Tryd.func22, Tryd.ntmps22
      go_wp2_with fail
      refine bodyPost_ret (v := .tuple #[.int .i64 65533, .int .i64 1]) (by simp [results, Tryd.results22]) rfl ?_
      have e0 := H0.out
      have e1 := H1.out
      have e2 := H2.out
      have e3 := H3.out
      have e4 := HSZ.out
      exact decb s i (by omega) (by unfold ok2; omega) (by unfold ok3; omega) (by unfold ok4; omega) w
    have s1 : decide ((128 : Int) ≤ (B1 : Int)) = true := by simp; omega
    by_cases g2 : 191 < B1
    · have s2 : decide ((B1 : Int) ≤ 191) = false := by simp; omega
      clear x1 x2 x3
      go_enter Tryd.func22, Tryd.ntmps22
      go_wp2_with fail
      refine bodyPost_ret (v := .tuple #[.int .i64 65533, .int .i64 1]) (by simp [results, Tryd.results22]) rfl ?_
      have e0 := H0.out
      have e1 := H1.out
      have e2 := H2.out
      have e3 := H3.out
      have e4 := HSZ.out
      exact decb s i (by omega) (by unfold ok2; omega) (by unfold ok3; omega) (by unfold ok4; omega) w
    have s2 : decide ((B1 : Int) ≤ 191) = true := by simp; omega
    by_cases g3 : i + 2 < n ∧ 128 ≤ B2 ∧ B2 ≤ 191
    · obtain ⟨d3, g3a, g3b⟩ := g3
      rw [show (decide (i + 2 < n) && (decide (128 ≤ B2) && decide (B2 ≤ 191))) = true by simp; omega] at HC2
      have y2 := x2 d3
      have v2 : (i : Int) + 2 < (n : Int) := by omega
      by_cases g4 : i + 3 < n ∧ 128 ≤ B3 ∧ B3 ≤ 191
      · obtain ⟨d4, g4a, g4b⟩ := g4
        rw [show (decide (i + 3 < n) && (decide (128 ≤ B3) && decide (B3 ≤ 191))) = true by simp; omega] at HC3
        have y3 := x3 d4
        have v3 : (i : Int) + 3 < (n : Int) := by omega
        clear x1 x2 x3
        obtain ⟨C0, hC0⟩ : ∃ C, C = B0 - 240 := ⟨_, rfl⟩
        obtain ⟨C1, hC1⟩ : ∃ C, C = B1 - 128 := ⟨_, rfl⟩
        obtain ⟨C2, hC2⟩ : ∃ C, C = B2 - 128 := ⟨_, rfl⟩
        obtain ⟨C3, hC3⟩ : ∃ C, C = B3 - 128 := ⟨_, rfl⟩
        have b0 : C0 < 8 := by omega
        have b1 : C1 < 64 := by omega
        have b2 : C2 < 64 := by omega
        have b3 : C3 < 64 := by omega
        have a0 : bits .and .i64 (B0 : Int) 7 = (C0 : Int) := by rw [and_7 ⟨B0, l0⟩]; simp only; omega
        have a1 : bits .and .u8 (B1 : Int) 63 = (C1 : Int) := by rw [and_u8_63 ⟨B1, l1⟩]; simp only; omega
        have a2 : bits .and .u8 (B2 : Int) 63 = (C2 : Int) := by rw [and_u8_63 ⟨B2, l2⟩]; simp only; omega
        have a3 : bits .and .u8 (B3 : Int) 63 = (C3 : Int) := by rw [and_u8_63 ⟨B3, l3⟩]; simp only; omega
        obtain ⟨X, hX⟩ : ∃ X, X = C0 * 262144 + C1 * 4096 := ⟨_, rfl⟩
        obtain ⟨Y, hY⟩ : ∃ Y, Y = X + C2 * 64 := ⟨_, rfl⟩
        obtain ⟨R, hR⟩ : ∃ R, R = Y + C3 := ⟨_, rfl⟩
        have o1 : bits .or .i64 ((C0 : Int) * 262144) ((C1 : Int) * 4096) = (X : Int) := or_to 18 _ _ X (by omega) (by omega) (by omega) (by omega) (by omega) (by omega) (by omega)
        have o2 : bits .or .i64 (X : Int) ((C2 : Int) * 64) = (Y : Int) := or_to 12 _ _ Y (by omega) (by omega) (by omega) (by omega) (by omega) (by omega) (by omega)
        have o3 : bits .or .i64 (Y : Int) (C3 : Int) = (R : Int) := or_to 6 _ _ R (by omega) (by omega) (by omega) (by omega) (by omega) (by omega) (by omega)
        have HR := Lib.hid (show R = (B0 - 240) * 262144 + (B1 - 128) * 4096 + (B2 - 128) * 64 + (B3 - 128) by omega)
        clear hC0 hC1 hC2 hC3 hX hY hR
        go_enter Tryd.func22, Tryd.ntmps22
        go_wp2_with (first | (go_at_call 26; (with_reducible refine HC2.out.mono ?_); rintro e w' ⟨rfl, rfl⟩) | (go_at_call 26; (with_reducible refine HC3.out.mono ?_); rintro e w' ⟨rfl, rfl⟩))
        go_quiet (fail)
        go_wp2_with fail
        refine bodyPost_ret (v := .tuple #[.int .i64 (R : Int), .int .i64 4]) (by simp [results, Tryd.results22]) rfl ?_
        have e0 := H0.out
        have e1 := H1.out
        have e2 := H2.out
        have e3 := H3.out
        have e4 := HSZ.out
        exact leaf (R := R) (W := 4) (by rw [dec4 s i (by unfold ok4; omega), e0, e1, e2, e3, HR.out]) _
      · skip
        rw [show (decide (i + 3 < n) && (decide (128 ≤ B3) && decide (B3 ≤ 191))) = false by simp; omega] at HC3
        clear x1 x2 x3
        go_enter Tryd.func22, Tryd.ntmps22
        go_wp2_with (first | (go_at_call 26; (with_reducible refine HC2.out.mono ?_); rintro e w' ⟨rfl, rfl⟩) | (go_at_call 26; (with_reducible refine HC3.out.mono ?_); rintro e w' ⟨rfl, rfl⟩))
        refine bodyPost_ret (v := .tuple #[.int .i64 65533, .int .i64 1]) (by simp [results, Tryd.results22]) rfl ?_
        have e0 := H0.out
        have e1 := H1.out
        have e2 := H2.out
        have e3 := H3.out
        have e4 := HSZ.out
        exact decb s i (by omega) (by unfold ok2; omega) (by unfold ok3; omega) (by unfold ok4; omega) w
    · skip
      rw [show (decide (i + 2 < n) && (decide (128 ≤ B2) && decide (B2 ≤ 191))) = false by simp; omega] at HC2
      clear x1 x2 x3
      go_enter Tryd.func22, Tryd.ntmps22
      go_wp2_with (first | (go_at_call 26; (with_reducible refine HC2.out.mono ?_); rintro e w' ⟨rfl, rfl⟩))
      refine bodyPost_ret (v := .tuple #[.int .i64 65533, .int .i64 1]) (by simp [results, Tryd.results22]) rfl ?_
      have e0 := H0.out
      have e1 := H1.out
      have e2 := H2.out
      have e3 := H3.out
      have e4 := HSZ.out
      exact decb s i (by omega) (by unfold ok2; omega) (by unfold ok3; omega) (by unfold ok4; omega) w
  · have u1 : decide ((i : Int) + 1 < (n : Int)) = false := by simp; omega
    clear x1 x2 x3
    go_enter Tryd.func22, Tryd.ntmps22
    go_wp2_with fail
    refine bodyPost_ret (v := .tuple #[.int .i64 65533, .int .i64 1]) (by simp [results, Tryd.results22]) rfl ?_
    have e0 := H0.out
    have e1 := H1.out
    have e2 := H2.out
    have e3 := H3.out
    have e4 := HSZ.out
    exact decb s i (by omega) (by unfold ok2; omega) (by unfold ok3; omega) (by unfold ok4; omega) w
end Go.Proofs.YtmakaafjkeeooacDoor.UgA4
