/- FnCookedAndRawTemplateContentsWhole: hex digits, UTF-8. -/
import Derived.Test.YtalpfbbceggcaaaDoorCwG
import Derived.Great.BuildSlice
import Derived.Laws.BitsAllLaws
import Derived.WalkKit
import Derived.ProofKit
import Derived.OpenShut
import Derived.Below
import Derived.WalkLawsBesides
import Derived.Lib.Hide
import Derived.Outline
import Derived.RegionTactic
import Derived.Deep.QuietTactic
import Derived.BigQuiet
import Derived.WalkSpells
import Derived.Deep.OwnRows
import Derived.IntWalk
import Derived.Deep.DeepMust
namespace Go.Proofs.YtalpfbbceggcaaaDoor.CwA
open Go.RowKit Mem Args Own CwP CwH CwG
set_option linter.unusedVariables false

theorem and15 (x : Int) (h0 : 0 ≤ x) (h1 : x ≤ 65535) : bits .and .u16 x 15 = x % 16 := by
  obtain ⟨n, rfl⟩ : ∃ n : Nat, x = (n : Int) := ⟨x.toNat, by omega⟩
  have h := u16_and_nat n 15 (by omega) (by omega)
  rw [show ((15 : Nat) : Int) = 15 from rfl] at h
  rw [h, show (15 : Nat) = 2 ^ 4 - 1 from rfl, Nat.and_two_pow_sub_one_eq_mod]
  rfl
theorem and63 (x : Int) (h0 : 0 ≤ x) (h1 : x ≤ 65535) : bits .and .u16 x 63 = x % 64 := by
  obtain ⟨n, rfl⟩ : ∃ n : Nat, x = (n : Int) := ⟨x.toNat, by omega⟩
  have h := u16_and_nat n 63 (by omega) (by omega)
  rw [show ((63 : Nat) : Int) = 63 from rfl] at h
  rw [h, show (63 : Nat) = 2 ^ 6 - 1 from rfl, Nat.and_two_pow_sub_one_eq_mod]
  rfl
theorem or128 (x : Int) (h0 : 0 ≤ x) (h1 : x < 64) : bits .or .u16 128 x = 128 + x := by
  obtain ⟨n, rfl⟩ : ∃ n : Nat, x = (n : Int) := ⟨x.toNat, by omega⟩
  have h := u16_or_nat 128 n (by omega) (by omega)
  have hd : ∀ k : Nat, k < 64 → 128 ||| k = 128 + k := by decide
  rw [show ((128 : Nat) : Int) = 128 from rfl] at h
  rw [h, hd n (by omega)]
  rfl
theorem or192 (x : Int) (h0 : 0 ≤ x) (h1 : x < 64) : bits .or .u16 192 x = 192 + x := by
  obtain ⟨n, rfl⟩ : ∃ n : Nat, x = (n : Int) := ⟨x.toNat, by omega⟩
  have h := u16_or_nat 192 n (by omega) (by omega)
  have hd : ∀ k : Nat, k < 64 → 192 ||| k = 192 + k := by decide
  rw [show ((192 : Nat) : Int) = 192 from rfl] at h
  rw [h, hd n (by omega)]
  rfl
theorem or224 (x : Int) (h0 : 0 ≤ x) (h1 : x < 16) : bits .or .u16 224 x = 224 + x := by
  obtain ⟨n, rfl⟩ : ∃ n : Nat, x = (n : Int) := ⟨x.toNat, by omega⟩
  have h := u16_or_nat 224 n (by omega) (by omega)
  have hd : ∀ k : Nat, k < 16 → 224 ||| k = 224 + k := by decide
  rw [show ((224 : Nat) : Int) = 224 from rfl] at h
  rw [h, hd n (by omega)]
  rfl
theorem hx_len (u : Int) (up : Bool) : ∀ n, (hx u up n).length = n
  | 0 => rfl
  | n + 1 => by rw [hx, List.length_cons, hx_len u up n]
set_option maxRecDepth 100000 in
set_option maxHeartbeats 1000000 in
theorem hex12 (B : Nat) (v : Value) (zs : List Int) (u : Int) (n : Nat) (up : Bool) (w : World) (ho : Own w B 5 .u8 v zs) (h0 : 0 ≤ u) (h1 : u ≤ 65535) (hn : n ≤ 4) (hl : zs.length ≤ 500000000) (hB : B ≤ w.heap.size) :
    Calls Tryd.prog 12 #[v, .int .u16 u, .int .i64 (n : Int), .bool up] w (Ap B w v zs (hx u up n)) := by
  have HO := Lib.hid ho
  have HBW := Lib.hid hB
  clear ho hB
  go_enter Tryd.func12, Tryd.ntmps12
  go_wp2_with fail
  go_loopw [0, 9] (fun s0 s9 wr => ∃ (v' : Value) (z : Int) (j : Nat) (ys : List Int), v' = s0 ∧ s9 = .int .i64 z ∧ z = (j : Int) - 1 ∧ j ≤ n ∧ Hid (ys ++ hx u up j = hx u up n) ∧ Hid (Own wr B 5 .u8 v' (zs ++ ys)) ∧ Hid (Gr w wr v v') ∧ Hid (ys.length ≤ 4)) (fun _ s9 _ => (intOf s9 + 1).toNat)
  case atStart => exact ⟨v, _, n, [], rfl, rfl, rfl, Nat.le_refl _, rfl, by rw [List.append_nil]; exact HO.out, Gr.refl _ _, by show _ ≤ _; simp⟩
  case round =>
    obtain ⟨v', z, j, ys, rfl, rfl, hz, hj, HY, HW, HG, HL⟩ := hrel
    have hjj : j = 0 ∨ j = 1 ∨ j = 2 ∨ j = 3 ∨ j = 4 := by omega
    rcases hjj with rfl | rfl | rfl | rfl | rfl
    · obtain rfl : z = -1 := by omega
      clear hz
      obtain ⟨A, m, c, hf⟩ : ∃ A m c, v' = .slice A m c := by obtain ⟨A, c, h⟩ := HW.out.form; exact ⟨A, _, c, h⟩
      subst hf
      have HF := Lib.hid (show Own wr B 5 .u8 (.slice A m c) (zs ++ hx u up n) from by have h := HY.out; rw [hx, List.append_nil] at h; rw [← h]; exact HW.out)
      go_wp2_with fail
      go_ret
      exact ⟨A, m, c, rfl, HF.out, HG.out⟩
    · obtain rfl : z = 0 := by omega
      clear hz
      have hb := and15 u (by omega) (by omega)
      have hY2 : (ys ++ [hd (u % 16) up]) ++ hx u up 0 = hx u up n := by rw [← HY.out]; simp [hx]
      have HY2 := Lib.hid hY2
      clear hY2
      have HBR := Lib.hid (show B ≤ wr.heap.size from Nat.le_trans HBW.out HG.out.size)
      have HLL := Lib.hid (show (zs ++ ys).length + 1 ≤ 1000000000 from by have := HL.out; rw [List.length_append]; omega)
      have HL2 := Lib.hid (show (ys ++ [hd (u % 16) up]).length ≤ 4 from by have h := congrArg List.length HY2.out; rw [List.length_append, hx_len, hx_len] at h; omega)
      go_wp2_with (first
        | (go_at_call 21; refine (hd21 _ (by omega) (by omega) up _).mono ?_; rintro e w' ⟨rfl, rfl⟩)
        | (refine wpList_app _ rfl _ _ rfl B v' (zs ++ ys) rfl HW.out [hd (u % 16) up] 1 rfl rfl HLL.out HBR.out ?_; intro A' n' c' w' ho hg; have HO' := Lib.hid ho; have HG' := Lib.hid hg; clear ho hg))
      go_roundw
      case rel => exact ⟨_, _, 0, _, rfl, rfl, by omega, by omega, HY2.out, by rw [← List.append_assoc]; exact HO'.out, HG.out.trans HG'.out, HL2.out⟩
      case measure => simp [intOf]
    · obtain rfl : z = 1 := by omega
      clear hz
      have hb := and15 (u / 16) (by omega) (by omega)
      have hY2 : (ys ++ [hd (u / 16 % 16) up]) ++ hx u up 1 = hx u up n := by rw [← HY.out]; simp [hx]
      have HY2 := Lib.hid hY2
      clear hY2
      have HBR := Lib.hid (show B ≤ wr.heap.size from Nat.le_trans HBW.out HG.out.size)
      have HLL := Lib.hid (show (zs ++ ys).length + 1 ≤ 1000000000 from by have := HL.out; rw [List.length_append]; omega)
      have HL2 := Lib.hid (show (ys ++ [hd (u / 16 % 16) up]).length ≤ 4 from by have h := congrArg List.length HY2.out; rw [List.length_append, hx_len, hx_len] at h; omega)
      go_wp2_with (first
        | (go_at_call 21; refine (hd21 _ (by omega) (by omega) up _).mono ?_; rintro e w' ⟨rfl, rfl⟩)
        | (refine wpList_app _ rfl _ _ rfl B v' (zs ++ ys) rfl HW.out [hd (u / 16 % 16) up] 1 rfl rfl HLL.out HBR.out ?_; intro A' n' c' w' ho hg; have HO' := Lib.hid ho; have HG' := Lib.hid hg; clear ho hg))
      go_roundw
      case rel => exact ⟨_, _, 1, _, rfl, rfl, by omega, by omega, HY2.out, by rw [← List.append_assoc]; exact HO'.out, HG.out.trans HG'.out, HL2.out⟩
      case measure => simp [intOf]
    · obtain rfl : z = 2 := by omega
      clear hz
      have hb := and15 (u / 256) (by omega) (by omega)
      have hY2 : (ys ++ [hd (u / 256 % 16) up]) ++ hx u up 2 = hx u up n := by rw [← HY.out]; simp [hx]
      have HY2 := Lib.hid hY2
      clear hY2
      have HBR := Lib.hid (show B ≤ wr.heap.size from Nat.le_trans HBW.out HG.out.size)
      have HLL := Lib.hid (show (zs ++ ys).length + 1 ≤ 1000000000 from by have := HL.out; rw [List.length_append]; omega)
      have HL2 := Lib.hid (show (ys ++ [hd (u / 256 % 16) up]).length ≤ 4 from by have h := congrArg List.length HY2.out; rw [List.length_append, hx_len, hx_len] at h; omega)
      go_wp2_with (first
        | (go_at_call 21; refine (hd21 _ (by omega) (by omega) up _).mono ?_; rintro e w' ⟨rfl, rfl⟩)
        | (refine wpList_app _ rfl _ _ rfl B v' (zs ++ ys) rfl HW.out [hd (u / 256 % 16) up] 1 rfl rfl HLL.out HBR.out ?_; intro A' n' c' w' ho hg; have HO' := Lib.hid ho; have HG' := Lib.hid hg; clear ho hg))
      go_roundw
      case rel => exact ⟨_, _, 2, _, rfl, rfl, by omega, by omega, HY2.out, by rw [← List.append_assoc]; exact HO'.out, HG.out.trans HG'.out, HL2.out⟩
      case measure => simp [intOf]
    · obtain rfl : z = 3 := by omega
      clear hz
      have hb := and15 (u / 4096) (by omega) (by omega)
      have hY2 : (ys ++ [hd (u / 4096 % 16) up]) ++ hx u up 3 = hx u up n := by rw [← HY.out]; simp [hx]
      have HY2 := Lib.hid hY2
      clear hY2
      have HBR := Lib.hid (show B ≤ wr.heap.size from Nat.le_trans HBW.out HG.out.size)
      have HLL := Lib.hid (show (zs ++ ys).length + 1 ≤ 1000000000 from by have := HL.out; rw [List.length_append]; omega)
      have HL2 := Lib.hid (show (ys ++ [hd (u / 4096 % 16) up]).length ≤ 4 from by have h := congrArg List.length HY2.out; rw [List.length_append, hx_len, hx_len] at h; omega)
      go_wp2_with (first
        | (go_at_call 21; refine (hd21 _ (by omega) (by omega) up _).mono ?_; rintro e w' ⟨rfl, rfl⟩)
        | (refine wpList_app _ rfl _ _ rfl B v' (zs ++ ys) rfl HW.out [hd (u / 4096 % 16) up] 1 rfl rfl HLL.out HBR.out ?_; intro A' n' c' w' ho hg; have HO' := Lib.hid ho; have HG' := Lib.hid hg; clear ho hg))
      go_roundw
      case rel => exact ⟨_, _, 3, _, rfl, rfl, by omega, by omega, HY2.out, by rw [← List.append_assoc]; exact HO'.out, HG.out.trans HG'.out, HL2.out⟩
      case measure => simp [intOf]
end Go.Proofs.YtalpfbbceggcaaaDoor.CwA
