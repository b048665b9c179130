/- FnAppendChunkFromZeroIsVerbatim: helpers. -/
import Derived.Test.YtmgkjkfhhdkkmabDoorRows
import Derived.Test.YtmgkjkfhhdkkmabDoorMem
import Derived.Test.YtmgkjkfhhdkkmabDoorSl
import Derived.Test.YtmgkjkfhhdkkmabDoorOwn
import Derived.Test.YtmgkjkfhhdkkmabDoorVq
import Derived.Test.YtmgkjkfhhdkkmabDoorVars
import Derived.Laws.CopyOwn
import Derived.Deep.DeepCutAuto
import Derived.Deep.Cut
import Derived.WalkKit
import Derived.ProofKit
import Derived.OpenShut
import Derived.Below
import Derived.WalkLawsBesides
import Derived.Lib.Hide
import Derived.Outline
import Derived.RegionTactic
import Derived.Deep.QuietTactic
import Derived.BigQuiet
import Derived.WalkSpells
import Derived.Deep.OwnRows
import Derived.IntWalk
import Derived.Deep.DeepMust
namespace Go.Proofs.YtmgkjkfhhdkkmabDoor.ApA
open Go.RowKit Mem Sl
set_option linter.unusedVariables false
open Own Vq

set_option maxHeartbeats 1000000 in
theorem bytes4 (A0 : Option Addr) (n0 c0 : Nat) (A1 : Option Addr) (n1 c1 : Nat) (y2 : Int) (w : World) (m0 : n0 ≤ maxLen) (m1 : n1 ≤ maxLen) : Calls Tryd.prog 4 #[.slice A0 n0 c0, .slice A1 n1 c1, .int .i64 y2] w fun e w' => e = .returned (.bool (decide (n0 + n1 ≤ 1048576))) ∧ w = w' := by
  unfold maxLen at *
  by_cases h0 : n0 ≤ 1048576
  case neg =>
    go_enter Tryd.func4, Tryd.ntmps4
    go_wp2_with fail
    go_ret
    exact ⟨congrArg (fun b => Ending.returned (Value.bool b)) (show false = decide (n0 + n1 ≤ 1048576) by symm; simp; omega), rfl⟩
  by_cases h1 : n1 ≤ 1048576
  case neg =>
    go_enter Tryd.func4, Tryd.ntmps4
    go_wp2_with fail
    go_ret
    exact ⟨congrArg (fun b => Ending.returned (Value.bool b)) (show false = decide (n0 + n1 ≤ 1048576) by symm; simp; omega), rfl⟩
  by_cases g1 : n0 + n1 ≤ 1048576
  case neg =>
    go_enter Tryd.func4, Tryd.ntmps4
    go_wp2_with fail
    go_ret
    exact ⟨congrArg (fun b => Ending.returned (Value.bool b)) (show false = decide (n0 + n1 ≤ 1048576) by symm; simp; omega), rfl⟩
  go_enter Tryd.func4, Tryd.ntmps4
  go_wp2_with fail
  go_ret
  exact ⟨congrArg (fun b => Ending.returned (Value.bool b)) (show true = decide (n0 + n1 ≤ 1048576) by symm; simp; omega), rfl⟩

set_option maxHeartbeats 400000 in
theorem same12 (A B : Option Addr) (n c d : Nat) (zs : List Int) (w : World) (h : Args.IsInts .u8 w A n c zs) (h' : Args.IsInts .u8 w B n d zs) (hn : n ≤ 16777216) :
    Calls Tryd.prog 12 #[.slice A n c, .slice B n d] w fun e w' => e = .returned (.bool true) ∧ ∃ m, w' = w.drewN m := by
  have HR := Lib.hid (fun k => h.read k)
  have HR' := Lib.hid (fun k => h'.read k)
  have hne : ((n : Int) != (n : Int)) = false := by simp
  clear h h'
  go_enter Tryd.func12, Tryd.ntmps12
  go_wp2
  go_loopw [5] (fun i wr => ∃ k m : Nat, k ≤ n ∧ i = .int .i64 k ∧ wr = w.drewN m) (fun i _ => n - (intOf i).toNat)
  case atStart => exact ⟨0, 0, Nat.zero_le _, rfl, rfl⟩
  case round =>
    obtain ⟨k, m, hk, rfl, rfl⟩ := hrel
    by_cases hlt : k < n
    · obtain ⟨b, off, ha, hb, hcell⟩ := HR.out k hlt
      obtain ⟨b', off', ha', hb', hcell'⟩ := HR'.out k hlt
      subst ha ha'
      obtain ⟨x, hx⟩ : ∃ x, x = zs.getD k 0 := ⟨_, rfl⟩
      rw [← hx] at hcell hcell'
      clear hx
      have hxx : (x != x) = false := by simp
      go_wp2
      go_quiet (fail)
      go_wp2
      go_roundw
      case rel => exact ⟨k + 1, m + nq, by omega, by go_num, by simp⟩
      case measure => simp [intOf]; omega
    · go_wp2
      go_ret
      exact ⟨rfl, m, rfl⟩

theorem info5 : (Tryd.prog.info? 5).map (fun i => (i.zero, i.size, i.bytes)) = some (some (.int .u8 0), 1, 1) := by kernel_rfl
/-- The bound is met: the answer is true only then. -/
def Bnd (zs : List Int) (w : World) (e : Ending) (w' : World) : Prop := ∃ b, e = .returned (.bool b) ∧ (b = true → ∀ z ∈ zs, -4096 ≤ z ∧ z ≤ 4096) ∧ w = w'
set_option maxHeartbeats 1000000 in
theorem ok5 (A : Option Addr) (n c : Nat) (zs : List Int) (w : World) (h : Args.IsInts .i32 w A n c zs) (hn : n ≤ 1048576) :
    Calls Tryd.prog 5 #[.slice A n c, .int .i32 4096] w (Bnd zs w) := by
  have HR := Lib.hid (fun k => h.read k)
  have HL := Lib.hid h.2.2.1
  clear h
  go_enter Tryd.func5, Tryd.ntmps5
  go_wp2
  go_loop [5] (fun i => ∃ k : Nat, k ≤ n ∧ i = .int .i64 k ∧ Hid (∀ j, j < k → -4096 ≤ zs.getD j 0 ∧ zs.getD j 0 ≤ 4096)) (fun i => n - (intOf i).toNat)
  case atStart => exact ⟨0, Nat.zero_le _, rfl, Lib.hid (fun j hj => by omega)⟩
  case round =>
    obtain ⟨k, hk, rfl, hall⟩ := hrel
    by_cases hlt : k < n
    · obtain ⟨b, off, ha, hb, hcell⟩ := HR.out k hlt
      subst ha
      obtain ⟨x, hx⟩ : ∃ x, x = zs.getD k 0 := ⟨_, rfl⟩
      rw [← hx] at hcell
      have HX := Lib.hid hx
      clear hx
      by_cases h1 : x < -4096
      · have t1 : decide (x < -4096) = true := by simp; omega
        go_wp2
        go_ret
        exact ⟨false, rfl, by simp, rfl⟩
      · have t1 : decide (x < -4096) = false := by simp; omega
        by_cases h2 : 4096 < x
        · have t2 : decide (4096 < x) = true := by simp; omega
          go_wp2
          go_ret
          exact ⟨false, rfl, by simp, rfl⟩
        · have t2 : decide (4096 < x) = false := by simp; omega
          go_wp2
          go_round
          case rel => exact ⟨k + 1, by omega, by go_num, Lib.hid (fun j hj => by
            rcases Nat.lt_or_ge j k with h | h
            · exact hall.out j h
            · obtain rfl : j = k := by omega
              rw [← HX.out]; omega)⟩
          case measure => simp [intOf]; omega
    · have hkn : k = n := by omega
      subst hkn
      go_wp2
      go_ret
      exact ⟨true, rfl, fun _ z hz => by
        obtain ⟨j, hj, rfl⟩ := List.mem_iff_getElem.1 hz
        have h1 := hall.out j (by have := HL.out; omega)
        rwa [getD_at _ _ hj] at h1, rfl⟩
theorem ch_val : ∀ d : Nat, d < 64 → ch d = if d < 26 then 65 + (d : Int) else if d < 52 then 71 + (d : Int) else if d < 62 then (d : Int) - 4 else if d = 62 then 43 else 47 := by
  have h : (List.range 64).all (fun d => ch d == if d < 26 then 65 + (d : Int) else if d < 52 then 71 + (d : Int) else if d < 62 then (d : Int) - 4 else if d = 62 then 43 else 47) = true := by decide
  intro d hd
  have := List.all_eq_true.1 h d (List.mem_range.2 hd)
  simpa using this
theorem dig24 (d : Nat) (w : World) (h : d < 64) : Calls Tryd.prog 24 #[.int .i64 (d : Int)] w fun e w' => e = .returned (.int .u8 (ch d)) ∧ w = w' := by
  rw [ch_val d h]
  by_cases h1 : d < 26
  · rw [if_pos h1]
    go_enter Tryd.func24, Tryd.ntmps24
    go_wp2
    go_ret
    exact ⟨rfl, rfl⟩
  rw [if_neg h1]
  by_cases h2 : d < 52
  · rw [if_pos h2]
    go_enter Tryd.func24, Tryd.ntmps24
    go_wp2
    go_ret
    exact ⟨ret_int (by omega), rfl⟩
  rw [if_neg h2]
  by_cases h3 : d < 62
  · rw [if_pos h3]
    go_enter Tryd.func24, Tryd.ntmps24
    go_wp2
    go_ret
    exact ⟨ret_int (by omega), rfl⟩
  rw [if_neg h3]
  by_cases h4 : d = 62
  · subst h4
    go_enter Tryd.func24, Tryd.ntmps24
    go_wp2
    go_ret
    exact ⟨rfl, rfl⟩
  · rw [if_neg h4]
    have t : ((d : Int) == 62) = false := by simp; omega
    go_enter Tryd.func24, Tryd.ntmps24
    go_wp2
    go_ret
    exact ⟨rfl, rfl⟩
/-- What an encoder leaves. -/
def Enc (B : Nat) (w : World) (zs : List Int) (value : Int) (e : Ending) (w' : World) : Prop := ∃ v', e = .returned v' ∧ Own w' B 5 .u8 v' (zs ++ code (vlqOf value)) ∧ Below B w w'
set_option maxHeartbeats 4000000 in
set_option maxRecDepth 100000 in
theorem enc13 (B : Nat) (v : Value) (zs : List Int) (value : Int) (w : World) (hB : B ≤ w.heap.size) (hown : Own w B 5 .u8 v zs) (hz : zs.length ≤ 100000000) (h0 : -1073741823 ≤ value) (h1 : value ≤ 1073741823) :
    Calls Tryd.prog 13 #[v, .int .i64 value] w (Enc B w zs value) := by
  have HO := Lib.hid hown
  clear hown
  obtain ⟨N, hN⟩ : ∃ N, N = vlqOf value := ⟨_, rfl⟩
  have hNl : N < 2147483648 := by rw [hN]; exact vlqOf_lt h0 h1
  go_enter Tryd.func13, Tryd.ntmps13
  go_upto_if 10 with fail
  go_cut [5] (fun x5 wx => x5 = .int .i64 (N : Int) ∧ w = wx)
  case first =>
    by_cases hneg : value < 0
    · have e1 := Lib.hid (show -value * 2 + 1 = (N : Int) by rw [hN]; unfold vlqOf; rw [if_pos hneg]; omega)
      have HN := Lib.hid hN
      clear hN
      go_wp2_with fail
      go_meet
      case rel => exact ⟨congrArg (Value.int .i64) (by have := e1.out; omega), rfl⟩
    · have e1 := Lib.hid (show value * 2 = (N : Int) by rw [hN]; unfold vlqOf; rw [if_neg hneg]; omega)
      have HN := Lib.hid hN
      clear hN
      go_wp2_with fail
      go_meet
      case rel => exact ⟨congrArg (Value.int .i64) e1.out, rfl⟩
  case rest =>
  obtain ⟨rfl, rfl⟩ := hcut
  have HN := Lib.hid hN
  clear hN
  go_wp2_with fail
  go_loopw [0, 5] (fun u i wr => ∃ (u' : Value) (n : Nat) (done : List Int), u' = u ∧ i = .int .i64 n ∧ n < 2147483648 ∧ Own wr B 5 .u8 u' (zs ++ done) ∧ Below B w wr ∧ done ++ code n = code N) (fun _ i _ => (intOf i).toNat)
  case atStart => exact ⟨_, N, [], rfl, rfl, hNl, by rw [List.append_nil]; exact HO.out, Below.refl _ _, rfl⟩
  case round =>
    obtain ⟨u, n, done, rfl, rfl, hn, hown, hbel, hcode⟩ := hrel
    have hdl : done.length ≤ 7 := by
      have := code_len_le N hNl
      rw [← hcode, List.length_append] at this
      omega
    have HOr := Lib.hid hown
    have HBr := Lib.hid hbel
    have HCo := Lib.hid hcode
    have hzl : (zs ++ done).length ≤ 1000000000 := by rw [List.length_append]; omega
    have HZL := Lib.hid hzl
    have hBr : B ≤ wr.heap.size := Nat.le_trans hB hbel.size
    clear hown hbel hcode hzl
    by_cases hs' : n < 32
    · have em : (n : Int) % 32 = (n : Int) := by omega
      have t0 : ((n : Int) / 32 == 0) = true := by simp; omega
      have H24 := Lib.hid (dig24 n wr (by omega))
      have HCs := Lib.hid (code_small n hs')
      go_wp2_with (first | (go_at_call 24; (with_reducible refine H24.out.mono ?_); rintro e w1 ⟨rfl, rfl⟩) | (refine wpList_push _ rfl _ _ 23 rfl B 5 .u8 1 Tryd.underlying23 info5 (by decide) u (zs ++ done) rfl (HOr.out.alloc _) wr.heap.size (ch n) rfl ((Row.newArr _ 5 _).at_ (i := 0) rfl) (by exact HZL.out) (by simp; omega) ?_; intro v' w1 hown1 hbel1; have HO1 := Lib.hid hown1; have HBL1 := Lib.hid hbel1; clear hown1 hbel1))
      go_ret
      refine ⟨_, rfl, ?_, HBr.out.trans (((Below.refl B wr).alloc hBr _).trans HBL1.out)⟩
      rw [← HN.out, ← HCo.out, HCs.out, ← List.append_assoc]
      exact HO1.out
    · obtain ⟨q, hq⟩ : ∃ q, q = n / 32 := ⟨_, rfl⟩
      obtain ⟨d, hd⟩ : ∃ d, d = n % 32 := ⟨_, rfl⟩
      have e1 : (n : Int) % 32 = (d : Int) := by omega
      have e2 : (n : Int) / 32 = (q : Int) := by omega
      have hm : d < 32 := by omega
      have t1 : ((q : Int) == 0) = false := by simp; omega
      have H24 := Lib.hid (show Calls Tryd.prog 24 #[.int .i64 ((d : Int) + 32)] wr fun e w' => e = .returned (.int .u8 (ch (d + 32))) ∧ wr = w' from dig24 (d + 32) wr (by omega))
      have HCs := Lib.hid (code_big n (by omega))
      have hqn : q < n := by omega
      have HQ := Lib.hid hq
      have HD := Lib.hid hd
      clear hq hd
      go_wp2_with (first | (go_at_call 24; (with_reducible refine H24.out.mono ?_); rintro e w1 ⟨rfl, rfl⟩) | (refine wpList_push _ rfl _ _ 23 rfl B 5 .u8 1 Tryd.underlying23 info5 (by decide) u (zs ++ done) rfl (HOr.out.alloc _) wr.heap.size (ch (d + 32)) rfl ((Row.newArr _ 5 _).at_ (i := 0) rfl) (by exact HZL.out) (by simp; omega) ?_; intro v' w1 hown1 hbel1; have HO1 := Lib.hid hown1; have HBL1 := Lib.hid hbel1; clear hown1 hbel1))
      go_roundw
      case rel =>
        refine ⟨_, q, done ++ [ch (d + 32)], rfl, rfl, by omega, by rw [← List.append_assoc]; exact HO1.out, HBr.out.trans (((Below.refl B wr).alloc hBr _).trans HBL1.out), ?_⟩
        rw [List.append_assoc, ← HCo.out, HCs.out, ← HQ.out, ← HD.out]
        rfl
      case measure => simp [intOf]; omega
end Go.Proofs.YtmgkjkfhhdkkmabDoor.ApA
