/- FnSpaceBeforeOperatorAtMostOnce: the law. -/
import Derived.Test.YtjgomgagaolhgaaRows
import Derived.Test.YtjgomgagaolhgaaMem
import Derived.Test.YtjgomgagaolhgaaSl
import Derived.Test.YtjgomgagaolhgaaSpaceF
import Derived.Test.YtjgomgagaolhgaaFresh
import Derived.Test.YtjgomgagaolhgaaIndentL
import Derived.Great.BuildSlice
import Derived.WalkKit
import Derived.ProofKit
import Derived.OpenShut
import Derived.Below
import Derived.WalkLawsBesides
import Derived.Lib.Hide
import Derived.Outline
import Derived.RegionTactic
import Derived.Deep.QuietTactic
import Derived.BigQuiet
import Derived.WalkSpells
import Derived.Deep.OwnRows
import Derived.IntWalk
import Derived.Deep.DeepMust
namespace Go.Proofs.Ytjgomgagaolhgaa.SpaceL
open Go.RowKit Mem Sl
set_option linter.unusedVariables false
open Prn Space
def opv (i : Int) : Int := if i = 0 then 11 else if i = 1 then 0 else if i = 2 then 8 else if i = 3 then 10 else if i = 4 then 12 else if i = 5 then 1 else if i = 6 then 7 else if i = 7 then 9 else if i = 8 then 19 else if i = 9 then 17 else if i = 10 then 3 else if i = 11 then 2 else if i = 12 then 13 else if i = 13 then 16 else if i = 14 then 31 else 36
theorem opOf (i : Int) (w : World) : Calls Try.prog 18 #[.int .i64 i] w fun e w' => e = .returned (.int .u8 (opv i)) ∧ w = w' := by
  by_cases h0 : i = 0
  · subst h0
    go_enter Try.func18, Try.ntmps18
    go_wp2
    go_ret
    exact ⟨rfl, rfl⟩
  by_cases h1 : i = 1
  · subst h1
    go_enter Try.func18, Try.ntmps18
    go_wp2
    go_ret
    exact ⟨rfl, rfl⟩
  by_cases h2 : i = 2
  · subst h2
    go_enter Try.func18, Try.ntmps18
    go_wp2
    go_ret
    exact ⟨rfl, rfl⟩
  by_cases h3 : i = 3
  · subst h3
    go_enter Try.func18, Try.ntmps18
    go_wp2
    go_ret
    exact ⟨rfl, rfl⟩
  by_cases h4 : i = 4
  · subst h4
    go_enter Try.func18, Try.ntmps18
    go_wp2
    go_ret
    exact ⟨rfl, rfl⟩
  by_cases h5 : i = 5
  · subst h5
    go_enter Try.func18, Try.ntmps18
    go_wp2
    go_ret
    exact ⟨rfl, rfl⟩
  by_cases h6 : i = 6
  · subst h6
    go_enter Try.func18, Try.ntmps18
    go_wp2
    go_ret
    exact ⟨rfl, rfl⟩
  by_cases h7 : i = 7
  · subst h7
    go_enter Try.func18, Try.ntmps18
    go_wp2
    go_ret
    exact ⟨rfl, rfl⟩
  by_cases h8 : i = 8
  · subst h8
    go_enter Try.func18, Try.ntmps18
    go_wp2
    go_ret
    exact ⟨rfl, rfl⟩
  by_cases h9 : i = 9
  · subst h9
    go_enter Try.func18, Try.ntmps18
    go_wp2
    go_ret
    exact ⟨rfl, rfl⟩
  by_cases h10 : i = 10
  · subst h10
    go_enter Try.func18, Try.ntmps18
    go_wp2
    go_ret
    exact ⟨rfl, rfl⟩
  by_cases h11 : i = 11
  · subst h11
    go_enter Try.func18, Try.ntmps18
    go_wp2
    go_ret
    exact ⟨rfl, rfl⟩
  by_cases h12 : i = 12
  · subst h12
    go_enter Try.func18, Try.ntmps18
    go_wp2
    go_ret
    exact ⟨rfl, rfl⟩
  by_cases h13 : i = 13
  · subst h13
    go_enter Try.func18, Try.ntmps18
    go_wp2
    go_ret
    exact ⟨rfl, rfl⟩
  by_cases h14 : i = 14
  · subst h14
    go_enter Try.func18, Try.ntmps18
    go_wp2
    go_ret
    exact ⟨rfl, rfl⟩
  have q0 : (i == 0) = false := by simp [h0]
  have q1 : (i == 1) = false := by simp [h1]
  have q2 : (i == 2) = false := by simp [h2]
  have q3 : (i == 3) = false := by simp [h3]
  have q4 : (i == 4) = false := by simp [h4]
  have q5 : (i == 5) = false := by simp [h5]
  have q6 : (i == 6) = false := by simp [h6]
  have q7 : (i == 7) = false := by simp [h7]
  have q8 : (i == 8) = false := by simp [h8]
  have q9 : (i == 9) = false := by simp [h9]
  have q10 : (i == 10) = false := by simp [h10]
  have q11 : (i == 11) = false := by simp [h11]
  have q12 : (i == 12) = false := by simp [h12]
  have q13 : (i == 13) = false := by simp [h13]
  have q14 : (i == 14) = false := by simp [h14]
  have HV := Lib.hid (show opv i = 36 by simp only [opv, h0, h1, h2, h3, h4, h5, h6, h7, h8, h9, h10, h11, h12, h13, h14, if_false])
  clear h0 h1 h2 h3 h4 h5 h6 h7 h8 h9 h10 h11 h12 h13 h14
  go_enter Try.func18, Try.ntmps18
  go_wp2
  go_ret
  exact ⟨ret_int HV.out.symm, rfl⟩

theorem zz19 (p : Nat) (nx : Int) (w : World) (cs : List Value) (v : Value) (zs : List Int) (b : Bool) (h : Calls Try.prog 42 #[.pointer (some ⟨p, 0, none⟩), .int .u8 nx] w (Out w p cs v zs b)) :
    Calls Try.prog 19 #[.pointer (some ⟨p, 0, none⟩), .int .u8 nx] w (Out w p cs v zs b) := by
  have H := Lib.hid h
  clear h
  go_enter Try.func19, Try.ntmps19
  go_wp2_with fail
  refine H.out.mono ?_
  rintro e w1 ⟨rfl, ho⟩
  have HO := Lib.hid ho
  clear ho
  go_wp2_with fail
  go_end0
  exact ⟨rfl, HO.out⟩
noncomputable def zp : Array Value := match (Try.prog.info? 100).bind (fun i => i.zero) with | some (.agg cs) => cs | _ => #[]
noncomputable def prn (v : Value) (op pe : Int) : Array Value := (((((((((zp.setIfInBounds 9 v).setIfInBounds 137 (.int .u8 op)).setIfInBounds 65 (.int .i64 pe)).setIfInBounds 60 (.int .i64 (-1))).setIfInBounds 61 (.int .i64 (-1))).setIfInBounds 62 (.int .i64 (-1))).setIfInBounds 63 (.int .i64 (-1))).setIfInBounds 66 (.int .i64 (-1))).setIfInBounds 67 (.int .i64 (-1))).setIfInBounds 68 (.int .i64 (-1))
theorem prn9 (v : Value) (o e : Int) : (prn v o e)[9]? = some v := by kernel_rfl
theorem prn65 (v : Value) (o e : Int) : (prn v o e)[65]? = some (.int .i64 e) := by kernel_rfl
theorem prn137 (v : Value) (o e : Int) : (prn v o e)[137]? = some (.int .u8 o) := by kernel_rfl
set_option maxRecDepth 100000 in
theorem new (A : Option Addr) (n c : Nat) (o e : Int) (w : World) :
    Calls Try.prog 17 #[.slice A n c, .int .u8 o, .int .i64 e] w fun r w' => r = .returned (.pointer (some ⟨w.heap.size, 0, none⟩)) ∧ w.alloc (.cells (prn (.slice A n c) o e) 100) = w' := by
  go_enter Try.func17, Try.ntmps17
  go_wp2_with (refine wpList_buildTo rfl 100 _ rfl (some 10) rfl (prn (.slice A n c) o e) (by kernel_rfl) ?_)
  go_ret
  exact ⟨rfl, rfl⟩
set_option maxHeartbeats 400000 in
theorem hasPre (A B : Option Addr) (n c m d : Nat) (zs ys : List Int) (w : World) (h : Args.IsInts .u8 w A n c (zs ++ ys)) (h' : Args.IsInts .u8 w B m d zs) (hn : n ≤ 2000000) :
    Calls Try.prog 20 #[.slice A n c, .slice B m d] w fun e w' => e = .returned (.bool true) ∧ ∃ q, w' = w.drewN q := by
  have l1 := h.2.2.1
  have l2 := h'.2.2.1
  have hmn : m ≤ n := by simp at l1; omega
  have HR := Lib.hid (fun k => h.read k)
  have HR' := Lib.hid (fun k => h'.read k)
  have hd : decide (n < m) = false := by simp; omega
  have G1 := Lib.hid (fun (k : Nat) (hk : k < m) => (show (zs ++ ys).getD k 0 = zs.getD k 0 by simp [List.getD, List.getElem?_append_left (show k < zs.length by omega)]))
  clear h h' l1 l2
  go_enter Try.func20, Try.ntmps20
  go_wp2
  go_loopw [5] (fun i wr => ∃ k q : Nat, k ≤ m ∧ i = .int .i64 k ∧ wr = w.drewN q) (fun i _ => m - (intOf i).toNat)
  case atStart => exact ⟨0, 0, Nat.zero_le _, rfl, rfl⟩
  case round =>
    obtain ⟨k, q, hk, rfl, rfl⟩ := hrel
    by_cases hlt : k < m
    · obtain ⟨b, off, ha, hb, hcell⟩ := HR.out k (by omega)
      obtain ⟨b', off', ha', hb', hcell'⟩ := HR'.out k hlt
      subst ha ha'
      rw [G1.out k hlt] at hcell
      obtain ⟨x, hx⟩ : ∃ x, x = zs.getD k 0 := ⟨_, rfl⟩
      rw [← hx] at hcell hcell'
      clear hx
      have hxx : (x != x) = false := by simp
      have hk3 : k < n := by omega
      go_wp2
      go_quiet (fail)
      go_wp2
      go_roundw
      case rel => exact ⟨k + 1, q + nq, by omega, by go_num, by simp⟩
      case measure => simp [intOf]; omega
    · go_wp2
      go_ret
      exact ⟨rfl, q, rfl⟩
theorem zzBytes (A : Option Addr) (n c : Nat) (i j k : Int) (w : World) (hs : n ≤ maxLen) :
    Calls Try.prog 16 #[.slice A n c, .int .i64 i, .int .i64 j, .int .i64 k] w fun e w' => e = .returned (.bool (decide (n ≤ 1048576))) ∧ w = w' := by
  unfold maxLen at hs
  by_cases h : n ≤ 1048576
  · go_enter Try.func16, Try.ntmps16
    go_wp2
    go_ret
    exact ⟨ret_bool (by simp [h]), rfl⟩
  · go_enter Try.func16, Try.ntmps16
    go_wp2
    go_ret
    exact ⟨ret_bool (by simp [h]), rfl⟩
end Go.Proofs.Ytjgomgagaolhgaa.SpaceL
