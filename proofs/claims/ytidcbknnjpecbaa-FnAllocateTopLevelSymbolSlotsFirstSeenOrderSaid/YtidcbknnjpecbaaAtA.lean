/- FnAllocateTopLevelSymbolSlotsFirstSeenOrder: helpers. -/
import Derived.Test.YtidcbknnjpecbaaRows
import Derived.Test.YtidcbknnjpecbaaMem
import Derived.Test.YtidcbknnjpecbaaSl
import Derived.Test.YtidcbknnjpecbaaArgs
import Derived.Deep.RegionHeld3
import Derived.Laws.BitsLemmas
import Derived.WalkKit
import Derived.ProofKit
import Derived.OpenShut
import Derived.Below
import Derived.WalkLawsBesides
import Derived.Lib.Hide
import Derived.Outline
import Derived.RegionTactic
import Derived.Deep.QuietTactic
import Derived.BigQuiet
import Derived.WalkSpells
import Derived.Deep.OwnRows
import Derived.IntWalk
import Derived.Deep.DeepMust
namespace Go.Proofs.Ytidcbknnjpecbaa.AtA
open Go.RowKit Mem Sl
set_option linter.unusedVariables false
open Args

set_option maxHeartbeats 1000000 in
theorem bytes4 (A0 : Option Addr) (n0 c0 : Nat) (A1 : Option Addr) (n1 c1 : Nat) (y2 : Int) (y3 : Int) (A4 : Option Addr) (n4 c4 : Nat) (A5 : Option Addr) (n5 c5 : Nat) (w : World) (m0 : n0 ≤ maxLen) (m1 : n1 ≤ maxLen) (m4 : n4 ≤ maxLen) (m5 : n5 ≤ maxLen) : Calls Try.prog 4 #[.slice A0 n0 c0, .slice A1 n1 c1, .int .u32 y2, .int .u32 y3, .slice A4 n4 c4, .slice A5 n5 c5] w fun e w' => e = .returned (.bool (decide (n0 + n1 + n4 + n5 ≤ 1048576))) ∧ w = w' := by
  unfold maxLen at *
  by_cases h0 : n0 ≤ 1048576
  case neg =>
    go_enter Try.func4, Try.ntmps4
    go_wp2_with fail
    go_ret
    exact ⟨congrArg (fun b => Ending.returned (Value.bool b)) (show false = decide (n0 + n1 + n4 + n5 ≤ 1048576) by symm; simp; omega), rfl⟩
  by_cases h1 : n1 ≤ 1048576
  case neg =>
    go_enter Try.func4, Try.ntmps4
    go_wp2_with fail
    go_ret
    exact ⟨congrArg (fun b => Ending.returned (Value.bool b)) (show false = decide (n0 + n1 + n4 + n5 ≤ 1048576) by symm; simp; omega), rfl⟩
  by_cases g1 : n0 + n1 ≤ 1048576
  case neg =>
    go_enter Try.func4, Try.ntmps4
    go_wp2_with fail
    go_ret
    exact ⟨congrArg (fun b => Ending.returned (Value.bool b)) (show false = decide (n0 + n1 + n4 + n5 ≤ 1048576) by symm; simp; omega), rfl⟩
  by_cases h2 : n4 ≤ 1048576
  case neg =>
    go_enter Try.func4, Try.ntmps4
    go_wp2_with fail
    go_ret
    exact ⟨congrArg (fun b => Ending.returned (Value.bool b)) (show false = decide (n0 + n1 + n4 + n5 ≤ 1048576) by symm; simp; omega), rfl⟩
  by_cases g2 : n0 + n1 + n4 ≤ 1048576
  case neg =>
    go_enter Try.func4, Try.ntmps4
    go_wp2_with fail
    go_ret
    exact ⟨congrArg (fun b => Ending.returned (Value.bool b)) (show false = decide (n0 + n1 + n4 + n5 ≤ 1048576) by symm; simp; omega), rfl⟩
  by_cases h3 : n5 ≤ 1048576
  case neg =>
    go_enter Try.func4, Try.ntmps4
    go_wp2_with fail
    go_ret
    exact ⟨congrArg (fun b => Ending.returned (Value.bool b)) (show false = decide (n0 + n1 + n4 + n5 ≤ 1048576) by symm; simp; omega), rfl⟩
  by_cases g3 : n0 + n1 + n4 + n5 ≤ 1048576
  case neg =>
    go_enter Try.func4, Try.ntmps4
    go_wp2_with fail
    go_ret
    exact ⟨congrArg (fun b => Ending.returned (Value.bool b)) (show false = decide (n0 + n1 + n4 + n5 ≤ 1048576) by symm; simp; omega), rfl⟩
  go_enter Try.func4, Try.ntmps4
  go_wp2_with fail
  go_ret
  exact ⟨congrArg (fun b => Ending.returned (Value.bool b)) (show true = decide (n0 + n1 + n4 + n5 ≤ 1048576) by symm; simp; omega), rfl⟩

/-- zs[i], or 0 past the end. -/
def at0 (zs : List Int) (i : Nat) : Int := zs.getD i 0
theorem at0_wf {k : IntKind} {zs : List Int} (h : ∀ z ∈ zs, (Lit.int k z).wf = true) (h0 : (Lit.int k 0).wf = true) (i : Nat) : (Lit.int k (at0 zs i)).wf = true := by
  unfold at0
  by_cases hi : i < zs.length
  · rw [getD_at zs i hi]; exact h _ (List.getElem_mem hi)
  · simp [List.getD, List.getElem?_eq_none (by omega : zs.length ≤ i), h0]
theorem at0_u8 {zs : List Int} (h : ∀ z ∈ zs, (Lit.int .u8 z).wf = true) (i : Nat) : 0 ≤ at0 zs i ∧ at0 zs i ≤ 255 := by
  have := at0_wf h (by decide) i
  simp [Lit.wf] at this
  simp [IntKind.min, IntKind.max, IntKind.bits, IntKind.signed] at this
  omega
theorem at0_u32 {zs : List Int} (h : ∀ z ∈ zs, (Lit.int .u32 z).wf = true) (i : Nat) : 0 ≤ at0 zs i ∧ at0 zs i < 4294967296 := by
  have := at0_wf h (by decide) i
  simp [Lit.wf] at this
  simp [IntKind.min, IntKind.max, IntKind.bits, IntKind.signed] at this
  omega

theorem byte20 (A : Option Addr) (n c : Nat) (zs : List Int) (i : Nat) (w : World) (h : IsInts .u8 w A n c zs) (hi : i ≤ 1048576) :
    Calls Try.prog 20 #[.slice A n c, .int .i64 (i : Int)] w fun e w' => e = .returned (.int .u8 (at0 zs i)) ∧ w = w' := by
  have hl := h.2.2.1
  have R := Lib.hid (fun j => h.read j)
  by_cases hlt : i < n
  · obtain ⟨b, o, ha, hb, hc⟩ := R.out i hlt
    subst ha
    have t : decide ((i : Int) < (n : Int)) = true := by simp; omega
    have he : zs.getD i 0 = at0 zs i := rfl
    rw [he] at hc
    clear h
    go_enter Try.func20, Try.ntmps20
    go_wp2
    go_ret
    exact ⟨rfl, rfl⟩
  · have t : decide ((i : Int) < (n : Int)) = false := by simp; omega
    have he : at0 zs i = 0 := by unfold at0; simp [List.getD, List.getElem?_eq_none (by omega : zs.length ≤ i)]
    rw [he]
    clear h
    go_enter Try.func20, Try.ntmps20
    go_wp2
    go_ret
    exact ⟨rfl, rfl⟩

theorem word10 (A : Option Addr) (n c : Nat) (zs : List Int) (i : Nat) (w : World) (h : IsInts .u32 w A n c zs) (hi : i ≤ 1048576) :
    Calls Try.prog 10 #[.slice A n c, .int .i64 (i : Int)] w fun e w' => e = .returned (.int .u32 (at0 zs i)) ∧ w = w' := by
  have hl := h.2.2.1
  have R := Lib.hid (fun j => h.read j)
  by_cases hlt : i < n
  · obtain ⟨b, o, ha, hb, hc⟩ := R.out i hlt
    subst ha
    have t : decide ((i : Int) < (n : Int)) = true := by simp; omega
    have he : zs.getD i 0 = at0 zs i := rfl
    rw [he] at hc
    clear h
    go_enter Try.func10, Try.ntmps10
    go_wp2
    go_ret
    exact ⟨rfl, rfl⟩
  · have t : decide ((i : Int) < (n : Int)) = false := by simp; omega
    have he : at0 zs i = 0 := by unfold at0; simp [List.getD, List.getElem?_eq_none (by omega : zs.length ≤ i)]
    rw [he]
    clear h
    go_enter Try.func10, Try.ntmps10
    go_wp2
    go_ret
    exact ⟨rfl, rfl⟩

/-- The namespace of a symbol, its kind, its flag. -/
def nsv (K : List Int) (i : Nat) : Nat := if at0 K i % 2 = 1 then 1 else 0
def kdv (K : List Int) (i : Nat) : Int := if at0 K i % 2 = 1 then 18 else 27
def jsx (F : List Int) (i : Nat) : Bool := bits .and .u8 (at0 F i) 2 != 0
def flv (F : List Int) (i : Nat) : Int := if jsx F i then 2 else 0
theorem nsv_lt (K : List Int) (i : Nat) : nsv K i < 2 := by unfold nsv; split <;> omega
set_option maxHeartbeats 1000000 in
theorem ns11 (A0 : Option Addr) (n0 c0 : Nat) (z0 : List Int) (A1 : Option Addr) (n1 c1 : Nat) (z1 : List Int) (i : Nat) (w : World) (h0 : IsInts .u8 w A0 n0 c0 z0) (h1 : IsInts .u8 w A1 n1 c1 z1) (hi : i ≤ 1048576) :
    Calls Try.prog 11 #[.slice A0 n0 c0, .slice A1 n1 c1, .int .i64 (i : Int), .bool false] w fun e w' => e = .returned (.int .i64 (nsv z0 i : Nat)) ∧ w = w' := by
  have H0 := Lib.hid (byte20 A0 n0 c0 z0 i w h0 hi)
  have H1 := Lib.hid (byte20 A1 n1 c1 z1 i w h1 hi)
  obtain ⟨b0, b1⟩ := at0_u8 h0.2.2.2.1 i
  clear h0 h1
  by_cases hx : at0 z0 i % 2 = 1
  · have t : (at0 z0 i % 2 == 1) = true := by simp; omega
    have e : nsv z0 i = 1 := by unfold nsv; rw [if_pos hx]
    rw [e]
    clear e
    go_enter Try.func11, Try.ntmps11
    go_wp2_with fail
    refine H0.out.mono ?_
    rintro e wx ⟨rfl, rfl⟩
    generalize at0 z0 i = x at *
    go_wp2_with fail
    refine H1.out.mono ?_
    rintro e wx ⟨rfl, rfl⟩
    go_wp2_with fail
    go_ret
    exact ⟨rfl, rfl⟩
  · have t : (at0 z0 i % 2 == 1) = false := by simp; omega
    have e : nsv z0 i = 0 := by unfold nsv; rw [if_neg hx]
    rw [e]
    clear e
    go_enter Try.func11, Try.ntmps11
    go_wp2_with fail
    refine H0.out.mono ?_
    rintro e wx ⟨rfl, rfl⟩
    generalize at0 z0 i = x at *
    go_wp2_with fail
    refine H1.out.mono ?_
    rintro e wx ⟨rfl, rfl⟩
    go_wp2_with fail
    go_ret
    exact ⟨rfl, rfl⟩
theorem jsx17 (A : Option Addr) (n c : Nat) (zs : List Int) (i : Nat) (w : World) (h : IsInts .u8 w A n c zs) (hi : i ≤ 1048576) :
    Calls Try.prog 17 #[.slice A n c, .int .i64 (i : Int)] w fun e w' => e = .returned (.bool (jsx zs i)) ∧ w = w' := by
  have H0 := Lib.hid (byte20 A n c zs i w h hi)
  have HE := Lib.hid (show jsx zs i = (bits .and .u8 (at0 zs i) 2 != 0) from rfl)
  rw [HE.out]
  clear h
  go_enter Try.func17, Try.ntmps17
  go_wp2_with fail
  refine H0.out.mono ?_
  rintro e wx ⟨rfl, rfl⟩
  go_wp2_with fail
  go_ret
  exact ⟨rfl, rfl⟩
theorem has25 (a : Int) (m : Int) (b : Bool) (w : World) (hb : (bits .and .u16 a m != 0) = b) : Calls Try.prog 25 #[.int .u16 a, .int .u16 m] w fun e w' => e = .returned (.bool b) ∧ w = w' := by
  subst hb
  go_enter Try.func25, Try.ntmps25
  go_wp2
  go_ret
  exact ⟨rfl, rfl⟩
theorem priv26 (k : Int) (w : World) (hk : k = 18 ∨ k = 27) : Calls Try.prog 26 #[.int .u8 k] w fun e w' => e = .returned (.bool false) ∧ w = w' := by
  rcases hk with rfl | rfl
  all_goals
    go_enter Try.func26, Try.ntmps26
    go_wp2
    go_ret
    exact ⟨rfl, rfl⟩
theorem link19 (i : Nat) (w : World) : Calls Try.prog 19 #[.slice none 0 0, .int .i64 (i : Int)] w fun e w' => e = .returned (.tuple #[.int .i64 0, .bool false]) ∧ w = w' := by
  have t : decide ((i : Int) < 0) = false := by simp
  go_enter Try.func19, Try.ntmps19
  go_wp2
  go_ret2
  exact ⟨rfl, rfl⟩
theorem word10n (i : Nat) (w : World) : Calls Try.prog 10 #[.slice none 0 0, .int .i64 (i : Int)] w fun e w' => e = .returned (.int .u32 0) ∧ w = w' := by
  have t : decide ((i : Int) < 0) = false := by simp
  go_enter Try.func10, Try.ntmps10
  go_wp2
  go_ret
  exact ⟨rfl, rfl⟩
theorem nest21 (i : Nat) (w : World) : Calls Try.prog 21 #[.slice none 0 0, .int .u32 0, .int .i64 (i : Int)] w fun e w' => e = .returned (.tuple #[.int .u32 0, .bool false]) ∧ w = w' := by
  have H := Lib.hid (word10n i w)
  go_enter Try.func21, Try.ntmps21
  go_wp2_with fail
  refine H.out.mono ?_
  rintro e wx ⟨rfl, rfl⟩
  go_wp2_with fail
  go_ret2
  exact ⟨rfl, rfl⟩
theorem ref14 (i : Nat) (w : World) (hi : i ≤ 1048576) : Calls Try.prog 14 #[.int .i64 (i : Int)] w fun e w' => e = .returned (.agg #[.int .u32 0, .int .u32 (i : Int)]) ∧ Below w.heap.size w w' := by
  have t : IntKind.u32.wrap (i : Int) = (i : Int) := IntWalk.u32_in _ (by omega)
  have HB := Lib.hid (Below.refl w.heap.size w)
  go_enter Try.func14, Try.ntmps14
  go_wp2
  exact bodyPost_ret (v := .agg #[.int .u32 0, .int .u32 (i : Int)]) (by simp [results, Try.results14, go_sem]) rfl ⟨rfl, by repeat (first | exact HB.out | (refine Below.alloc ?_ (by simp <;> omega) _) | (refine Below.setCell ?_ (by simp <;> omega) _))⟩
theorem inv18 (w : World) : Calls Try.prog 18 #[] w fun e w' => e = .returned (.agg #[.int .u32 4294967295, .int .u32 4294967295]) ∧ Below w.heap.size w w' := by
  have HB := Lib.hid (Below.refl w.heap.size w)
  go_enter Try.func18, Try.ntmps18
  go_wp2
  exact bodyPost_ret (v := .agg #[.int .u32 4294967295, .int .u32 4294967295]) (by simp [results, Try.results18, go_sem]) rfl ⟨rfl, by repeat (first | exact HB.out | (refine Below.alloc ?_ (by simp <;> omega) _) | (refine Below.setCell ?_ (by simp <;> omega) _))⟩
theorem cnt7 (a b : Int) (w : World) : Calls Try.prog 7 #[.int .u32 a, .int .u32 b] w fun e w' => e = .returned (.agg #[.int .u32 a, .int .u32 b, .int .u32 0, .int .u32 0]) ∧ Below w.heap.size w w' := by
  have HB := Lib.hid (Below.refl w.heap.size w)
  go_enter Try.func7, Try.ntmps7
  go_wp2
  exact bodyPost_ret (v := .agg #[.int .u32 a, .int .u32 b, .int .u32 0, .int .u32 0]) (by simp [results, Try.results7, go_sem]) rfl ⟨rfl, by repeat (first | exact HB.out | (refine Below.alloc ?_ (by simp <;> omega) _) | (refine Below.setCell ?_ (by simp <;> omega) _))⟩
/-- The symbol at k of block g is of kind and flags as given. -/
theorem slot24 (g o : Nat) (kd fl : Int) (w : World) (h7 : w.cell? ⟨g, o + 7, none⟩ = some (.int .u16 fl)) (h8 : w.cell? ⟨g, o + 8, none⟩ = some (.int .u8 kd)) (hk : kd = 18 ∨ kd = 27) (hf : fl = 0 ∨ fl = 2) :
    Calls Try.prog 24 #[.pointer (some ⟨g, o, none⟩)] w fun e w' => e = .returned (.int .u8 (if kd = 18 then 1 else 0)) ∧ w = w' := by
  have HS := Lib.hid (has25 fl 1 false w (by rcases hf with rfl | rfl <;> decide))
  have HP := Lib.hid (priv26 kd w hk)
  go_enter Try.func24, Try.ntmps24
  rcases hk with rfl | rfl
  all_goals
    go_wp2_with (first | (go_at_call 25; (with_reducible refine HS.out.mono ?_); rintro e w9 ⟨rfl, rfl⟩) | (go_at_call 26; (with_reducible refine HP.out.mono ?_); rintro e w9 ⟨rfl, rfl⟩))
    go_ret
    exact ⟨by simp, rfl⟩
end Go.Proofs.Ytidcbknnjpecbaa.AtA
