/- FnCurrentLineLengthCacheAgrees: the law. -/
import Derived.Test.YtjgomgagaolhgaaRows
import Derived.Test.YtjgomgagaolhgaaMem
import Derived.Test.YtjgomgagaolhgaaSl
import Derived.Test.YtjgomgagaolhgaaLen
import Derived.Great.BuildSlice
import Derived.Laws.Tables
import Derived.WalkKit
import Derived.ProofKit
import Derived.OpenShut
import Derived.Below
import Derived.WalkLawsBesides
import Derived.Lib.Hide
import Derived.Outline
import Derived.RegionTactic
import Derived.Deep.QuietTactic
import Derived.BigQuiet
import Derived.WalkSpells
import Derived.Deep.OwnRows
import Derived.IntWalk
import Derived.Deep.DeepMust
namespace Go.Proofs.Ytjgomgagaolhgaa.Cache
open Go.RowKit Mem Sl
set_option linter.unusedVariables false
open Line

noncomputable def zcs : Array Value := match (Try.prog.info? 108).bind (fun i => i.zero) with | some (.agg cs) => cs | _ => #[]
theorem zero108 (w : World) : (zeroValue 108).run Try.prog w = .ok (.agg zcs) w := by kernel_rfl
noncomputable def css (v : Value) (s e : Int) : Array Value := ((zcs.setIfInBounds 15 v).setIfInBounds 41 (.int .i64 s)).setIfInBounds 42 (.int .i64 e)
theorem css15 (v : Value) (s e : Int) : (css v s e)[15]? = some v := by kernel_rfl
theorem css41 (v : Value) (s e : Int) : (css v s e)[41]? = some (.int .i64 s) := by kernel_rfl
theorem css42 (v : Value) (s e : Int) : (css v s e)[42]? = some (.int .i64 e) := by kernel_rfl
theorem cssSize (v : Value) (s e : Int) : (css v s e).size = 43 := by kernel_rfl
theorem zSize : zcs.size = 43 := by kernel_rfl
theorem css1 (A : Option Addr) (n c : Nat) (s e : Int) : (css (.slice A n c) s e).all (·.oneCell') = true := by kernel_rfl
set_option maxRecDepth 100000 in
set_option maxHeartbeats 1000000 in
theorem zz (A : Option Addr) (n c e0 : Nat) (s0 : Int) (zs : List Int) (w : World) (h : Args.IsInts .u8 w A n c zs) (hn : n ≤ 1048576) (hen : e0 ≤ n) (hs0 : 0 ≤ s0) (hsn : s0 ≤ n) :
    Calls Try.prog 23 #[.slice A n c, .int .i64 s0, .int .i64 e0] w fun e w' => e = .returned (.tuple #[.int .i64 ((n : Int) - nlFrom zs e0 s0 n), .int .i64 (nlFrom zs e0 s0 n), .int .i64 n]) ∧ Below w.heap.size w w' := by
  have hz := zero108
  go_enter Try.func23, Try.ntmps23
  go_wp2_with (first | (refine wpList_buildTo rfl 108 _ rfl (some 14) rfl (css (.slice A n c) s0 e0) (by kernel_rfl) ?_) | (refine wpList_store_row rfl 108 _ _ rfl w.heap.size (css (.slice A n c) s0 e0) rfl rfl 108 zcs (heap_alloc_new w _) (by kernel_rfl) (by rw [cssSize, zSize]) (css1 A n c s0 e0) ?_))
  obtain ⟨W, hW, hrow, hbel, hsz⟩ := made_set w 108 zcs (css (.slice A n c) s0 e0)
  rw [hW]
  have hi := h.later hbel
  clear hW
  have c15 : (css (.slice A n c) s0 e0).toList[15]? = some (.slice A n c) := by simpa using css15 (.slice A n c) s0 e0
  have c41 : (css (.slice A n c) s0 e0).toList[41]? = some (.int .i64 s0) := by simpa using css41 (.slice A n c) s0 e0
  have c42 : (css (.slice A n c) s0 e0).toList[42]? = some (.int .i64 e0) := by simpa using css42 (.slice A n c) s0 e0
  have hl : (css (.slice A n c) s0 e0).toList.length = 43 := by simpa using cssSize (.slice A n c) s0 e0
  generalize (css (.slice A n c) s0 e0) = cs at *
  refine (Len.len43 A n c w.heap.size e0 s0 zs _ W hi hn hrow c15 c41 c42 hen hs0 hsn).mono ?_
  rintro e w1 ⟨rfl, hrow1, hgr, hsz1⟩
  have d41 := hrow1.at_ (i := 41) (v := .int .i64 (nlFrom zs e0 s0 n)) (by rw [List.getElem?_set_ne (by decide), List.getElem?_set_self (by omega)])
  have d42 := hrow1.at_ (i := 42) (v := .int .i64 n) (by rw [List.getElem?_set_self (by rw [List.length_set]; omega)])
  have hb1 : Below w.heap.size w w1 := hbel.trans (grown_below hgr (Nat.le_refl _) (by omega))
  have HB := Lib.hid hb1
  clear hb1 hgr hsz1 hrow1 hrow c15 c41 c42 hi hbel hsz hl h hz
  go_wp2_with fail
  go_quiet (fail)
  go_wp2_with fail
  go_ret3
  exact ⟨rfl, below_drewN HB.out _⟩
theorem zzBytes (A : Option Addr) (n c : Nat) (i : Int) (w : World) (hs : n ≤ maxLen) :
    Calls Try.prog 21 #[.slice A n c, .int .i64 i] w fun e w' => e = .returned (.bool (decide (n ≤ 1048576))) ∧ w = w' := by
  unfold maxLen at hs
  by_cases h : n ≤ 1048576
  · go_enter Try.func21, Try.ntmps21
    go_wp2
    go_ret
    exact ⟨ret_bool (by simp [h]), rfl⟩
  · go_enter Try.func21, Try.ntmps21
    go_wp2
    go_ret
    exact ⟨ret_bool (by simp [h]), rfl⟩
/-- The first cut numbers of a slice. -/
theorem cut_ints {w : World} {A : Option Addr} {n c : Nat} {zs : List Int} (h : Args.IsInts .u8 w A n c zs) (k : Nat) (hk : k ≤ n) : Args.IsInts .u8 w A k c (zs.take k) := by
  obtain ⟨h1, h2, h3, h4, h5, h6⟩ := h
  refine ⟨by omega, h2, by simp; omega, fun z hz => h4 z (List.mem_of_mem_take hz), h5, fun hp => ?_⟩
  obtain ⟨b, off, ha, hb, hc⟩ := h6 hp
  refine ⟨b, off, ha, hb, fun i hi => ?_⟩
  rw [hc i (by omega)]
  simp [List.getD, hi]
set_option maxHeartbeats 1000000 in
theorem body (A : Option Addr) (n c cut : Nat) (zs : List Int) (w : World) (h : Args.IsInts .u8 w A n c zs) (hn : n ≤ 1048576) (hcut : cut ≤ n) :
    Calls Try.prog 5 #[.slice A n c, .int .i64 cut] w fun e w' => e = .returned (.bool true) ∧ Below w.heap.size w w' := by
  have hd : decide (n ≤ 1048576) = true := by simp [hn]
  have d1 : decide ((cut : Int) < 0) = false := by simp
  have d2 : decide (n < cut) = false := by simp; omega
  go_enter Try.func5, Try.ntmps5
  go_wp2_with (go_at_call 21; refine (zzBytes _ _ _ _ _ (by unfold maxLen; omega)).mono ?_; rintro e w' ⟨rfl, rfl⟩)
  refine (Clone.cl22 A n c zs w h hn).mono ?_
  rintro e w1 ⟨v, rfl, hv⟩
  have hclone : ∃ A', v = .slice A' n n ∧ Args.IsInts .u8 w1 A' n n zs ∧ Below w.heap.size w w1 := by
    rcases hv with ⟨rfl, rfl, rfl⟩ | ⟨_, rfl, hrow, hb, _⟩
    · have hc0 := h.2.2.2.2.1 rfl
      have hn0 : n = 0 := by have := h.1; omega
      subst hn0
      subst hc0
      exact ⟨none, rfl, h, Below.refl _ _⟩
    · have hl := h.2.2.1
      subst hl
      exact ⟨_, rfl, ints_of_row hrow (by unfold maxLen; omega) h.2.2.2.1, hb⟩
  obtain ⟨A', rfl, hi, hb⟩ := hclone
  clear hv h
  have b1 := nl_bounds zs cut
  have HT := Lib.hid (nl_take zs cut cut (Nat.le_refl _))
  have H2 := Lib.hid (nl_two zs cut n hcut)
  have HI := Lib.hid hi
  have HB := Lib.hid hb
  clear hi hb
  go_wp2_with fail
  refine (zz A' cut n 0 0 (zs.take cut) w1 (cut_ints HI.out cut hcut) (by omega) (Nat.zero_le _) (Int.le_refl _) (by omega)).mono ?_
  rw [HT.out]
  rintro e w2 ⟨rfl, hb2⟩
  have HI2 := Lib.hid (HI.out.later hb2)
  have HB2 := Lib.hid (HB.out.trans (hb2.mono HB.out.size))
  clear hb2
  go_wp2_with fail
  refine (zz A' n n cut (nlFrom zs 0 0 cut) zs w2 HI2.out hn hcut b1.1 (by omega)).mono ?_
  rw [H2.out]
  rintro e w3 ⟨rfl, hb3⟩
  have HI3 := Lib.hid (HI2.out.later hb3)
  have HB3 := Lib.hid (HB2.out.trans (hb3.mono HB2.out.size))
  clear hb3
  go_wp2_with fail
  refine (zz A' n n 0 0 zs w3 HI3.out hn (Nat.zero_le _) (Int.le_refl _) (by omega)).mono ?_
  rintro e w4 ⟨rfl, hb4⟩
  have HB4 := Lib.hid (HB3.out.trans (hb4.mono HB3.out.size))
  clear hb4
  generalize nlFrom zs 0 0 n = S at *
  have e1 : ((n : Int) - S == (n : Int) - S) = true := by simp
  have e2 : (S == S) = true := by simp
  have e3 : ((n : Int) == (n : Int)) = true := by simp
  go_wp2_with fail
  go_ret
  exact ⟨rfl, HB4.out⟩
theorem law (A0 : Option Addr) (n0 c0 : Nat) (z0 : List Int) (a1 : Int) (w : World) (w0 : Args.IsInts .u8 w A0 n0 c0 z0) (w1 : (Lit.int .i64 a1).wf = true) :
    Calls Try.prog 5 #[.slice A0 n0 c0, .int .i64 a1] w fun e w' => e = .returned (.bool true) ∧ Below w.heap.size w w' := by
  have hm : n0 ≤ maxLen := Nat.le_trans w0.1 w0.2.1
  by_cases hn : n0 ≤ 1048576
  · by_cases h1 : 0 ≤ a1
    · obtain ⟨cut, rfl⟩ := Int.eq_ofNat_of_zero_le h1
      by_cases h2 : cut ≤ n0
      · exact body A0 n0 c0 cut z0 w w0 hn h2
      · have hd : decide (n0 ≤ 1048576) = true := by simp [hn]
        have d1 : decide ((cut : Int) < 0) = false := by simp
        have d2 : decide (n0 < cut) = true := by simp; omega
        go_enter Try.func5, Try.ntmps5
        go_wp2_with (go_at_call 21; refine (zzBytes _ _ _ _ _ hm).mono ?_; rintro e w' ⟨rfl, rfl⟩)
        go_ret
        exact ⟨rfl, Below.refl _ _⟩
    · have hd : decide (n0 ≤ 1048576) = true := by simp [hn]
      have d1 : decide (a1 < 0) = true := by simp; omega
      go_enter Try.func5, Try.ntmps5
      go_wp2_with (go_at_call 21; refine (zzBytes _ _ _ _ _ hm).mono ?_; rintro e w' ⟨rfl, rfl⟩)
      go_ret
      exact ⟨rfl, Below.refl _ _⟩
  · have hd : decide (n0 ≤ 1048576) = false := by simp [hn]
    go_enter Try.func5, Try.ntmps5
    go_wp2_with (go_at_call 21; refine (zzBytes _ _ _ _ _ hm).mono ?_; rintro e w' ⟨rfl, rfl⟩)
    go_ret
    exact ⟨rfl, Below.refl _ _⟩
end Go.Proofs.Ytjgomgagaolhgaa.Cache
