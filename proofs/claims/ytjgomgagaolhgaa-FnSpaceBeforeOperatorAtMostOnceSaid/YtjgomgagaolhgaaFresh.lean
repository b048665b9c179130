/- FnCurrentLineLengthFreshPrinter: the law. -/
import Derived.Test.YtjgomgagaolhgaaRows
import Derived.Test.YtjgomgagaolhgaaMem
import Derived.Test.YtjgomgagaolhgaaSl
import Derived.Test.YtjgomgagaolhgaaLen
import Derived.Great.BuildSlice
import Derived.Laws.Tables
import Derived.WalkKit
import Derived.ProofKit
import Derived.OpenShut
import Derived.Below
import Derived.WalkLawsBesides
import Derived.Lib.Hide
import Derived.Outline
import Derived.RegionTactic
import Derived.Deep.QuietTactic
import Derived.BigQuiet
import Derived.WalkSpells
import Derived.Deep.OwnRows
import Derived.IntWalk
import Derived.Deep.DeepMust
namespace Go.Proofs.Ytjgomgagaolhgaa.Fresh
open Go.RowKit Mem Sl
set_option linter.unusedVariables false
open Line

noncomputable def zo : Array Value := match (Try.prog.info? 70).bind (fun i => i.zero) with | some (.agg cs) => cs | _ => #[]
noncomputable def zp : Array Value := match (Try.prog.info? 100).bind (fun i => i.zero) with | some (.agg cs) => cs | _ => #[]
/-- The cells of a fresh printer that holds v as its output. -/
noncomputable def prn (v : Value) : Array Value := ((((((((zp.setIfInBounds 9 v).setIfInBounds 60 (.int .i64 (-1))).setIfInBounds 61 (.int .i64 (-1))).setIfInBounds 62 (.int .i64 (-1))).setIfInBounds 63 (.int .i64 (-1))).setIfInBounds 65 (.int .i64 (-1))).setIfInBounds 66 (.int .i64 (-1))).setIfInBounds 67 (.int .i64 (-1))).setIfInBounds 68 (.int .i64 (-1))
theorem prn9 (v : Value) : (prn v)[9]? = some v := by kernel_rfl
theorem prn69 (v : Value) : (prn v)[69]? = some (.int .i64 0) := by kernel_rfl
theorem prn70 (v : Value) : (prn v)[70]? = some (.int .i64 0) := by kernel_rfl
theorem prnSize (v : Value) : (prn v).size = 139 := by kernel_rfl
set_option maxRecDepth 100000 in
theorem new (A : Option Addr) (n c : Nat) (w : World) :
    Calls Try.prog 11 #[.slice A n c, .bool false, .int .i64 0, .int .i64 0, .bool false] w fun e w' => e = .returned (.pointer (some ⟨w.heap.size, 0, none⟩)) ∧ w.alloc (.cells (prn (.slice A n c)) 100) = w' := by
  go_enter Try.func11, Try.ntmps11
  go_wp2_with (first | (refine wpList_buildTo rfl 70 _ rfl (some 15) rfl zo (by kernel_rfl) ?_) | (refine wpList_buildTo rfl 100 _ rfl (some 17) rfl (prn (.slice A n c)) (by kernel_rfl) ?_))
  go_ret
  exact ⟨rfl, rfl⟩
theorem js15 (p : Nat) (v : Value) (w : World) (h : w.cell? ⟨p, 9, none⟩ = some v) :
    Calls Try.prog 15 #[.pointer (some ⟨p, 0, none⟩)] w fun e w' => e = .returned v ∧ w = w' := by
  go_enter Try.func15, Try.ntmps15
  go_wp2
  go_ret
  exact ⟨rfl, rfl⟩
set_option maxHeartbeats 400000 in
theorem model (A : Option Addr) (n c : Nat) (zs : List Int) (w : World) (h : Args.IsInts .u8 w A n c zs) (hn : n ≤ 1048576) :
    Calls Try.prog 13 #[.slice A n c] w fun e w' => e = .returned (.int .i64 ((n : Int) - nlFrom zs 0 0 n)) ∧ w = w' := by
  have HR := Lib.hid (fun k => h.read k)
  clear h
  go_enter Try.func13, Try.ntmps13
  go_wp2
  go_loop [3, 4] (fun s i => ∃ k : Nat, k ≤ n ∧ i = .int .i64 k ∧ s = .int .i64 (nlFrom zs 0 0 k)) (fun _ i => n - (intOf i).toNat)
  case atStart => exact ⟨0, Nat.zero_le _, rfl, rfl⟩
  case round =>
    obtain ⟨k, hk, rfl, rfl⟩ := hrel
    have hbd := nl_bounds zs k
    by_cases hlt : k < n
    · obtain ⟨b, off, ha, hb, hcell⟩ := HR.out k hlt
      subst ha
      have HST := Lib.hid (nl_step zs 0 0 k (by omega))
      obtain ⟨x, hx⟩ : ∃ x, x = zs.getD k 0 := ⟨_, rfl⟩
      rw [← hx] at hcell HST
      clear hx
      by_cases h13 : (x == 10) = true
      · have HF := Lib.hid (show nlFrom zs 0 0 (k + 1) = (k : Int) + 1 by rw [HST.out]; simp [isNl]; simp at h13; omega)
        go_wp2
        go_round
        case rel => exact ⟨k + 1, by omega, by go_num, by rw [HF.out]⟩
        case measure => simp [intOf]; omega
      · have h13' : (x == 10) = false := by simpa using h13
        by_cases h10 : (x == 13) = true
        · have HF := Lib.hid (show nlFrom zs 0 0 (k + 1) = (k : Int) + 1 by rw [HST.out]; simp [isNl]; simp at h10; omega)
          go_wp2
          go_round
          case rel => exact ⟨k + 1, by omega, by go_num, by rw [HF.out]⟩
          case measure => simp [intOf]; omega
        · have h10' : (x == 13) = false := by simpa using h10
          have HF := Lib.hid (show nlFrom zs 0 0 (k + 1) = nlFrom zs 0 0 k by rw [HST.out]; simp [isNl, h13', h10'])
          clear h13 h10
          go_wp2
          go_round
          case rel => exact ⟨k + 1, by omega, by go_num, by rw [HF.out]⟩
          case measure => simp [intOf]; omega
    · obtain rfl : k = n := by omega
      go_wp2
      go_ret
      exact ⟨rfl, rfl⟩
theorem zzBytes (A : Option Addr) (n c : Nat) (w : World) (hs : n ≤ maxLen) :
    Calls Try.prog 9 #[.slice A n c] w fun e w' => e = .returned (.bool (decide (n ≤ 1048576))) ∧ w = w' := by
  unfold maxLen at hs
  by_cases h : n ≤ 1048576
  · go_enter Try.func9, Try.ntmps9
    go_wp2
    go_ret
    exact ⟨ret_bool (by simp [h]), rfl⟩
  · go_enter Try.func9, Try.ntmps9
    go_wp2
    go_ret
    exact ⟨ret_bool (by simp [h]), rfl⟩
theorem len12 (A : Option Addr) (n c p : Nat) (zs : List Int) (cs : List Value) (w : World) (h : Args.IsInts .u8 w A n c zs) (hn : n ≤ 1048576) (hrow : Row w p 100 cs)
    (hj : cs[9]? = some (.slice A n c)) (hs : cs[69]? = some (.int .i64 0)) (he : cs[70]? = some (.int .i64 0)) :
    Calls Try.prog 12 #[.pointer (some ⟨p, 0, none⟩)] w fun e w' => e = .returned (.int .i64 ((n : Int) - nlFrom zs 0 0 n)) ∧ LineDone w p 100 cs 69 70 (nlFrom zs 0 0 n) n w' := by
  have H := Lib.hid (Len.len41 A n c p 0 0 zs cs w h hn hrow hj hs he (Nat.zero_le _) (Int.le_refl _) (by omega))
  clear h hrow hj hs he
  go_enter Try.func12, Try.ntmps12
  go_wp2_with fail
  refine (H.out).mono ?_
  rintro e w1 ⟨rfl, hd⟩
  have HD := Lib.hid hd
  clear hd
  go_wp2_with fail
  go_ret
  exact ⟨rfl, HD.out⟩
theorem cloned_ints {w w1 : World} {A : Option Addr} {n c : Nat} {zs : List Int} {v : Value} (h : Args.IsInts .u8 w A n c zs) (hn : n ≤ 1048576)
    (hv : (A = none ∧ v = .slice none 0 0 ∧ w = w1) ∨ (A ≠ none ∧ v = .slice (some ⟨w.heap.size, 0, none⟩) n n ∧ Row w1 w.heap.size 5 (iv .u8 zs) ∧ Below w.heap.size w w1 ∧ w1.heap.size = w.heap.size + 1)) :
    ∃ A', v = .slice A' n n ∧ Args.IsInts .u8 w1 A' n n zs ∧ Below w.heap.size w w1 := by
  rcases hv with ⟨rfl, rfl, rfl⟩ | ⟨_, rfl, hrow, hb, _⟩
  · have hc0 := h.2.2.2.2.1 rfl
    have hn0 : n = 0 := by have := h.1; omega
    subst hn0
    subst hc0
    exact ⟨none, rfl, h, Below.refl _ _⟩
  · have hl := h.2.2.1
    subst hl
    exact ⟨_, rfl, ints_of_row hrow (by unfold maxLen; omega) h.2.2.2.1, hb⟩
set_option maxHeartbeats 1000000 in
theorem body (A : Option Addr) (n c : Nat) (zs : List Int) (w : World) (h : Args.IsInts .u8 w A n c zs) (hn : n ≤ 1048576) :
    Calls Try.prog 3 #[.slice A n c] w fun e w' => e = .returned (.bool true) ∧ Below w.heap.size w w' := by
  have hd : decide (n ≤ 1048576) = true := by simp [hn]
  have H := Lib.hid h
  clear h
  go_enter Try.func3, Try.ntmps3
  go_wp2_with (go_at_call 9; refine (zzBytes _ _ _ _ (by unfold maxLen; omega)).mono ?_; rintro e w' ⟨rfl, rfl⟩)
  refine (Clone.cl10 A n c zs w H.out hn).mono ?_
  rintro e w1 ⟨v, rfl, hv⟩
  obtain ⟨A1, rfl, hi1, hb1⟩ := cloned_ints H.out hn hv
  have HI1 := Lib.hid hi1
  have HB1 := Lib.hid hb1
  clear hv hi1 hb1
  go_wp2_with fail
  refine (Clone.cl10 A1 n n zs w1 HI1.out hn).mono ?_
  rintro e w2 ⟨v, rfl, hv⟩
  obtain ⟨A2, rfl, hi2, hb2⟩ := cloned_ints HI1.out hn hv
  have HI1' := Lib.hid (HI1.out.later hb2)
  have HI2 := Lib.hid hi2
  have HB2 := Lib.hid (HB1.out.trans (hb2.mono HB1.out.size))
  clear hv hi2 hb2 HI1
  go_wp2_with fail
  refine (new A1 n n w2).mono ?_
  obtain ⟨W, hW, hrow, hbel, hsz⟩ := made_box w2 100 (prn (.slice A1 n n))
  rw [hW]
  rintro e w' ⟨rfl, rfl⟩
  have c9 : (prn (.slice A1 n n)).toList[9]? = some (.slice A1 n n) := by simpa using prn9 (.slice A1 n n)
  have c69 : (prn (.slice A1 n n)).toList[69]? = some (.int .i64 0) := by simpa using prn69 (.slice A1 n n)
  have c70 : (prn (.slice A1 n n)).toList[70]? = some (.int .i64 0) := by simpa using prn70 (.slice A1 n n)
  generalize (prn (.slice A1 n n)) = cs at *
  have HI3 := Lib.hid (HI1'.out.later hbel)
  have HI4 := Lib.hid (HI2.out.later hbel)
  have HC := Lib.hid (len12 A1 n n w2.heap.size zs _ W HI3.out hn hrow c9 c69 c70)
  have HB3 := Lib.hid (HB2.out.trans (hbel.mono HB2.out.size))
  have H9 := Lib.hid c9
  have HSZ := Lib.hid hsz
  have HBW := Lib.hid hbel
  clear hW hrow hbel hsz c9 c69 c70
  go_wp2_with fail
  refine (HC.out).mono ?_
  rintro e w4 ⟨rfl, hd4⟩
  have HD := Lib.hid hd4
  clear hd4
  have hg4 := HD.out.2.1
  have hz4 := HD.out.2.2
  have hb4 : Below w2.heap.size W w4 := grown_below hg4 (Nat.le_refl _) (by have := HSZ.out; omega)
  have hw4 : Below w2.heap.size w2 w4 := HBW.out.trans hb4
  have HI5 := Lib.hid (HI1'.out.later hw4)
  have HI6 := Lib.hid (HI2.out.later hw4)
  have HB4 := Lib.hid (HB2.out.trans (hw4.mono HB2.out.size))
  have d9 := HD.out.1.at_ (i := 9) (v := .slice A1 n n) (by rw [List.getElem?_set_ne (by decide), List.getElem?_set_ne (by decide)]; exact H9.out)
  clear hg4 hz4 hb4 hw4 HD
  have e1 : ((n : Int) - nlFrom zs 0 0 n == (n : Int) - nlFrom zs 0 0 n) = true := by simp
  go_wp2_with fail
  refine (model A2 n n zs w4 HI6.out hn).mono ?_
  rintro e w5 ⟨rfl, rfl⟩
  go_wp2_with fail
  refine (js15 w2.heap.size (.slice A1 n n) w4 d9).mono ?_
  rintro e w6 ⟨rfl, rfl⟩
  go_wp2_with fail
  refine (Len.same14 A1 A2 n n n zs w4 HI5.out HI6.out hn).mono ?_
  rintro e w7 ⟨rfl, m, rfl⟩
  go_wp2_with fail
  go_ret
  exact ⟨rfl, below_drewN HB4.out _⟩
theorem law (A0 : Option Addr) (n0 c0 : Nat) (z0 : List Int) (w : World) (w0 : Args.IsInts .u8 w A0 n0 c0 z0) :
    Calls Try.prog 3 #[.slice A0 n0 c0] w fun e w' => e = .returned (.bool true) ∧ Below w.heap.size w w' := by
  have hm : n0 ≤ maxLen := Nat.le_trans w0.1 w0.2.1
  by_cases hn : n0 ≤ 1048576
  · exact body A0 n0 c0 z0 w w0 hn
  · have hd : decide (n0 ≤ 1048576) = false := by simp [hn]
    go_enter Try.func3, Try.ntmps3
    go_wp2_with (go_at_call 9; refine (zzBytes _ _ _ _ hm).mono ?_; rintro e w' ⟨rfl, rfl⟩)
    go_ret
    exact ⟨rfl, Below.refl _ _⟩
end Go.Proofs.Ytjgomgagaolhgaa.Fresh
