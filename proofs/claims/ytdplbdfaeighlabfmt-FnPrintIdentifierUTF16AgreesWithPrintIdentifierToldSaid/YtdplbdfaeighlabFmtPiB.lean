/- FnPrintIdentifierUTF16AgreesWithPrintIdentifier: helpers of the law. -/
import Derived.Test.YtdplbdfaeighlabFmtRows
import Derived.Test.YtdplbdfaeighlabFmtMem
import Derived.Test.YtdplbdfaeighlabFmtSl
import Derived.Test.YtdplbdfaeighlabFmtPiA
import Derived.Test.YtdplbdfaeighlabFmtOwn
import Derived.Test.YtdplbdfaeighlabFmtOwg
import Derived.Test.YtdplbdfaeighlabFmtPru
import Derived.Great.BuildSlice
import Derived.Deep.RegionLaw
import Derived.WalkKit
import Derived.ProofKit
import Derived.OpenShut
import Derived.Below
import Derived.WalkLawsBesides
import Derived.Lib.Hide
import Derived.Outline
import Derived.RegionTactic
import Derived.Deep.QuietTactic
import Derived.BigQuiet
import Derived.WalkSpells
import Derived.Deep.OwnRows
import Derived.IntWalk
import Derived.Deep.DeepMust
namespace Go.Proofs.YtdplbdfaeighlabFmt.PiB
open Go.RowKit Mem Sl
set_option linter.unusedVariables false
open Prn Pru Own Owg Args PiA
theorem info5 : (Tryf.prog.info? 5).map (fun i => (i.zero, i.size, i.bytes)) = some (some (.int .u8 0), 1, 1) := by kernel_rfl

theorem clone7_info : (Tryf.prog.info? 25).map (fun i => (i.zero, i.size, i.bytes)) = some (some (.int .u16 0), 1, 2) := by kernel_rfl
set_option maxHeartbeats 400000 in
theorem clone7 (A : Option Addr) (n c : Nat) (zs : List Int) (w : World) (h : Args.IsInts .u16 w A n c zs) (hn : n ≤ 1048576) :
    Calls Tryf.prog 7 #[.slice A n c] w fun e w' => Cloned .u16 25 w A n zs e w' := by
  have heq := fun (W : World) (X : Option Addr) (l cc : Nat) => Lib.run_eql_slice_nil (P := Tryf.prog) W 22 25 X l cc 0 0 Tryf.underlying22
  rcases A with _ | a
  · obtain ⟨h1, h2, h3, h4, h5, h6⟩ := h
    have hc := h5 rfl
    obtain rfl : n = 0 := by omega
    obtain rfl : zs = [] := List.eq_nil_of_length_eq_zero h3
    go_enter Tryf.func7, Tryf.ntmps7
    go_wp2
    go_ret
    exact ⟨_, rfl, .inl ⟨rfl, rfl, rfl⟩⟩
  · have hmk := fun W => run_make_row' (P := Tryf.prog) 22 25 (.int .u16 0) 2 Tryf.underlying22 clone7_info rfl .i64 .i64 n (by omega) (by omega) W
    have hlen := h.2.2.1
    have hrd := fun k => h.read k
    have HR := Lib.hid hrd
    clear hrd
    go_enter Tryf.func7, Tryf.ntmps7
    go_wp2
    go_loopw [4] (fun i wr => ∃ k : Nat, k ≤ n ∧ i = .int .i64 k ∧ Row wr w.heap.size 25 (filled (iv .u16 zs) (.int .u16 0) k) ∧ Below w.heap.size w wr ∧ wr.heap.size = w.heap.size + 1) (fun i _ => n - (intOf i).toNat)
    case atStart =>
      refine ⟨0, Nat.zero_le _, rfl, ?_, (Below.refl _ _).alloc (Nat.le_refl _) _, by simp⟩
      rw [filled_zero, iv_length, hlen]
      exact made_row w 25 (.int .u16 0) n
    case round =>
      obtain ⟨k, hk, rfl, hrow, hbel, hsz⟩ := hrel
      have HS := Lib.hid hsz
      clear hsz
      by_cases hlt : k < n
      · obtain ⟨b, off, ha, hb, hcell⟩ := HR.out k hlt
        injection ha with ha
        subst ha
        obtain ⟨x, hx⟩ : ∃ x, x = zs.getD k 0 := ⟨_, rfl⟩
        rw [← hx] at hcell
        have c1 := cell_later hbel hcell
        have hl : k < (iv .u16 zs).length := by rw [iv_length]; omega
        have c2 := hrow.at_ (filled_at (iv .u16 zs) (.int .u16 0) k hl)
        have c3 := hrow.frozen k
        have hset := hrow.set k (.int .u16 x)
        rw [filled_set _ _ k hl _ (by rw [hx]; exact iv_at .u16 zs k (by omega))] at hset
        have HSET := Lib.hid hset
        have HB := Lib.hid hbel
        clear hset hbel hrow hcell hx
        go_wp2
        go_roundw
        case rel => exact ⟨k + 1, by omega, by go_num, HSET.out, HB.out.setCell (Nat.le_refl _) _, by simpa using HS.out⟩
        case measure => simp [intOf]; omega
      · have hkn : k = n := by omega
        subst hkn
        have HROW := Lib.hid hrow
        have HB := Lib.hid hbel
        clear hrow hbel
        go_wp2
        go_ret
        refine ⟨_, rfl, .inr ⟨by simp, rfl, ?_, HB.out, HS.out⟩⟩
        have h1 := HROW.out
        rwa [← hlen, ← iv_length .u16 zs, filled_all] at h1

set_option maxHeartbeats 400000 in
theorem same12 (A B : Option Addr) (n c d : Nat) (zs : List Int) (w : World) (h : Args.IsInts .u8 w A n c zs) (h' : Args.IsInts .u8 w B n d zs) (hn : n ≤ 8000000) :
    Calls Tryf.prog 12 #[.slice A n c, .slice B n d] w fun e w' => e = .returned (.bool true) ∧ ∃ m, w' = w.drewN m := by
  have HR := Lib.hid (fun k => h.read k)
  have HR' := Lib.hid (fun k => h'.read k)
  have hne : ((n : Int) != (n : Int)) = false := by simp
  clear h h'
  go_enter Tryf.func12, Tryf.ntmps12
  go_wp2
  go_loopw [5] (fun i wr => ∃ k m : Nat, k ≤ n ∧ i = .int .i64 k ∧ wr = w.drewN m) (fun i _ => n - (intOf i).toNat)
  case atStart => exact ⟨0, 0, Nat.zero_le _, rfl, rfl⟩
  case round =>
    obtain ⟨k, m, hk, rfl, rfl⟩ := hrel
    by_cases hlt : k < n
    · obtain ⟨b, off, ha, hb, hcell⟩ := HR.out k hlt
      obtain ⟨b', off', ha', hb', hcell'⟩ := HR'.out k hlt
      subst ha ha'
      obtain ⟨x, hx⟩ : ∃ x, x = zs.getD k 0 := ⟨_, rfl⟩
      rw [← hx] at hcell hcell'
      clear hx
      have hxx : (x != x) = false := by simp
      go_wp2
      go_quiet (fail)
      go_wp2
      go_roundw
      case rel => exact ⟨k + 1, m + nq, by omega, by go_num, by simp⟩
      case measure => simp [intOf]; omega
    · go_wp2
      go_ret
      exact ⟨rfl, m, rfl⟩

set_option maxHeartbeats 1000000 in
theorem bytes4 (A0 : Option Addr) (n0 c0 : Nat) (y1 : Bool) (w : World) (m0 : n0 ≤ maxLen) : Calls Tryf.prog 4 #[.slice A0 n0 c0, .bool y1] w fun e w' => e = .returned (.bool (decide (n0 ≤ 1048576))) ∧ w = w' := by
  unfold maxLen at *
  by_cases h0 : n0 ≤ 1048576
  case neg =>
    go_enter Tryf.func4, Tryf.ntmps4
    go_wp2_with fail
    go_ret
    exact ⟨congrArg (fun b => Ending.returned (Value.bool b)) (show false = decide (n0 ≤ 1048576) by symm; simp; omega), rfl⟩
  go_enter Tryf.func4, Tryf.ntmps4
  go_wp2_with fail
  go_ret
  exact ⟨congrArg (fun b => Ending.returned (Value.bool b)) (show true = decide (n0 ≤ 1048576) by symm; simp; omega), rfl⟩

theorem hi14 (c : Int) (w : World) (h0 : 0 ≤ c) (h1 : c ≤ 65535) : Calls Tryf.prog 14 #[.int .u16 c] w fun e w' => e = .returned (.bool (hi c)) ∧ w = w' := by
  by_cases ha : 55296 ≤ c
  · by_cases hb : c ≤ 56319
    · have t1 : decide (55296 ≤ c) = true := by simp; omega
      have t2 : decide (c ≤ 56319) = true := by simp; omega
      have HV := Lib.hid (show hi c = true from hi_true.2 ⟨ha, hb⟩)
      clear ha hb
      go_enter Tryf.func14, Tryf.ntmps14
      go_wp2_with fail
      go_ret
      exact ⟨ret_bool HV.out.symm, rfl⟩
    · have t1 : decide (55296 ≤ c) = true := by simp; omega
      have t2 : decide (c ≤ 56319) = false := by simp; omega
      have HV := Lib.hid (show hi c = false from hi_false.2 (by omega))
      clear ha hb
      go_enter Tryf.func14, Tryf.ntmps14
      go_wp2_with fail
      go_ret
      exact ⟨ret_bool HV.out.symm, rfl⟩
  · have t1 : decide (55296 ≤ c) = false := by simp; omega
    have HV := Lib.hid (show hi c = false from hi_false.2 (by omega))
    clear ha
    go_enter Tryf.func14, Tryf.ntmps14
    go_wp2_with fail
    go_ret
    exact ⟨ret_bool HV.out.symm, rfl⟩

theorem lo15 (c : Int) (w : World) (h0 : 0 ≤ c) (h1 : c ≤ 65535) : Calls Tryf.prog 15 #[.int .u16 c] w fun e w' => e = .returned (.bool (lo c)) ∧ w = w' := by
  by_cases ha : 56320 ≤ c
  · by_cases hb : c ≤ 57343
    · have t1 : decide (56320 ≤ c) = true := by simp; omega
      have t2 : decide (c ≤ 57343) = true := by simp; omega
      have HV := Lib.hid (show lo c = true from lo_true.2 ⟨ha, hb⟩)
      clear ha hb
      go_enter Tryf.func15, Tryf.ntmps15
      go_wp2_with fail
      go_ret
      exact ⟨ret_bool HV.out.symm, rfl⟩
    · have t1 : decide (56320 ≤ c) = true := by simp; omega
      have t2 : decide (c ≤ 57343) = false := by simp; omega
      have HV := Lib.hid (show lo c = false from lo_false.2 (by omega))
      clear ha hb
      go_enter Tryf.func15, Tryf.ntmps15
      go_wp2_with fail
      go_ret
      exact ⟨ret_bool HV.out.symm, rfl⟩
  · have t1 : decide (56320 ≤ c) = false := by simp; omega
    have HV := Lib.hid (show lo c = false from lo_false.2 (by omega))
    clear ha
    go_enter Tryf.func15, Tryf.ntmps15
    go_wp2_with fail
    go_ret
    exact ⟨ret_bool HV.out.symm, rfl⟩

theorem u16_of {w : World} {A : Option Addr} {n c : Nat} {U : List Int} (h : IsInts .u16 w A n c U) : U16 U := by
  intro z hz
  have := h.2.2.2.1 z hz
  simp [Lit.wf] at this
  simp [IntKind.min, IntKind.max, IntKind.bits, IntKind.signed] at this
  omega
/-- What the test for lone surrogates answers. -/
def Lone (U : List Int) (w : World) (e : Ending) (w' : World) : Prop := ∃ b, e = .returned (.bool b) ∧ (b = false → Wf U) ∧ w = w'
/-- k units are read: the code points so far are scalar values. -/
def Seen (U : List Int) (k : Nat) (P : List Int) : Prop := cps U = P ++ cps (U.drop k) ∧ ∀ z ∈ P, Scalar z
theorem seen0 (U : List Int) : Seen U 0 [] := ⟨by simp, by simp⟩
theorem Seen.pair {U : List Int} {k : Nat} {P : List Int} (h : Seen U k P) (hk : k + 1 < U.length) (h1 : hi (U.getD k 0) = true) (h2 : lo (U.getD (k + 1) 0) = true) : Seen U (k + 2) (P ++ [join2 (U.getD k 0) (U.getD (k + 1) 0)]) := by
  refine ⟨by rw [h.1, cps_pair hk h1 h2]; simp, ?_⟩
  intro z hz
  rcases List.mem_append.1 hz with hz | hz
  · exact h.2 z hz
  · obtain rfl : z = join2 (U.getD k 0) (U.getD (k + 1) 0) := by simpa using hz
    exact (join_scalar h1 h2).1
theorem Seen.one {U : List Int} {k : Nat} {P : List Int} (h : Seen U k P) (hU : U16 U) (hk : k < U.length) (h1 : hi (U.getD k 0) = false) (h2 : lo (U.getD k 0) = false) : Seen U (k + 1) (P ++ [U.getD k 0]) := by
  refine ⟨by rw [h.1, cps_one hk (fun hc => by rw [h1] at hc; exact absurd hc.2.1 (by decide))]; simp, ?_⟩
  intro z hz
  rcases List.mem_append.1 hz with hz | hz
  · exact h.2 z hz
  · obtain rfl : z = U.getD k 0 := by simpa using hz
    rw [hi_false] at h1
    rw [lo_false] at h2
    have := hU.at_ k hk
    unfold Scalar
    omega
theorem Seen.fin {U : List Int} {P : List Int} (h : Seen U U.length P) : Wf U := by
  intro z hz
  rw [h.1, cps_end, List.append_nil] at hz
  exact h.2 z hz
set_option maxHeartbeats 4000000 in
theorem lone5 (A : Option Addr) (n c : Nat) (U : List Int) (w : World) (h : IsInts .u16 w A n c U) (hn : n ≤ 1048576) : Calls Tryf.prog 5 #[.slice A n c] w (Lone U w) := by
  have hU := Lib.hid (u16_of h)
  have HLN := Lib.hid h.2.2.1
  have R := Lib.hid (fun k => h.read k)
  clear h
  go_enter Tryf.func5, Tryf.ntmps5
  go_wp2_with fail
  go_loop [3] (fun i => ∃ (k : Nat) (P : List Int), k ≤ n ∧ i = .int .i64 (k : Int) ∧ Seen U k P) (fun i => n - (intOf i).toNat)
  case atStart => exact ⟨0, [], Nat.zero_le _, rfl, seen0 U⟩
  case round =>
    obtain ⟨k, P, hk, rfl, hP⟩ := hrel
    have HP := Lib.hid hP
    clear hP
    by_cases hlt : k < n
    · obtain ⟨b, o, ha, hb, hc⟩ := R.out k hlt
      subst ha
      have hkl : k < U.length := by have := HLN.out; omega
      obtain ⟨z0, z1⟩ := hU.out.at_ k hkl
      obtain ⟨x, hx⟩ : ∃ x, x = U.getD k 0 := ⟨_, rfl⟩
      rw [← hx] at hc z0 z1
      have HX := Lib.hid hx
      have HKL := Lib.hid hkl
      clear hx hkl hb
      cases h1 : hi x with
      | true =>
        by_cases h2 : k + 1 < n
        · obtain ⟨b', o', ha', hb', hc'⟩ := R.out (k + 1) h2
          injection ha' with ha'
          injection ha' with e1 e2
          subst e1 e2
          obtain ⟨y0, y1⟩ := hU.out.at_ (k + 1) (by have := HLN.out; omega)
          obtain ⟨y, hy⟩ : ∃ y, y = U.getD (k + 1) 0 := ⟨_, rfl⟩
          rw [← hy] at hc' y0 y1
          have HY := Lib.hid hy
          clear hy
          have tl : decide ((k : Int) + 1 < (n : Int)) = true := by simp; omega
          cases h3 : lo y with
          | true =>
            have HS := Lib.hid (HP.out.pair (by have := HLN.out; omega) (by rw [← HX.out]; exact h1) (by rw [← HY.out]; exact h3))
            go_wp2_with (first | (go_at_call 14; (with_reducible refine (hi14 _ _ ‹_› ‹_›).mono ?_); rintro e w9 ⟨rfl, rfl⟩) | (go_at_call 15; (with_reducible refine (lo15 _ _ ‹_› ‹_›).mono ?_); rintro e w9 ⟨rfl, rfl⟩))
            go_round
            case rel => exact ⟨k + 2, _, by omega, by go_num, HS.out⟩
            case measure => simp [intOf]; omega
          | false =>
            go_wp2_with (first | (go_at_call 14; (with_reducible refine (hi14 _ _ ‹_› ‹_›).mono ?_); rintro e w9 ⟨rfl, rfl⟩) | (go_at_call 15; (with_reducible refine (lo15 _ _ ‹_› ‹_›).mono ?_); rintro e w9 ⟨rfl, rfl⟩))
            go_ret
            exact ⟨true, rfl, (fun h => absurd h (by decide)), rfl⟩
        · have tl : decide ((k : Int) + 1 < (n : Int)) = false := by simp; omega
          go_wp2_with (first | (go_at_call 14; (with_reducible refine (hi14 _ _ ‹_› ‹_›).mono ?_); rintro e w9 ⟨rfl, rfl⟩) | (go_at_call 15; (with_reducible refine (lo15 _ _ ‹_› ‹_›).mono ?_); rintro e w9 ⟨rfl, rfl⟩))
          go_ret
          exact ⟨true, rfl, (fun h => absurd h (by decide)), rfl⟩
      | false =>
        cases h3 : lo x with
        | true =>
          go_wp2_with (first | (go_at_call 14; (with_reducible refine (hi14 _ _ ‹_› ‹_›).mono ?_); rintro e w9 ⟨rfl, rfl⟩) | (go_at_call 15; (with_reducible refine (lo15 _ _ ‹_› ‹_›).mono ?_); rintro e w9 ⟨rfl, rfl⟩))
          go_ret
          exact ⟨true, rfl, (fun h => absurd h (by decide)), rfl⟩
        | false =>
          have HS := Lib.hid (HP.out.one hU.out HKL.out (by rw [← HX.out]; exact h1) (by rw [← HX.out]; exact h3))
          go_wp2_with (first | (go_at_call 14; (with_reducible refine (hi14 _ _ ‹_› ‹_›).mono ?_); rintro e w9 ⟨rfl, rfl⟩) | (go_at_call 15; (with_reducible refine (lo15 _ _ ‹_› ‹_›).mono ?_); rintro e w9 ⟨rfl, rfl⟩))
          go_round
          case rel => exact ⟨k + 1, _, by omega, by go_num, HS.out⟩
          case measure => simp [intOf]; omega
    · obtain rfl : k = n := by omega
      have HW := Lib.hid (show Wf U from by have hp := HP.out; rw [← HLN.out] at hp; exact hp.fin)
      go_wp2_with fail
      go_ret
      exact ⟨false, rfl, fun _ => HW.out, rfl⟩

def NoPair (U : List Int) : Prop := ∀ i, i + 1 < U.length → ¬ (hi (U.getD i 0) = true ∧ lo (U.getD (i + 1) 0) = true)
/-- What the test for pairs answers. -/
def Pairs (U : List Int) (w : World) (e : Ending) (w' : World) : Prop := ∃ b, e = .returned (.bool b) ∧ (b = false → NoPair U) ∧ w = w'
def NoP (U : List Int) (k : Nat) : Prop := ∀ j, j < k → ¬ (hi (U.getD j 0) = true ∧ lo (U.getD (j + 1) 0) = true)
theorem NoP.next {U : List Int} {k : Nat} (h : NoP U k) (h1 : ¬ (hi (U.getD k 0) = true ∧ lo (U.getD (k + 1) 0) = true)) : NoP U (k + 1) := by
  intro j hj
  by_cases e : j = k
  · subst e; exact h1
  · exact h j (by omega)
set_option maxHeartbeats 4000000 in
theorem pair6 (A : Option Addr) (n c : Nat) (U : List Int) (w : World) (h : IsInts .u16 w A n c U) (hn : n ≤ 1048576) : Calls Tryf.prog 6 #[.slice A n c] w (Pairs U w) := by
  have hU := Lib.hid (u16_of h)
  have HLN := Lib.hid h.2.2.1
  have R := Lib.hid (fun k => h.read k)
  clear h
  go_enter Tryf.func6, Tryf.ntmps6
  go_wp2_with fail
  go_loop [3] (fun i => ∃ (k : Nat), (k = 0 ∨ k + 1 ≤ n) ∧ i = .int .i64 (k : Int) ∧ NoP U k) (fun i => n - (intOf i).toNat)
  case atStart => exact ⟨0, .inl rfl, rfl, fun j hj => absurd hj (by omega)⟩
  case round =>
    obtain ⟨k, hk, rfl, hP⟩ := hrel
    have HP := Lib.hid hP
    clear hP
    by_cases hlt : k + 1 < n
    · obtain ⟨b, o, ha, hb, hc⟩ := R.out k (by omega)
      subst ha
      have tl : decide ((k : Int) + 1 < (n : Int)) = true := by simp; omega
      obtain ⟨z0, z1⟩ := hU.out.at_ k (by have := HLN.out; omega)
      obtain ⟨x, hx⟩ : ∃ x, x = U.getD k 0 := ⟨_, rfl⟩
      rw [← hx] at hc z0 z1
      have HX := Lib.hid hx
      obtain ⟨b', o', ha', hb', hc'⟩ := R.out (k + 1) hlt
      injection ha' with ha'
      injection ha' with e1 e2
      subst e1 e2
      obtain ⟨y0, y1⟩ := hU.out.at_ (k + 1) (by have := HLN.out; omega)
      obtain ⟨y, hy⟩ : ∃ y, y = U.getD (k + 1) 0 := ⟨_, rfl⟩
      rw [← hy] at hc' y0 y1
      have HY := Lib.hid hy
      clear hx hy hb hb' hk
      cases h1 : hi x with
      | true =>
        cases h3 : lo y with
        | true =>
          go_wp2_with (first | (go_at_call 14; (with_reducible refine (hi14 _ _ ‹_› ‹_›).mono ?_); rintro e w9 ⟨rfl, rfl⟩) | (go_at_call 15; (with_reducible refine (lo15 _ _ ‹_› ‹_›).mono ?_); rintro e w9 ⟨rfl, rfl⟩))
          go_ret
          exact ⟨true, rfl, (fun h => absurd h (by decide)), rfl⟩
        | false =>
          have HS := Lib.hid (HP.out.next (by rw [← HY.out, h3]; simp))
          go_wp2_with (first | (go_at_call 14; (with_reducible refine (hi14 _ _ ‹_› ‹_›).mono ?_); rintro e w9 ⟨rfl, rfl⟩) | (go_at_call 15; (with_reducible refine (lo15 _ _ ‹_› ‹_›).mono ?_); rintro e w9 ⟨rfl, rfl⟩))
          go_round
          case rel => exact ⟨k + 1, .inr (by omega), by go_num, HS.out⟩
          case measure => simp [intOf]; omega
      | false =>
        have HS := Lib.hid (HP.out.next (by rw [← HX.out, h1]; simp))
        go_wp2_with (first | (go_at_call 14; (with_reducible refine (hi14 _ _ ‹_› ‹_›).mono ?_); rintro e w9 ⟨rfl, rfl⟩) | (go_at_call 15; (with_reducible refine (lo15 _ _ ‹_› ‹_›).mono ?_); rintro e w9 ⟨rfl, rfl⟩))
        go_round
        case rel => exact ⟨k + 1, .inr (by omega), by go_num, HS.out⟩
        case measure => simp [intOf]; omega
    · have tl : decide ((k : Int) + 1 < (n : Int)) = false := by simp; omega
      have HW := Lib.hid (show NoPair U from fun i hi => HP.out i (by have := HLN.out; omega))
      have hkb : k ≤ 1048576 := by omega
      clear hk
      go_wp2_with fail
      go_ret
      exact ⟨false, rfl, fun _ => HW.out, rfl⟩
end Go.Proofs.YtdplbdfaeighlabFmt.PiB
