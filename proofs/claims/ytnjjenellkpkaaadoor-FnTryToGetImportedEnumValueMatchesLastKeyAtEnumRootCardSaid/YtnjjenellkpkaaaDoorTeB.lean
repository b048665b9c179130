/- FnTryToGetImportedEnumValueMatchesLastKeyAtEnumRoot: links, the root, the shape, what is wanted. -/
import Derived.Test.YtnjjenellkpkaaaDoorRows
import Derived.Test.YtnjjenellkpkaaaDoorMem
import Derived.Test.YtnjjenellkpkaaaDoorSl
import Derived.Test.YtnjjenellkpkaaaDoorTeA
import Derived.Deep.RegionHeld3
import Derived.WalkKit
import Derived.ProofKit
import Derived.OpenShut
import Derived.Below
import Derived.WalkLawsBesides
import Derived.Lib.Hide
import Derived.Outline
import Derived.RegionTactic
import Derived.Deep.QuietTactic
import Derived.BigQuiet
import Derived.WalkSpells
import Derived.Deep.OwnRows
import Derived.IntWalk
import Derived.Deep.DeepMust
namespace Go.Proofs.YtnjjenellkpkaaaDoor.TeB
open Go.RowKit Mem Sl
set_option linter.unusedVariables false
open Args Argw Fvs TeA

theorem _root_.Go.Proofs.YtnjjenellkpkaaaDoor.Fvs.Rs.drew {w : World} {A : Option Addr} {n : Nat} {V : Nat → Value} (h : Rs w A n V) : Rs w.drew A n V := h
/-- The links lie in range. -/
def Lok (n : Nat) (l : Nat → Int) : Prop := ∀ i, i < n → l i = -1 ∨ (0 ≤ l i ∧ l i < n)
def Lv (w : World) (n : Nat) (l : Nat → Int) (e : Ending) (w' : World) : Prop := ∃ b, e = .returned (.bool b) ∧ (b = true → Lok n l) ∧ w = w'
set_option maxHeartbeats 1000000 in
theorem links20 (A : Option Addr) (n c : Nat) (l : Nat → Int) (w : World) (h : Rs w A n (fun i => .int .i32 (l i))) (hn : n ≤ 65536) (hl : ∀ i, -2147483648 ≤ l i ∧ l i ≤ 2147483647) : Calls Tryd.prog 20 #[.slice A n c] w (Lv w n l) := by
  have HR := Lib.hid h
  have HL := Lib.hid hl
  clear h hl
  go_enter Tryd.func20, Tryd.ntmps20
  go_wp2
  go_loop [4, 5] (fun i _ => ∃ k : Nat, k ≤ n ∧ i = .int .i64 k ∧ Lok k (fun i => if l i = -1 ∨ (0 ≤ l i ∧ l i < n) then -1 else -2)) (fun i _ => n - (intOf i).toNat)
  case atStart => exact ⟨0, Nat.zero_le _, rfl, fun i hi => absurd hi (Nat.not_lt_zero i)⟩
  case round =>
    obtain ⟨k, hk, rfl, hall⟩ := hrel
    have HA := Lib.hid hall
    clear hall
    by_cases hlt : k < n
    · obtain ⟨b, off, ha, hb, hcell⟩ := HR.out k hlt
      subst ha
      obtain ⟨x0, x1⟩ := HL.out k
      obtain ⟨x, hx⟩ : ∃ x, x = l k := ⟨_, rfl⟩
      simp only [← hx] at hcell x0 x1
      have HX := Lib.hid hx
      clear hb hx
      have step : x = -1 ∨ (0 ≤ x ∧ x < n) → Lok (k + 1) (fun i => if l i = -1 ∨ (0 ≤ l i ∧ l i < n) then -1 else -2) := fun hx i hi => by
        by_cases e : i = k
        · subst e
          show (if l i = -1 ∨ (0 ≤ l i ∧ l i < n) then (-1 : Int) else -2) = -1 ∨ _
          rw [if_pos (by rw [← HX.out]; exact hx)]
          exact .inl rfl
        · have h9 := HA.out i (by omega)
          show (if l i = -1 ∨ (0 ≤ l i ∧ l i < n) then (-1 : Int) else -2) = -1 ∨ _
          rcases h9 with h9 | h9
          · exact .inl h9
          · have : (if l i = -1 ∨ (0 ≤ l i ∧ l i < n) then (-1 : Int) else -2) < 0 := by split <;> omega
            have h8 := h9.1
            simp only at h8
            omega
      have STEP := Lib.hid step
      clear step
      by_cases h1 : x = -1
      · have t1 : (x != -1) = false := by simp [h1]
        have HS := Lib.hid (STEP.out (.inl h1))
        clear h1
        go_wp2
        go_round
        case rel => exact ⟨k + 1, by omega, by go_num, HS.out⟩
        case measure => simp [intOf]; omega
      · have t1 : (x != -1) = true := by simp [h1]
        by_cases h2 : x < 0
        · have t2 : decide (x < 0) = true := by simp [h2]
          clear h1 h2
          go_wp2
          go_ret
          exact ⟨_, rfl, (fun h => by cases h), rfl⟩
        · have t2 : decide (x < 0) = false := by simp; omega
          have wx : IntKind.i64.wrap x = x := IntWalk.i64_in _ (by omega)
          by_cases h3 : (n : Int) ≤ x
          · have t3 : decide ((n : Int) ≤ x) = true := by simp [h3]
            clear h1 h2 h3
            go_wp2
            go_ret
            exact ⟨_, rfl, (fun h => by cases h), rfl⟩
          · have t3 : decide ((n : Int) ≤ x) = false := by simp; omega
            have HS := Lib.hid (STEP.out (.inr ⟨by omega, by omega⟩))
            clear h1 h2 h3
            go_wp2
            go_round
            case rel => exact ⟨k + 1, by omega, by go_num, HS.out⟩
            case measure => simp [intOf]; omega
    · obtain rfl : k = n := by omega
      go_wp2
      go_ret
      refine ⟨_, rfl, fun _ i hi => ?_, rfl⟩
      rcases HA.out i hi with h9 | h9
      · simp only at h9
        by_cases hc : l i = -1 ∨ (0 ≤ l i ∧ l i < k)
        · exact hc
        · rw [if_neg hc] at h9; omega
      · have h8 := h9.1
        simp only at h8
        split at h8 <;> omega
/-- The root of a chain, by at most that many steps. -/
def rootF (l : Nat → Int) : Nat → Nat → Int
  | 0, _ => -1
  | s + 1, r => if l r = -1 then (r : Int) else rootF l s (l r).toNat
theorem rootF_lt {n : Nat} {l : Nat → Int} (hl : Lok n l) : ∀ s r, r < n → rootF l s r = -1 ∨ (0 ≤ rootF l s r ∧ rootF l s r < n ∧ l (rootF l s r).toNat = -1)
  | 0, r, _ => .inl rfl
  | s + 1, r, hr => by
    unfold rootF
    by_cases h : l r = -1
    · rw [if_pos h]
      exact .inr ⟨by omega, by omega, by simpa using h⟩
    · rw [if_neg h]
      rcases hl r hr with h1 | h1
      · exact absurd h1 h
      · exact rootF_lt hl s _ (by omega)
set_option maxHeartbeats 1000000 in
theorem root21 (A : Option Addr) (n c r : Nat) (l : Nat → Int) (w : World) (h : Rs w A n (fun i => .int .i32 (l i))) (hn : n ≤ 65536) (hl : Lok n l) (hr : r < n) : Calls Tryd.prog 21 #[.slice A n c, .int .i64 (r : Int)] w fun e w' => e = .returned (.int .i64 (rootF l (n + 1) r)) ∧ w = w' := by
  have HR := Lib.hid h
  have HL := Lib.hid hl
  clear h hl
  go_enter Tryd.func21, Tryd.ntmps21
  go_wp2
  go_loop [5, 6] (fun t i => ∃ k q : Nat, k ≤ n + 1 ∧ i = .int .i64 (k : Int) ∧ t = .int .i64 (q : Int) ∧ q < n ∧ rootF l (n + 1 - k) q = rootF l (n + 1) r) (fun _ i => n + 1 - (intOf i).toNat)
  case atStart => exact ⟨0, r, Nat.zero_le _, rfl, rfl, hr, rfl⟩
  case round =>
    obtain ⟨k, q, hk, rfl, rfl, hq, heq⟩ := hrel
    have HE := Lib.hid heq
    clear heq
    by_cases hlt : k < n + 1
    · obtain ⟨b, off, ha, hb, hcell⟩ := HR.out q hq
      subst ha
      have hv := HL.out q hq
      obtain ⟨x, hx⟩ : ∃ x, x = l q := ⟨_, rfl⟩
      simp only [← hx] at hcell hv
      have HX := Lib.hid hx
      clear hb hx
      have t0 : decide ((k : Int) ≤ (n : Int)) = true := by simp; omega
      have hun : rootF l (n + 1 - k) q = if x = -1 then (q : Int) else rootF l (n + 1 - (k + 1)) x.toNat := by
        rw [show n + 1 - k = (n + 1 - (k + 1)) + 1 by omega]
        show (if l q = -1 then (q : Int) else rootF l (n + 1 - (k + 1)) (l q).toNat) = _
        rw [← HX.out]
      by_cases h1 : x = -1
      · have t1 : (x == -1) = true := by simp [h1]
        rw [if_pos h1] at hun
        have HU := Lib.hid (hun.symm.trans HE.out)
        clear h1 hun hv
        go_wp2
        go_ret
        exact ⟨congrArg (fun x => Ending.returned (Value.int .i64 x)) HU.out, rfl⟩
      · have t1 : (x == -1) = false := by simp [h1]
        rw [if_neg h1] at hun
        have HU := Lib.hid (hun.symm.trans HE.out)
        obtain ⟨q2, rfl⟩ : ∃ q2 : Nat, x = (q2 : Int) := ⟨x.toNat, by omega⟩
        have hq2 : q2 < n := by omega
        have wx : IntKind.i64.wrap (q2 : Int) = (q2 : Int) := IntWalk.i64_in _ (by omega)
        clear h1 hun hv
        go_wp2
        go_round
        case rel => exact ⟨k + 1, q2, by omega, by go_num, rfl, hq2, by simpa using HU.out⟩
        case measure => simp [intOf]; omega
    · obtain rfl : k = n + 1 := by omega
      have t0 : decide (((n + 1 : Nat) : Int) ≤ (n : Int)) = false := by simp; omega
      have HU := Lib.hid (show rootF l (n + 1) r = -1 from by rw [← HE.out, Nat.sub_self]; rfl)
      go_wp2
      go_ret
      exact ⟨congrArg (fun x => Ending.returned (Value.int .i64 x)) HU.out.symm, rfl⟩
def isEnum (k : Int) : Bool := k == 19
/-- Does the root qualify? -/
def qual (l K : Nat → Int) (n : Nat) (ta : Int) (r : Nat) : Bool := decide (0 ≤ rootF l (n + 1) r) && (K (rootF l (n + 1) r).toNat == 19 && ta == rootF l (n + 1) r)
set_option maxHeartbeats 1000000 in
theorem qual24 (A A1 : Option Addr) (n c c1 r : Nat) (l K : Nat → Int) (ta : Int) (w : World) (h0 : Rs w A n (fun i => .int .u8 (K i))) (h : Rs w A1 n (fun i => .int .i32 (l i))) (hn : n ≤ 65536) (hl : Lok n l) (hr : r < n) (ht : -2147483648 ≤ ta ∧ ta ≤ 2147483647) (hrt : 0 ≤ rootF l (n + 1) r) :
    Calls Tryd.prog 24 #[.slice A n c, .slice A1 n c1, .int .i32 ta, .int .u32 (r : Int)] w fun e w' => e = .returned (.bool (qual l K n ta r)) ∧ w = w' := by
  have HR := Lib.hid h0
  have H21 := Lib.hid (root21 A1 n c1 r l w h hn hl hr)
  have hlt := rootF_lt hl (n + 1) r hr
  obtain ⟨q, hq⟩ : ∃ q : Nat, rootF l (n + 1) r = (q : Int) := ⟨(rootF l (n + 1) r).toNat, by omega⟩
  have HQ := Lib.hid (show qual l K n ta r = (K q == 19 && ta == (q : Int)) from by unfold qual; rw [hq]; simp)
  rw [hq] at H21 hlt
  have hqn : q < n := by omega
  obtain ⟨b, off, ha, hb, hcell⟩ := HR.out q hqn
  subst ha
  obtain ⟨k, hk⟩ : ∃ x, x = K q := ⟨_, rfl⟩
  simp only [← hk] at hcell
  rw [← hk] at HQ
  have wr : IntKind.i64.wrap (r : Int) = (r : Int) := IntWalk.i64_in _ (by omega)
  have wt : IntKind.i64.wrap ta = ta := IntWalk.i64_in _ (by omega)
  clear h h0 hl hlt hrt hq hk hb HR
  by_cases h1 : k = 19
  · have t1 : (k == 19) = true := by simp [h1]
    rw [t1] at HQ
    clear h1
    go_enter Tryd.func24, Tryd.ntmps24
    go_wp2_with fail
    refine H21.out.mono ?_
    rintro e w2 ⟨rfl, rfl⟩
    go_wp2_with fail
    go_ret
    exact ⟨by rw [HQ.out]; rfl, rfl⟩
  · have t1 : (k == 19) = false := by simp [h1]
    rw [t1] at HQ
    clear h1
    go_enter Tryd.func24, Tryd.ntmps24
    go_wp2_with fail
    refine H21.out.mono ?_
    rintro e w2 ⟨rfl, rfl⟩
    go_wp2_with fail
    go_ret
    exact ⟨by rw [HQ.out]; rfl, rfl⟩
/-- The index of the wanted value, or -1. -/
def want (l K : Nat → Int) (n : Nat) (ta : Int) (g : Nat → ByteArray) (m : Nat) (imp : Bool) (r : Nat) (x : ByteArray) : Int := if imp && qual l K n ta r then lastK g x m else -1
set_option maxHeartbeats 1000000 in
theorem want18 (A A1 A3 : Option Addr) (n c c1 r m c3 : Nat) (l K : Nat → Int) (g : Nat → ByteArray) (ta : Int) (x : ByteArray) (w : World) (h0 : Rs w A n (fun i => .int .u8 (K i))) (h : Rs w A1 n (fun i => .int .i32 (l i))) (h3 : Rs w A3 m (fun i => .string (g i))) (hn : n ≤ 65536) (hm : m ≤ 65536) (hl : Lok n l) (hr : r < n) (ht : -2147483648 ≤ ta ∧ ta ≤ 2147483647) (hrt : 0 ≤ rootF l (n + 1) r) :
    Calls Tryd.prog 18 #[.slice A n c, .slice A1 n c1, .int .i32 ta, .slice A3 m c3, .bool true, .int .u32 (r : Int), .string x] w fun e w' => e = .returned (.int .i64 (want l K n ta g m true r x)) ∧ w = w' := by
  have H24 := Lib.hid (qual24 A A1 n c c1 r l K ta w h0 h hn hl hr ht hrt)
  have H25 := Lib.hid (last25 A3 m c3 g x w h3 (by omega))
  unfold want
  clear h h0 h3 hl hrt
  cases hq : qual l K n ta r with
  | true =>
    rw [hq] at H24
    go_enter Tryd.func18, Tryd.ntmps18
    go_wp2_with fail
    refine H24.out.mono ?_
    rintro e w2 ⟨rfl, rfl⟩
    go_wp2_with fail
    refine H25.out.mono ?_
    rintro e w2 ⟨rfl, rfl⟩
    go_wp2_with fail
    go_ret
    exact ⟨rfl, rfl⟩
  | false =>
    rw [hq] at H24
    go_enter Tryd.func18, Tryd.ntmps18
    go_wp2_with fail
    refine H24.out.mono ?_
    rintro e w2 ⟨rfl, rfl⟩
    go_wp2_with fail
    go_ret
    exact ⟨rfl, rfl⟩
theorem want18n (a0 a1 a3 : Value) (ta rv : Int) (x : ByteArray) (w : World) : Calls Tryd.prog 18 #[a0, a1, .int .i32 ta, a3, .bool false, .int .u32 rv, .string x] w fun e w' => e = .returned (.int .i64 (-1)) ∧ w = w' := by
  go_enter Tryd.func18, Tryd.ntmps18
  go_wp2
  go_ret
  exact ⟨rfl, rfl⟩
/-- The shape. -/
def Shp (w : World) (n0 n1 n3 n4 n5 : Nat) (l : Nat → Int) (imp : Bool) (r : Nat) (e : Ending) (w' : World) : Prop :=
  ∃ b, e = .returned (.bool b) ∧ (b = true → n4 = n3 ∧ n5 = n3 ∧ (imp = true → n1 = n0 ∧ r < n0 ∧ Lok n0 l ∧ 0 ≤ rootF l (n0 + 1) r)) ∧ w = w'
set_option maxHeartbeats 2000000 in
theorem shape7 (A0 A1 A3 A4 A5 : Option Addr) (n0 c0 n1 c1 n3 c3 n4 c4 n5 c5 r : Nat) (l : Nat → Int) (imp : Bool) (w : World) (h : Rs w A1 n1 (fun i => .int .i32 (l i))) (b0 : n0 ≤ 65536) (b1 : n1 ≤ 65536) (b3 : n3 ≤ 65536) (b4 : n4 ≤ 65536) (b5 : n5 ≤ 65536) (hr : r ≤ 4294967295) (hl : ∀ i, -2147483648 ≤ l i ∧ l i ≤ 2147483647) :
    Calls Tryd.prog 7 #[.slice A0 n0 c0, .slice A1 n1 c1, .slice A3 n3 c3, .slice A4 n4 c4, .slice A5 n5 c5, .bool imp, .int .u32 (r : Int)] w (Shp w n0 n1 n3 n4 n5 l imp r) := by
  have H := Lib.hid h
  have HL := Lib.hid hl
  clear h hl
  by_cases e4 : n4 = n3
  case neg =>
    have f4 : ((n4 : Int) != (n3 : Int)) = true := by simp; omega
    go_enter Tryd.func7, Tryd.ntmps7
    go_wp2_with fail
    go_ret
    exact ⟨_, rfl, (fun h => by cases h), rfl⟩
  subst e4
  have f4 : ((n4 : Int) != (n4 : Int)) = false := by simp
  by_cases e5 : n5 = n4
  case neg =>
    have f5 : ((n5 : Int) != (n4 : Int)) = true := by simp; omega
    go_enter Tryd.func7, Tryd.ntmps7
    go_wp2_with fail
    go_ret
    exact ⟨_, rfl, (fun h => by cases h), rfl⟩
  subst e5
  cases imp with
  | false =>
    go_enter Tryd.func7, Tryd.ntmps7
    go_wp2_with fail
    go_ret
    exact ⟨_, rfl, fun _ => ⟨rfl, rfl, fun h => by cases h⟩, rfl⟩
  | true =>
    by_cases e1 : n1 = n0
    case neg =>
      have f1 : ((n1 : Int) != (n0 : Int)) = true := by simp; omega
      go_enter Tryd.func7, Tryd.ntmps7
      go_wp2_with fail
      go_ret
      exact ⟨_, rfl, (fun h => by cases h), rfl⟩
    subst e1
    have f1 : ((n1 : Int) != (n1 : Int)) = false := by simp
    have wr : IntKind.i64.wrap (r : Int) = (r : Int) := IntWalk.i64_in _ (by omega)
    by_cases er : n1 ≤ r
    · have f2 : decide ((n1 : Int) ≤ (r : Int)) = true := by simp; omega
      go_enter Tryd.func7, Tryd.ntmps7
      go_wp2_with fail
      go_ret
      exact ⟨_, rfl, (fun h => by cases h), rfl⟩
    · have f2 : decide ((n1 : Int) ≤ (r : Int)) = false := by simp; omega
      go_enter Tryd.func7, Tryd.ntmps7
      go_wp2_with fail
      refine (links20 A1 n1 c1 l w H.out b1 HL.out).mono ?_
      rintro e w2 ⟨b, rfl, hb, rfl⟩
      cases b with
      | false =>
        clear hb
        go_wp2_with fail
        go_ret
        exact ⟨_, rfl, (fun h => by cases h), rfl⟩
      | true =>
        have HB := Lib.hid (hb rfl)
        clear hb
        go_wp2_with fail
        refine (root21 A1 n1 c1 r l w H.out b1 HB.out (by omega)).mono ?_
        rintro e w2 ⟨rfl, rfl⟩
        obtain ⟨x, hx⟩ : ∃ x, x = rootF l (n1 + 1) r := ⟨_, rfl⟩
        rw [← hx]
        have HX := Lib.hid hx
        clear hx
        go_wp2_with fail
        go_ret
        exact ⟨_, rfl, fun h => ⟨rfl, rfl, fun _ => ⟨rfl, by omega, HB.out, by rw [← HX.out]; simpa using h⟩⟩, rfl⟩
set_option maxHeartbeats 2000000 in
theorem is19 (V A5 : Option Addr) (L C n j c4 c5 : Nat) (f : Nat) (A4 : Option Addr) (fl : Nat → Nat) (Ar : Nat → Option Addr) (Ls Cs : Nat → Nat) (Z : Nat → Nat → Int) (w : World) (h4 : Rs w A4 n (fun i => .float .f64 (fl i))) (h5 : Rw w A5 n Ar Ls Cs Z) (hj : j < n) (hV : V = Ar j) (hL : L = Ls j) (hC : C = Cs j) (hf : f = fl j) (hn : n ≤ 65536) (hLb : L ≤ 1048576) :
    Calls Tryd.prog 19 #[.agg #[.slice V L C, .float .f64 f], .int .i64 (j : Int), .slice A4 n c4, .slice A5 n c5] w fun e w' => e = .returned (.bool true) ∧ Below w.heap.size w w' := by
  obtain ⟨b4, o4, ha4, hb4, hc4⟩ := h4 j hj
  obtain ⟨b5, o5, ha5, hb5, hc5⟩ := h5.hd j hj
  have hrow := h5.row j hj
  subst ha4 ha5
  simp only [← hV, ← hL, ← hC] at hc5 hrow
  simp only [← hf] at hc4
  have hal : Below w.heap.size w (w.alloc (.cells #[.slice V L C, .float .f64 f] 46)) := (Below.refl _ _).alloc (Nat.le_refl _) _
  have r0 := Row.newArr w 46 #[.slice V L C, .float .f64 f]
  have e0 := r0.at_ (i := 0) rfl
  have e1 := r0.at_ (i := 1) rfl
  have d4 := cell_later hal hc4
  have d5 := cell_later hal hc5
  have HROW := Lib.hid (hrow.later hal)
  have HB := Lib.hid hal
  have hneg : decide ((j : Int) < 0) = false := by simp
  have i1 : (j : Int) < (n : Int) := by omega
  have i0 : (0 : Int) ≤ (j : Int) := by omega
  clear h4 h5 hc4 hc5 hb4 hb5 hrow hal r0 hV hL hC hf
  go_enter Tryd.func19, Tryd.ntmps19
  go_wp2_with fail
  go_region_held3 (fun w' => w'.cell? ⟨w.heap.size, 0, none⟩ = some (.slice V L C) ∧ w'.cell? ⟨b5, o5 + j, none⟩ = some (.slice V L C) ∧ w'.cell? ⟨w.heap.size, 1, none⟩ = some (.float .f64 f) ∧ w'.cell? ⟨b4, o4 + j, none⟩ = some (.float .f64 f)) (first | exact ⟨e0, d5, e1, d4⟩ | exact HK.out)
    (first | (go_at_call 27; (with_reducible refine (same27 V L C _ _ (Rs.drew HROW.out) hLb).mono ?_); rintro e w2 ⟨rfl, m, rfl⟩; have HK := Lib.hid (show _ ∧ _ ∧ _ ∧ _ from ⟨e0, d5, e1, d4⟩))
           | (go_at_call 28; (with_reducible refine (same28 f _).mono ?_); rintro e w2 ⟨rfl, rfl⟩))
  go_wp2_with fail
  go_ret
  exact ⟨rfl, below_drewN HB.out _⟩
end Go.Proofs.YtnjjenellkpkaaaDoor.TeB
