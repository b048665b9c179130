/- FnMultiLineCommaPeriodCaseTable: the program, and the law. -/
import Derived.Test.YtdplbdfaeighlaaDoorRows
import Derived.Test.YtdplbdfaeighlaaDoorMem
import Derived.Test.YtdplbdfaeighlaaDoorSl
import Derived.Test.YtdplbdfaeighlaaDoorMcA
import Derived.Test.YtdplbdfaeighlaaDoorShelf
import Derived.Test.YtdplbdfaeighlaaDoorVars
import Derived.Test.YtdplbdfaeighlaaDoorStep
import Derived.Lib.LaidCase
import Derived.Lib.LaidU8
import Derived.OwnWalk
import Derived.Deep.MidRow
import Derived.Great.BuildSlice
import Derived.WalkKit
import Derived.ProofKit
import Derived.OpenShut
import Derived.Below
import Derived.WalkLawsBesides
import Derived.Lib.Hide
import Derived.Outline
import Derived.RegionTactic
import Derived.Deep.QuietTactic
import Derived.BigQuiet
import Derived.WalkSpells
import Derived.Deep.OwnRows
import Derived.IntWalk
import Derived.Deep.DeepMust
namespace Go.Proofs.YtdplbdfaeighlaaDoor.McB
open Go.RowKit Mem Sl
set_option linter.unusedVariables false
open Own Args McA
def t1 (S : ByteArray) : Bool := S.toList == [108, 105, 110, 101, 97, 114, 45, 103, 114, 97, 100, 105, 101, 110, 116]
def t2 (S : ByteArray) : Bool := S.toList == [114, 97, 100, 105, 97, 108, 45, 103, 114, 97, 100, 105, 101, 110, 116]
def t3 (S : ByteArray) : Bool := S.toList == [99, 111, 110, 105, 99, 45, 103, 114, 97, 100, 105, 101, 110, 116]
def t4 (S : ByteArray) : Bool := S.toList == [114, 101, 112, 101, 97, 116, 105, 110, 103, 45, 108, 105, 110, 101, 97, 114, 45, 103, 114, 97, 100, 105, 101, 110, 116]
def t5 (S : ByteArray) : Bool := S.toList == [114, 101, 112, 101, 97, 116, 105, 110, 103, 45, 114, 97, 100, 105, 97, 108, 45, 103, 114, 97, 100, 105, 101, 110, 116]
def t6 (S : ByteArray) : Bool := S.toList == [114, 101, 112, 101, 97, 116, 105, 110, 103, 45, 99, 111, 110, 105, 99, 45, 103, 114, 97, 100, 105, 101, 110, 116]
def t7 (S : ByteArray) : Bool := S.toList == [109, 97, 116, 114, 105, 120]
def t8 (S : ByteArray) : Bool := S.toList == [109, 97, 116, 114, 105, 120, 51, 100]
/-- The class of a name: a gradient, matrix, matrix3d, none of them. -/
def cls (S : ByteArray) : Int := if (t1 S || t2 S || t3 S || t4 S || t5 S || t6 S) = true then 1 else if t7 S = true then 2 else if t8 S = true then 3 else 0
def per (c : Int) (m : Nat) : Int := if c = 1 ∧ 2 ≤ m then 1 else if c = 2 ∧ m = 5 then 2 else if c = 3 ∧ m = 15 then 4 else 0
set_option maxHeartbeats 2000000 in
theorem class8 (S : ByteArray) (w : World) : Calls Tryd.prog 8 #[.string S] w fun e w' => e = .returned (.int .i64 (cls S)) ∧ w = w' := by
  cases h1 : t1 S with
  | true =>
    have hc : cls S = 1 := by simp [cls, h1]
    have HC := Lib.hid hc
    clear hc
    unfold t1 at h1
    go_enter Tryd.func8, Tryd.ntmps8
    go_wp2_with fail
    go_ret
    exact ⟨ret_int HC.out.symm, rfl⟩
  | false =>
    cases h2 : t2 S with
    | true =>
      have hc : cls S = 1 := by simp [cls, h1, h2]
      have HC := Lib.hid hc
      clear hc
      unfold t1 at h1; unfold t2 at h2
      go_enter Tryd.func8, Tryd.ntmps8
      go_wp2_with fail
      go_ret
      exact ⟨ret_int HC.out.symm, rfl⟩
    | false =>
      cases h3 : t3 S with
      | true =>
        have hc : cls S = 1 := by simp [cls, h1, h2, h3]
        have HC := Lib.hid hc
        clear hc
        unfold t1 at h1; unfold t2 at h2; unfold t3 at h3
        go_enter Tryd.func8, Tryd.ntmps8
        go_wp2_with fail
        go_ret
        exact ⟨ret_int HC.out.symm, rfl⟩
      | false =>
        cases h4 : t4 S with
        | true =>
          have hc : cls S = 1 := by simp [cls, h1, h2, h3, h4]
          have HC := Lib.hid hc
          clear hc
          unfold t1 at h1; unfold t2 at h2; unfold t3 at h3; unfold t4 at h4
          go_enter Tryd.func8, Tryd.ntmps8
          go_wp2_with fail
          go_ret
          exact ⟨ret_int HC.out.symm, rfl⟩
        | false =>
          cases h5 : t5 S with
          | true =>
            have hc : cls S = 1 := by simp [cls, h1, h2, h3, h4, h5]
            have HC := Lib.hid hc
            clear hc
            unfold t1 at h1; unfold t2 at h2; unfold t3 at h3; unfold t4 at h4; unfold t5 at h5
            go_enter Tryd.func8, Tryd.ntmps8
            go_wp2_with fail
            go_ret
            exact ⟨ret_int HC.out.symm, rfl⟩
          | false =>
            cases h6 : t6 S with
            | true =>
              have hc : cls S = 1 := by simp [cls, h1, h2, h3, h4, h5, h6]
              have HC := Lib.hid hc
              clear hc
              unfold t1 at h1; unfold t2 at h2; unfold t3 at h3; unfold t4 at h4; unfold t5 at h5; unfold t6 at h6
              go_enter Tryd.func8, Tryd.ntmps8
              go_wp2_with fail
              go_ret
              exact ⟨ret_int HC.out.symm, rfl⟩
            | false =>
              cases h7 : t7 S with
              | true =>
                have hc : cls S = 2 := by simp [cls, h1, h2, h3, h4, h5, h6, h7]
                have HC := Lib.hid hc
                clear hc
                unfold t1 at h1; unfold t2 at h2; unfold t3 at h3; unfold t4 at h4; unfold t5 at h5; unfold t6 at h6; unfold t7 at h7
                go_enter Tryd.func8, Tryd.ntmps8
                go_wp2_with fail
                go_ret
                exact ⟨ret_int HC.out.symm, rfl⟩
              | false =>
                cases h8 : t8 S with
                | true =>
                  have hc : cls S = 3 := by simp [cls, h1, h2, h3, h4, h5, h6, h7, h8]
                  have HC := Lib.hid hc
                  clear hc
                  unfold t1 at h1; unfold t2 at h2; unfold t3 at h3; unfold t4 at h4; unfold t5 at h5; unfold t6 at h6; unfold t7 at h7; unfold t8 at h8
                  go_enter Tryd.func8, Tryd.ntmps8
                  go_wp2_with fail
                  go_ret
                  exact ⟨ret_int HC.out.symm, rfl⟩
                | false =>
                  have hc : cls S = 0 := by simp [cls, h1, h2, h3, h4, h5, h6, h7, h8]
                  have HC := Lib.hid hc
                  clear hc
                  unfold t1 at h1; unfold t2 at h2; unfold t3 at h3; unfold t4 at h4; unfold t5 at h5; unfold t6 at h6; unfold t7 at h7; unfold t8 at h8
                  go_enter Tryd.func8, Tryd.ntmps8
                  go_wp2_with fail
                  go_ret
                  exact ⟨ret_int HC.out.symm, rfl⟩
theorem case_later {g : Nat} {T : Array Lib.CaseRow} {w w' : World} (h : Lib.CaseVar g T w) (hb : Below w.heap.size w w') : Lib.CaseVar g T w' := by
  have lt : ∀ {a : Addr} {v : Value}, w.cell? a = some v → w'.cell? a = some v := by
    intro a v hc
    have : a.block < w.heap.size := cell_lt hc
    rw [hb.cell this]; exact hc
  obtain ⟨R, oR, cap, h1, h2⟩ := h
  refine ⟨R, oR, cap, lt h1, ?_⟩
  intro i hi
  obtain ⟨a1, a2, a3, a4, a5⟩ := h2 i hi
  exact ⟨lt a1, lt a2, lt a3, lt a4, lt a5⟩
def low (nm : ByteArray) : ByteArray := ⟨(Lib.toLowerD nm.data.toList).toArray⟩
set_option maxHeartbeats 4000000 in
set_option maxRecDepth 100000 in
theorem per10 (nm : ByteArray) (g q n : Nat) (zs : List Int) (w : World) (base : Nat) (hq : w.cell? ⟨q, 0, none⟩ = some (.slice (some ⟨g, 0, none⟩) n n)) (hown : w.ownsRow base 35 7 (.slice (some ⟨g, 0, none⟩) n n) n (tks zs))
    (hl : zs.length = n) (hn : n ≤ 65536) (hs : nm.size ≤ 65536) (hV : Lib.CaseVar 0 Lib.caseA w) (hT : Lib.Utf8Tabs 2 3 w) :
    Calls Tryd.prog 10 #[.agg #[.pointer (some ⟨q, 0, none⟩), .string nm, .int .i32 0, .int .u32 0, .int .u16 0, .int .u8 27, .int .u8 0]] w fun e w' => e = .returned (.int .u8 (per (cls (low nm)) (cms zs))) ∧ Below w.heap.size w w' := by
  obtain ⟨W1, hW1⟩ : ∃ W1, w.alloc (.cells #[.pointer (some ⟨q, 0, none⟩), .string nm, .int .i32 0, .int .u32 0, .int .u16 0, .int .u8 27, .int .u8 0] 35) = W1 := ⟨_, rfl⟩
  have hrow := Row.newArr w 35 #[.pointer (some ⟨q, 0, none⟩), .string nm, .int .i32 0, .int .u32 0, .int .u16 0, .int .u8 27, .int .u8 0]
  have hb1 : Below w.heap.size w (w.alloc (.cells #[.pointer (some ⟨q, 0, none⟩), .string nm, .int .i32 0, .int .u32 0, .int .u16 0, .int .u8 27, .int .u8 0] 35)) := (Below.refl _ _).alloc (Nat.le_refl _) _
  rw [hW1] at hrow hb1
  have hz1 : W1.heap.size = w.heap.size + 1 := by rw [← hW1]; simp
  have hq1 := cell_later hb1 hq
  have HOWN := Lib.hid (owns_below hown hb1 (Nat.le_refl _))
  have HV := Lib.hid (case_later hV hb1)
  have HT := Lib.hid (Step.tabs_later hT hb1)
  have c0 := hrow.at_ (i := 0) rfl
  have c5 := hrow.at_ (i := 5) rfl
  have HROW := Lib.hid hrow
  have HB1 := Lib.hid hb1
  have HW := Lib.hid hW1
  have HZ1 := Lib.hid hz1
  have HL := Lib.hid hl
  have HQ1 := Lib.hid hq1
  have hqlt : q < w.heap.size := cell_lt hq
  have hne : ¬ q = w.heap.size := by omega
  clear hW1 hrow hb1 hz1 hq1 hown hV hT hl
  go_enter Tryd.func10, Tryd.ntmps10
  go_wp2_with fail
  rw [HW.out]
  go_loopw [3, 14] (fun cm i wr => ∃ (k : Nat) (wv : World), wv = wr ∧ k ≤ n ∧ i = .int .i64 (k : Int) ∧ cm = .int .i64 (cms (zs.take k) : Nat) ∧ Below W1.heap.size W1 wr) (fun _ i _ => n - (intOf i).toNat)
  case atStart => exact ⟨0, _, rfl, Nat.zero_le _, rfl, rfl, Below.refl _ _⟩
  case round =>
    obtain ⟨k, wx, rfl, hk, rfl, rfl, hbel⟩ := hrel
    have HBQ := Lib.hid hbel
    clear hbel
    by_cases hlt : k < n
    · have hown := owns_below HOWN.out HBQ.out (Nat.le_refl _)
      obtain ⟨x, hx⟩ : ∃ x, x = zs.getD k 0 := ⟨_, rfl⟩
      have hat : ∀ j, j < 7 → wx.cell? ⟨g, k * 7 + j, none⟩ = (tk (tx x) (kd x))[j]? := by
        intro j hj
        rw [hown.cellAt (k * 7 + j) (by have := HL.out; omega), tks_at zs k j (by have := HL.out; omega) hj, ← hx]
      have d0 := hat 0 (by omega)
      have d1 := hat 1 (by omega)
      have d2 := hat 2 (by omega)
      have d3 := hat 3 (by omega)
      have d4 := hat 4 (by omega)
      have d5 := hat 5 (by omega)
      have d6 := hat 6 (by omega)
      simp only [tk, List.getElem?_cons_zero, List.getElem?_cons_succ, Nat.add_zero] at d0 d1 d2 d3 d4 d5 d6
      have HCM := Lib.hid (cms_snoc zs k (by have := HL.out; omega))
      rw [← hx] at HCM
      have hcl := cms_le (zs.take k)
      rw [List.length_take] at hcl
      have hcl2 : cms (zs.take k) ≤ 65536 := by omega
      obtain ⟨m, hm⟩ : ∃ m, m = cms (zs.take k) := ⟨_, rfl⟩
      rw [← hm] at HCM hcl2 ⊢
      have hkk : x % 4 = 0 ↔ kd x = 10 := by unfold kd; omega
      obtain ⟨y, hy⟩ : ∃ y, y = kd x := ⟨_, rfl⟩
      rw [← hy] at d5 hkk
      have HKK := Lib.hid hkk
      clear hown hx hat hcl hm hkk hy
      by_cases h10 : y = 10
      all_goals
        obtain ⟨tb, t0⟩ : ∃ tb, ((y : Int) == 10) = tb := ⟨_, rfl⟩
        have u0 : decide (y = 10) = tb := t0
        simp only [h10, decide_true, decide_false] at u0
        subst u0
        have H4 := Lib.hid (Iff.trans HKK.out (Iff.of_eq rfl))
        have H10 := Lib.hid h10
        clear h10
        go_wp2_with fail
        go_roundw
        case rel => exact ⟨k + 1, _, rfl, by omega, by go_num, (by rw [HCM.out]; first | (rw [if_pos (H4.out.2 H10.out)]; go_num) | (rw [if_neg (fun h => H10.out (H4.out.1 h))]; go_num)), HBQ.out.alloc HBQ.out.size _⟩
        case measure => simp [intOf]; omega
    · obtain rfl : k = n := by omega
      have hfull : zs.take k = zs := List.take_of_length_le (by have := HL.out; omega)
      rw [hfull]
      have hml := cms_le zs
      rw [HL.out] at hml
      obtain ⟨m, hm⟩ : ∃ m, m = cms zs := ⟨_, rfl⟩
      rw [← hm] at hml ⊢
      have c1 := (HROW.out.below HBQ.out HROW.out.lt).at_ (i := 1) rfl
      obtain ⟨S, hS⟩ : ∃ S, S = low nm := ⟨_, rfl⟩
      have K11 := Lib.hid (Tryd.strings_ToLower_any nm wx (by omega) (case_later HV.out HBQ.out) (Step.tabs_later HT.out HBQ.out))
      have HBW := Lib.hid (HB1.out.trans (HBQ.out.mono (by have := HZ1.out; omega)))
      have HSS := Lib.hid hS
      have HM := Lib.hid hm
      clear hfull hm hS
      go_wp2_with fail
      refine K11.out.mono ?_
      rintro e w3 ⟨rfl, hb3⟩
      rw [show (⟨(Lib.toLowerD nm.data.toList).toArray⟩ : ByteArray) = S from HSS.out.symm]
      have HB3 := Lib.hid (HBW.out.trans (hb3.mono HBW.out.size))
      clear hb3
      cases h1 : t1 S with
      | true =>
        have hc : cls S = 1 := by simp [cls, h1]
        have HC := Lib.hid hc
        clear hc
        unfold t1 at h1
        by_cases hp : 2 ≤ m
        · have tp : decide (2 ≤ (m : Int)) = true := by simp; omega
          have HP := Lib.hid hp
          clear hp
          go_wp2_with fail
          go_ret
          exact ⟨ret_int (by rw [← HSS.out, ← HM.out, HC.out]; have hp := HP.out; simp [per, hp]), HB3.out⟩
        · have tp : decide (2 ≤ (m : Int)) = false := by simp; omega
          have HP := Lib.hid hp
          clear hp
          go_wp2_with fail
          go_ret
          exact ⟨ret_int (by rw [← HSS.out, ← HM.out, HC.out]; have hp := HP.out; simp [per, hp]), HB3.out⟩
      | false =>
        cases h2 : t2 S with
        | true =>
          have hc : cls S = 1 := by simp [cls, h1, h2]
          have HC := Lib.hid hc
          clear hc
          unfold t1 at h1; unfold t2 at h2
          by_cases hp : 2 ≤ m
          · have tp : decide (2 ≤ (m : Int)) = true := by simp; omega
            have HP := Lib.hid hp
            clear hp
            go_wp2_with fail
            go_ret
            exact ⟨ret_int (by rw [← HSS.out, ← HM.out, HC.out]; have hp := HP.out; simp [per, hp]), HB3.out⟩
          · have tp : decide (2 ≤ (m : Int)) = false := by simp; omega
            have HP := Lib.hid hp
            clear hp
            go_wp2_with fail
            go_ret
            exact ⟨ret_int (by rw [← HSS.out, ← HM.out, HC.out]; have hp := HP.out; simp [per, hp]), HB3.out⟩
        | false =>
          cases h3 : t3 S with
          | true =>
            have hc : cls S = 1 := by simp [cls, h1, h2, h3]
            have HC := Lib.hid hc
            clear hc
            unfold t1 at h1; unfold t2 at h2; unfold t3 at h3
            by_cases hp : 2 ≤ m
            · have tp : decide (2 ≤ (m : Int)) = true := by simp; omega
              have HP := Lib.hid hp
              clear hp
              go_wp2_with fail
              go_ret
              exact ⟨ret_int (by rw [← HSS.out, ← HM.out, HC.out]; have hp := HP.out; simp [per, hp]), HB3.out⟩
            · have tp : decide (2 ≤ (m : Int)) = false := by simp; omega
              have HP := Lib.hid hp
              clear hp
              go_wp2_with fail
              go_ret
              exact ⟨ret_int (by rw [← HSS.out, ← HM.out, HC.out]; have hp := HP.out; simp [per, hp]), HB3.out⟩
          | false =>
            cases h4 : t4 S with
            | true =>
              have hc : cls S = 1 := by simp [cls, h1, h2, h3, h4]
              have HC := Lib.hid hc
              clear hc
              unfold t1 at h1; unfold t2 at h2; unfold t3 at h3; unfold t4 at h4
              by_cases hp : 2 ≤ m
              · have tp : decide (2 ≤ (m : Int)) = true := by simp; omega
                have HP := Lib.hid hp
                clear hp
                go_wp2_with fail
                go_ret
                exact ⟨ret_int (by rw [← HSS.out, ← HM.out, HC.out]; have hp := HP.out; simp [per, hp]), HB3.out⟩
              · have tp : decide (2 ≤ (m : Int)) = false := by simp; omega
                have HP := Lib.hid hp
                clear hp
                go_wp2_with fail
                go_ret
                exact ⟨ret_int (by rw [← HSS.out, ← HM.out, HC.out]; have hp := HP.out; simp [per, hp]), HB3.out⟩
            | false =>
              cases h5 : t5 S with
              | true =>
                have hc : cls S = 1 := by simp [cls, h1, h2, h3, h4, h5]
                have HC := Lib.hid hc
                clear hc
                unfold t1 at h1; unfold t2 at h2; unfold t3 at h3; unfold t4 at h4; unfold t5 at h5
                by_cases hp : 2 ≤ m
                · have tp : decide (2 ≤ (m : Int)) = true := by simp; omega
                  have HP := Lib.hid hp
                  clear hp
                  go_wp2_with fail
                  go_ret
                  exact ⟨ret_int (by rw [← HSS.out, ← HM.out, HC.out]; have hp := HP.out; simp [per, hp]), HB3.out⟩
                · have tp : decide (2 ≤ (m : Int)) = false := by simp; omega
                  have HP := Lib.hid hp
                  clear hp
                  go_wp2_with fail
                  go_ret
                  exact ⟨ret_int (by rw [← HSS.out, ← HM.out, HC.out]; have hp := HP.out; simp [per, hp]), HB3.out⟩
              | false =>
                cases h6 : t6 S with
                | true =>
                  have hc : cls S = 1 := by simp [cls, h1, h2, h3, h4, h5, h6]
                  have HC := Lib.hid hc
                  clear hc
                  unfold t1 at h1; unfold t2 at h2; unfold t3 at h3; unfold t4 at h4; unfold t5 at h5; unfold t6 at h6
                  by_cases hp : 2 ≤ m
                  · have tp : decide (2 ≤ (m : Int)) = true := by simp; omega
                    have HP := Lib.hid hp
                    clear hp
                    go_wp2_with fail
                    go_ret
                    exact ⟨ret_int (by rw [← HSS.out, ← HM.out, HC.out]; have hp := HP.out; simp [per, hp]), HB3.out⟩
                  · have tp : decide (2 ≤ (m : Int)) = false := by simp; omega
                    have HP := Lib.hid hp
                    clear hp
                    go_wp2_with fail
                    go_ret
                    exact ⟨ret_int (by rw [← HSS.out, ← HM.out, HC.out]; have hp := HP.out; simp [per, hp]), HB3.out⟩
                | false =>
                  cases h7 : t7 S with
                  | true =>
                    have hc : cls S = 2 := by simp [cls, h1, h2, h3, h4, h5, h6, h7]
                    have HC := Lib.hid hc
                    clear hc
                    unfold t1 at h1; unfold t2 at h2; unfold t3 at h3; unfold t4 at h4; unfold t5 at h5; unfold t6 at h6; unfold t7 at h7
                    by_cases hp : m = 5
                    · have tp : ((m : Int) == 5) = true := by simp; omega
                      have HP := Lib.hid hp
                      clear hp
                      go_wp2_with fail
                      go_ret
                      exact ⟨ret_int (by rw [← HSS.out, ← HM.out, HC.out]; have hp := HP.out; simp [per, hp]), HB3.out⟩
                    · have tp : ((m : Int) == 5) = false := by simp; omega
                      have HP := Lib.hid hp
                      clear hp
                      go_wp2_with fail
                      go_ret
                      exact ⟨ret_int (by rw [← HSS.out, ← HM.out, HC.out]; have hp := HP.out; simp [per, hp]), HB3.out⟩
                  | false =>
                    cases h8 : t8 S with
                    | true =>
                      have hc : cls S = 3 := by simp [cls, h1, h2, h3, h4, h5, h6, h7, h8]
                      have HC := Lib.hid hc
                      clear hc
                      unfold t1 at h1; unfold t2 at h2; unfold t3 at h3; unfold t4 at h4; unfold t5 at h5; unfold t6 at h6; unfold t7 at h7; unfold t8 at h8
                      by_cases hp : m = 15
                      · have tp : ((m : Int) == 15) = true := by simp; omega
                        have HP := Lib.hid hp
                        clear hp
                        go_wp2_with fail
                        go_ret
                        exact ⟨ret_int (by rw [← HSS.out, ← HM.out, HC.out]; have hp := HP.out; simp [per, hp]), HB3.out⟩
                      · have tp : ((m : Int) == 15) = false := by simp; omega
                        have HP := Lib.hid hp
                        clear hp
                        go_wp2_with fail
                        go_ret
                        exact ⟨ret_int (by rw [← HSS.out, ← HM.out, HC.out]; have hp := HP.out; simp [per, hp]), HB3.out⟩
                    | false =>
                      have hc : cls S = 0 := by simp [cls, h1, h2, h3, h4, h5, h6, h7, h8]
                      have HC := Lib.hid hc
                      clear hc
                      unfold t1 at h1; unfold t2 at h2; unfold t3 at h3; unfold t4 at h4; unfold t5 at h5; unfold t6 at h6; unfold t7 at h7; unfold t8 at h8
                      go_wp2_with fail
                      go_ret
                      exact ⟨ret_int (by rw [← HSS.out, HC.out]; rfl), HB3.out⟩
theorem plain10 (nm : ByteArray) (p : Value) (w : World) :
    Calls Tryd.prog 10 #[.agg #[p, .string nm, .int .i32 0, .int .u32 0, .int .u16 0, .int .u8 29, .int .u8 0]] w fun e w' => e = .returned (.int .u8 0) ∧ Below w.heap.size w w' := by
  go_enter Tryd.func10, Tryd.ntmps10
  go_wp2
  go_ret
  exact ⟨rfl, (Below.refl _ _).alloc (Nat.le_refl _) _⟩
set_option maxHeartbeats 1000000 in
theorem plain6 (nm : ByteArray) (q : Nat) (w : World) :
    Calls Tryd.prog 6 #[.agg #[.pointer (some ⟨q, 0, none⟩), .string nm, .int .i32 0, .int .u32 0, .int .u16 0, .int .u8 29, .int .u8 0]] w fun e w' => e = .returned (.int .u8 0) ∧ Below w.heap.size w w' := by
  go_enter Tryd.func6, Tryd.ntmps6
  go_wp2_with (go_at_call 10; refine (plain10 nm _ _).mono ?_; rintro e w1 ⟨rfl, hb1⟩)
  go_ret
  exact ⟨rfl, ((Below.refl _ _).alloc (Nat.le_refl _) _).trans (hb1.mono (by simp))⟩
set_option maxHeartbeats 1000000 in
theorem per6 (nm : ByteArray) (g q n : Nat) (zs : List Int) (w : World) (base : Nat) (hq : w.cell? ⟨q, 0, none⟩ = some (.slice (some ⟨g, 0, none⟩) n n)) (hown : w.ownsRow base 35 7 (.slice (some ⟨g, 0, none⟩) n n) n (tks zs))
    (hl : zs.length = n) (hn : n ≤ 65536) (hs : nm.size ≤ 65536) (hV : Lib.CaseVar 0 Lib.caseA w) (hT : Lib.Utf8Tabs 2 3 w) :
    Calls Tryd.prog 6 #[.agg #[.pointer (some ⟨q, 0, none⟩), .string nm, .int .i32 0, .int .u32 0, .int .u16 0, .int .u8 27, .int .u8 0]] w fun e w' => e = .returned (.int .u8 (per (cls (low nm)) (cms zs))) ∧ Below w.heap.size w w' := by
  have hb : Below w.heap.size w (w.alloc (.cells #[.pointer (some ⟨q, 0, none⟩), .string nm, .int .i32 0, .int .u32 0, .int .u16 0, .int .u8 27, .int .u8 0] 35)) := (Below.refl _ _).alloc (Nat.le_refl _) _
  have K := Lib.hid (per10 nm g q n zs _ base (cell_later hb hq) (owns_below hown hb (Nat.le_refl _)) hl hn hs (case_later hV hb) (Step.tabs_later hT hb))
  have HB := Lib.hid hb
  clear hb hq hown hV hT hl
  go_enter Tryd.func6, Tryd.ntmps6
  go_wp2_with (go_at_call 10; refine K.out.mono ?_; rintro e w1 ⟨rfl, hb1⟩)
  go_ret
  exact ⟨rfl, HB.out.trans (hb1.mono (by simp))⟩
/-- Where the law's own folding holds, it gives the library's lower case. -/
theorem fold_low {nm R : ByteArray} (h : Fold.foldN nm.data.toList = some R.data.toList) : low nm = R := by
  have := Fold.fold_some _ _ _ (Nat.le_refl _) h
  unfold low
  rw [this]
/-- Where it fails, no name of the table is met. -/
theorem fold_bad {nm : ByteArray} (h : Fold.foldN nm.data.toList = none) : cls (low nm) = 0 := by
  obtain ⟨b, hb, hb'⟩ := Fold.fold_none _ _ (Nat.le_refl _) h
  have key : ∀ l : List UInt8, (∀ x ∈ l, x.toNat < 128 ∧ x ≠ 107) → ((low nm).toList == l) = false := by
    intro l hl
    rw [Lib.toList_data]
    apply beq_eq_false_iff_ne.2
    intro e
    have hm : b ∈ l := by rw [← e]; simpa [low] using hb
    obtain ⟨h1, h2⟩ := hl b hm
    rcases hb' with h | h
    · omega
    · exact h2 h
  have e1 : t1 (low nm) = false := key _ (by decide)
  have e2 : t2 (low nm) = false := key _ (by decide)
  have e3 : t3 (low nm) = false := key _ (by decide)
  have e4 : t4 (low nm) = false := key _ (by decide)
  have e5 : t5 (low nm) = false := key _ (by decide)
  have e6 : t6 (low nm) = false := key _ (by decide)
  have e7 : t7 (low nm) = false := key _ (by decide)
  have e8 : t8 (low nm) = false := key _ (by decide)
  simp [cls, e1, e2, e3, e4, e5, e6, e7, e8]
theorem cls_le (S : ByteArray) : cls S = 0 ∨ cls S = 1 ∨ cls S = 2 ∨ cls S = 3 := by
  unfold cls
  split
  · simp
  · split
    · simp
    · split <;> simp
def Tabs (w : World) : Prop := Lib.CaseVar 0 Lib.caseA w ∧ Lib.Utf8Tabs 2 3 w
theorem Tabs.later {w w' : World} (h : Tabs w) (hb : Below w.heap.size w w') : Tabs w' := ⟨case_later h.1 hb, Step.tabs_later h.2 hb⟩
theorem want_eq (c : Int) (m : Nat) (v : Int) (h : v = per c m) : ((per c m : Int) == v) = true := by subst h; simp
set_option maxHeartbeats 4000000 in
set_option maxRecDepth 100000 in
theorem law_no (a1 : ByteArray) (A2 : Option Addr) (n2 c2 : Nat) (z2 : List Int) (w : World) (h1 : a1.size ≤ 65536) (h2 : n2 ≤ 65536) (w2 : Args.IsInts .u8 w A2 n2 c2 z2) :
    Calls Tryd.prog 3 #[.bool false, .string a1, .slice A2 n2 c2] w fun e w' => e = .returned (.bool true) ∧ Below w.heap.size w w' := by
  have K4 := Lib.hid (bytes4 false a1 A2 n2 c2 w (by unfold maxLen; omega) (by unfold maxLen; omega))
  rw [show decide (a1.size + n2 ≤ 1048576) = true by simp; omega] at K4
  have K5 := Lib.hid (kids5 A2 n2 c2 z2 w w2 h2)
  clear w2
  go_enter Tryd.func3, Tryd.ntmps3
  go_wp2_with fail
  refine K4.out.mono ?_
  rintro e w' ⟨rfl, rfl⟩
  go_wp2_with fail
  refine K5.out.mono ?_
  rintro e w1 ⟨rfl, hown, hbel⟩
  have HO := Lib.hid hown
  have HB := Lib.hid hbel
  clear hown hbel
  go_wp2_with fail
  refine (plain6 a1 _ _).mono ?_
  rintro e w2 ⟨rfl, hb2⟩
  have HB2 := Lib.hid (HB.out.trans (((((Below.refl w1.heap.size w1).alloc (Nat.le_refl _) _).alloc (by simp) _).trans (hb2.mono (by simp; omega))).mono HB.out.size))
  clear hb2
  go_wp2_with fail
  go_ret
  exact ⟨rfl, HB2.out⟩
set_option maxHeartbeats 4000000 in
set_option maxRecDepth 100000 in
theorem law_yes (a1 : ByteArray) (A2 : Option Addr) (n2 c2 : Nat) (z2 : List Int) (w : World) (h1 : a1.size ≤ 65536) (h2 : n2 ≤ 65536) (w2 : Args.IsInts .u8 w A2 n2 c2 z2) (hT : Tabs w) :
    Calls Tryd.prog 3 #[.bool true, .string a1, .slice A2 n2 c2] w fun e w' => e = .returned (.bool true) ∧ Below w.heap.size w w' := by
  have K4 := Lib.hid (bytes4 true a1 A2 n2 c2 w (by unfold maxLen; omega) (by unfold maxLen; omega))
  rw [show decide (a1.size + n2 ≤ 1048576) = true by simp; omega] at K4
  have K5 := Lib.hid (kids5 A2 n2 c2 z2 w w2 h2)
  have HL := Lib.hid w2.2.2.1
  have HT := Lib.hid hT
  clear w2 hT
  go_enter Tryd.func3, Tryd.ntmps3
  go_wp2_with fail
  refine K4.out.mono ?_
  rintro e w' ⟨rfl, rfl⟩
  go_wp2_with fail
  refine K5.out.mono ?_
  rintro e w1 ⟨rfl, hown, hbel⟩
  have hb2 : Below w1.heap.size w1 (w1.alloc (.cells #[.slice (some ⟨w.heap.size, 0, none⟩) n2 n2] 24)) := (Below.refl _ _).alloc (Nat.le_refl _) _
  have hb3 : Below (w1.heap.size + 1) (w1.alloc (.cells #[.slice (some ⟨w.heap.size, 0, none⟩) n2 n2] 24)) ((w1.alloc (.cells #[.slice (some ⟨w.heap.size, 0, none⟩) n2 n2] 24)).alloc (.cells #[.pointer (some ⟨w1.heap.size, 0, none⟩), .string a1, .int .i32 0, .int .u32 0, .int .u16 0, .int .u8 27, .int .u8 0] 35)) := (Below.refl _ _).alloc (by simp) _
  have hb23 := hb2.trans (hb3.mono (by omega : w1.heap.size ≤ w1.heap.size + 1))
  have hq := (Row.newArr w1 24 #[.slice (some ⟨w.heap.size, 0, none⟩) n2 n2]).below hb3 (by omega)
  have HB := Lib.hid (hbel.trans (hb23.mono hbel.size))
  have K6 := Lib.hid (per6 a1 w.heap.size w1.heap.size n2 z2 _ w.heap.size (hq.at_ (i := 0) rfl) (owns_below hown hb23 (Nat.le_refl _)) HL.out h2 h1 (HT.out.later HB.out).1 (HT.out.later HB.out).2)
  obtain ⟨G, hG⟩ : ∃ G, G = per (cls (low a1)) (cms z2) := ⟨_, rfl⟩
  rw [← hG] at K6
  have hml := cms_le z2
  rw [HL.out] at hml
  obtain ⟨m, hm⟩ : ∃ m, m = cms z2 := ⟨_, rfl⟩
  rw [← hm] at hG hml ⊢
  have HG := Lib.hid hG
  clear hown hbel hb2 hb3 hb23 hq hG hm
  go_wp2_with fail
  refine K6.out.mono ?_
  rintro e w3 ⟨rfl, hb3⟩
  have HB3 := Lib.hid (HB.out.trans (hb3.mono HB.out.size))
  clear hb3
  go_wp2_with fail
  refine (fold7 a1 _ h1).mono ?_
  rintro e w4 ⟨R, ok, rfl, hF, hb4⟩
  have HB4 := Lib.hid (HB3.out.trans (hb4.mono HB3.out.size))
  clear hb4
  rcases hF with ⟨rfl, hF⟩ | ⟨rfl, hF⟩
  · have K8 := Lib.hid (class8 R w4)
    have hR := fold_low hF
    have HG2 := HG.out
    rw [hR] at HG2
    have hc := cls_le R
    have HRR := Lib.hid hR
    clear hF hR
    rcases hc with hc | hc | hc | hc
    all_goals
      rw [hc] at K8 HG2
      clear hc
    · have tG : ((G : Int) == 0) = true := by rw [HG2]; simp [per]
      clear HG2
      go_wp2_with fail
      refine K8.out.mono ?_
      rintro e w5 ⟨rfl, rfl⟩
      go_wp2_with fail
      go_ret
      exact ⟨rfl, HB4.out⟩
    · by_cases hp : 2 ≤ m
      · have tG : ((G : Int) == 1) = true := by rw [HG2]; simp [per, hp]
        have tp : decide (2 ≤ (m : Int)) = true := by simp; omega
        clear HG2 hp
        go_wp2_with fail
        refine K8.out.mono ?_
        rintro e w5 ⟨rfl, rfl⟩
        go_wp2_with fail
        go_ret
        exact ⟨rfl, HB4.out⟩
      · have tG : ((G : Int) == 0) = true := by rw [HG2]; simp [per, hp]
        have tp : decide (2 ≤ (m : Int)) = false := by simp; omega
        clear HG2 hp
        go_wp2_with fail
        refine K8.out.mono ?_
        rintro e w5 ⟨rfl, rfl⟩
        go_wp2_with fail
        go_ret
        exact ⟨rfl, HB4.out⟩
    · by_cases hp : m = 5
      · have tG : ((G : Int) == 2) = true := by rw [HG2]; simp [per, hp]
        have tp : ((m : Int) == 5) = true := by simp; omega
        clear HG2 hp
        go_wp2_with fail
        refine K8.out.mono ?_
        rintro e w5 ⟨rfl, rfl⟩
        go_wp2_with fail
        go_ret
        exact ⟨rfl, HB4.out⟩
      · have tG : ((G : Int) == 0) = true := by rw [HG2]; simp [per, hp]
        have tp : ((m : Int) == 5) = false := by simp; omega
        clear HG2 hp
        go_wp2_with fail
        refine K8.out.mono ?_
        rintro e w5 ⟨rfl, rfl⟩
        go_wp2_with fail
        go_ret
        exact ⟨rfl, HB4.out⟩
    · by_cases hp : m = 15
      · have tG : ((G : Int) == 4) = true := by rw [HG2]; simp [per, hp]
        have tp : ((m : Int) == 15) = true := by simp; omega
        clear HG2 hp
        go_wp2_with fail
        refine K8.out.mono ?_
        rintro e w5 ⟨rfl, rfl⟩
        go_wp2_with fail
        go_ret
        exact ⟨rfl, HB4.out⟩
      · have tG : ((G : Int) == 0) = true := by rw [HG2]; simp [per, hp]
        have tp : ((m : Int) == 15) = false := by simp; omega
        clear HG2 hp
        go_wp2_with fail
        refine K8.out.mono ?_
        rintro e w5 ⟨rfl, rfl⟩
        go_wp2_with fail
        go_ret
        exact ⟨rfl, HB4.out⟩
  · have tG : ((G : Int) == 0) = true := by rw [HG.out, fold_bad hF]; simp [per]
    clear hF
    go_wp2_with fail
    go_ret
    exact ⟨rfl, HB4.out⟩
set_option maxHeartbeats 1000000 in
theorem law (a0 : Bool) (a1 : ByteArray) (A2 : Option Addr) (n2 c2 : Nat) (z2 : List Int) (w : World) (w1 : a1.size ≤ maxLen) (w2 : Args.IsInts .u8 w A2 n2 c2 z2) (hT : Tabs w) :
    Calls Tryd.prog 3 #[.bool a0, .string a1, .slice A2 n2 c2] w fun e w' => e = .returned (.bool true) ∧ Below w.heap.size w w' := by
  have hm2 : n2 ≤ maxLen := Nat.le_trans w2.1 w2.2.1
  have K4 := Lib.hid (bytes4 a0 a1 A2 n2 c2 w w1 hm2)
  unfold maxLen at w1 hm2
  by_cases hb : a1.size + n2 ≤ 1048576
  · by_cases h1 : a1.size ≤ 65536
    · by_cases h2 : n2 ≤ 65536
      · cases a0 with
        | false => exact law_no a1 A2 n2 c2 z2 w h1 h2 w2
        | true => exact law_yes a1 A2 n2 c2 z2 w h1 h2 w2 hT
      · rw [show decide (a1.size + n2 ≤ 1048576) = true by simp; omega] at K4
        clear w2 hT
        go_enter Tryd.func3, Tryd.ntmps3
        go_wp2_with fail
        refine K4.out.mono ?_
        rintro e w' ⟨rfl, rfl⟩
        go_wp2_with fail
        go_ret
        exact ⟨rfl, Below.refl _ _⟩
    · rw [show decide (a1.size + n2 ≤ 1048576) = true by simp; omega] at K4
      clear w2 hT
      go_enter Tryd.func3, Tryd.ntmps3
      go_wp2_with fail
      refine K4.out.mono ?_
      rintro e w' ⟨rfl, rfl⟩
      go_wp2_with fail
      go_ret
      exact ⟨rfl, Below.refl _ _⟩
  · rw [show decide (a1.size + n2 ≤ 1048576) = false by simp; omega] at K4
    clear w2 hT
    go_enter Tryd.func3, Tryd.ntmps3
    go_wp2_with fail
    refine K4.out.mono ?_
    rintro e w' ⟨rfl, rfl⟩
    go_wp2_with fail
    go_ret
    exact ⟨rfl, Below.refl _ _⟩
def ren274 : Go.Shelf.Ren := ⟨Tryd.lays274_ren.f, Tryd.lays274_ren.t, fun | 13 => 0 | n => n⟩
theorem lays274v : Go.Proofs.Lays.n274 Tryd.prog ren274 := {
  mixed := by kernel_rfl
  f274 := Tryd.func31.trans (congrArg some (by kernel_rfl))
  t0 := Tryd.underlying0
  a0 := Tryd.isAgg0
  z0 := Tryd.sizeOf0
  v0 := Tryd.zeroValue0
  t3 := Tryd.underlying3
  a3 := Tryd.isAgg3
  z3 := Tryd.sizeOf3
  v3 := Tryd.zeroValue3
  t4 := Tryd.underlying4
  a4 := Tryd.isAgg4
  z4 := Tryd.sizeOf4
  v4 := Tryd.zeroValue4
  t21 := Tryd.underlying21
  a21 := Tryd.isAgg21
  z21 := Tryd.sizeOf21
  v21 := Tryd.zeroValue21
  t46 := Tryd.underlying69
  a46 := Tryd.isAgg69
  z46 := Tryd.sizeOf69
  v46 := Tryd.zeroValue69
  t51 := Tryd.underlying31
  a51 := Tryd.isAgg31
  z51 := Tryd.sizeOf31
  v51 := Tryd.zeroValue31
  t160 := Tryd.underlying73
  a160 := Tryd.isAgg73
  z160 := Tryd.sizeOf73
  v160 := Tryd.zeroValue73
  t162 := Tryd.underlying67
  a162 := Tryd.isAgg67
  z162 := Tryd.sizeOf67
  v162 := Tryd.zeroValue67
  t208 := Tryd.underlying79
  a208 := Tryd.isAgg79
  z208 := Tryd.sizeOf79
  v208 := Tryd.zeroValue79 }
theorem of_laid {w : World} (hL : laidMetH Tryd.prog Rows.fnMultiLineCommaPeriodCaseTableRow.laid w) : Tabs w := by
  have hL' : laidMet Tryd.prog Rows.fnMultiLineCommaPeriodCaseTableRow.laid w := by
    first | exact hL | (rw [MakeChecks.laidMetH_plain _ _ _ (by kernel_rfl)] at hL; exact hL)
  have e1 : Rows.laid_unicode_utf8_first = Lib.firstData := by kernel_rfl
  have e2 : (Rows.laid_unicode_utf8_acceptRanges : DataW Unit) = Lib.acceptData := by kernel_rfl
  have e3 : Rows.laid_unicode_CaseRanges = Lib.caseData := by kernel_rfl
  have m1 : ("unicode/utf8.first", Lib.firstData) ∈ Rows.fnMultiLineCommaPeriodCaseTableRow.laid := by rw [← e1]; exact .tail _ (.tail _ (.head _))
  have m2 : ("unicode/utf8.acceptRanges", Lib.acceptData) ∈ Rows.fnMultiLineCommaPeriodCaseTableRow.laid := by rw [← e2]; exact .head _
  have m3 : ("unicode.CaseRanges", Lib.caseData) ∈ Rows.fnMultiLineCommaPeriodCaseTableRow.laid := by rw [← e3]; exact .tail _ (.head _)
  refine ⟨caseVar_of_reads (ρ := ren274) lays274v (by kernel_rfl) ⟨by kernel_rfl, by kernel_rfl, by kernel_rfl, by kernel_rfl, by kernel_rfl, by kernel_rfl⟩ (Lib.laidMet.reads hL' m3), ?_⟩
  exact utf8Tabs_of_reads (ρ := Tryd.lays260_ren) Tryd.lays260 ⟨by kernel_rfl, by kernel_rfl, by kernel_rfl, by kernel_rfl, by kernel_rfl, by kernel_rfl, by kernel_rfl⟩ (Lib.laidMet.reads hL' m1) (Lib.laidMet.reads hL' m2)
end Go.Proofs.YtdplbdfaeighlaaDoor.McB
