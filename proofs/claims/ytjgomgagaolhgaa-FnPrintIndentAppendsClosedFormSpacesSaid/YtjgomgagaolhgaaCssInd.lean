/- FnPrintIndentAppendsClosedFormSpaces: the law. -/
import Derived.Test.YtjgomgagaolhgaaRows
import Derived.Test.YtjgomgagaolhgaaMem
import Derived.Test.YtjgomgagaolhgaaSl
import Derived.Test.YtjgomgagaolhgaaIndentL
import Derived.Test.YtjgomgagaolhgaaCloneC
import Derived.Test.YtjgomgagaolhgaaLen
import Derived.Great.BuildSlice
import Derived.WalkKit
import Derived.ProofKit
import Derived.OpenShut
import Derived.Below
import Derived.WalkLawsBesides
import Derived.Lib.Hide
import Derived.Outline
import Derived.RegionTactic
import Derived.Deep.QuietTactic
import Derived.BigQuiet
import Derived.WalkSpells
import Derived.Deep.OwnRows
import Derived.IntWalk
import Derived.Deep.DeepMust
namespace Go.Proofs.Ytjgomgagaolhgaa.CssInd
open Go.RowKit Mem Sl
set_option linter.unusedVariables false
open Prn Indent IndentL

def Lim (cs : List Value) (l : Int) : Prop := cs[3]? = some (.int .i64 l)
theorem Lim.set_ {cs : List Value} {l : Int} (h : Lim cs l) (v : Value) : Lim (cs.set 15 v) l := by unfold Lim; rw [List.getElem?_set_ne (by decide)]; exact h
theorem set_cs15 (cs : List Value) (v v' : Value) : (cs.set 15 v).set 15 v' = cs.set 15 v' := by simp

set_option maxRecDepth 100000 in
set_option maxHeartbeats 1000000 in
theorem ind_a (p : Nat) (cs : List Value) (v : Value) (zs : List Int) (i l : Int) (w : World) (h : Pr w p 108 15 5 cs v zs) (ho : Lim cs l) (hi1 : -2147483648 ≤ i) (hi2 : i ≤ 65536) (hl : l ≤ 9223372036854775807) (hb : zs.length ≤ 1048576) (hl0 : 0 < l) (hg : l ≤ i * 2) :
    Calls Try.prog 45 #[.pointer (some ⟨p, 0, none⟩), .int .i32 i] w fun e w' => e = .returned (.tuple #[]) ∧ Printed w p 108 15 5 cs v (zs ++ spaces (2 * wid i l)) w' := by
  obtain ⟨i0, hi, hz0, hz1, hz2⟩ := info_parts Print.info5
  have c4 := h.row.at_ ho
  have HO := Lib.hid ho
  have H := Lib.hid h
  clear h ho
  have hwid : wid i l ≤ 65536 := by unfold wid; split <;> omega
  have e1 : decide (0 < l) = true := by simp [hl0]
  have e2 : decide (l ≤ i * 2) = true := by simp [hg]
  have HW := Lib.hid (show (l / 2).toNat = wid i l by unfold wid; rw [if_pos ⟨hl0, hg⟩])
  go_enter Try.func45, Try.ntmps45
  go_wp2_with fail
  go_loopw [5] (fun x wr => ∃ k : Nat, k ≤ wid i l ∧ x = .int .i64 k ∧ Hid (Printed w p 108 15 5 cs v (zs ++ spaces (2 * k)) wr)) (fun x _ => wid i l - (intOf x).toNat)
  case atStart =>
    refine ⟨0, Nat.zero_le _, rfl, ?_⟩
    refine Lib.hid ⟨v, ⟨?_, ?_, ?_⟩, Step.refl _ _ _⟩
    · rw [set_same H.out.at_]; exact H.out.row
    · rw [set_same H.out.at_]; exact H.out.at_
    · simpa [spaces] using H.out.buf
  case round =>
    obtain ⟨k, hk, rfl, HP⟩ := hrel
    have hw := HW.out
    by_cases hlt : k < wid i l
    · have ht : (k : Int) < l / 2 := by omega
      have hk2 : k ≤ 65536 := by omega
      clear hw
      obtain ⟨v1, hp1, hs1⟩ := HP.out
      obtain ⟨A1, cc1, hv1⟩ := hp1.buf.form
      generalize hgl : (zs ++ spaces (2 * k)).length = n1 at hv1
      subst hv1
      have hn1 : n1 ≤ 1179648 := by rw [← hgl]; simp [spaces]; omega
      have d1 := hp1.row.at_ hp1.at_
      have HS1 := Lib.hid hs1
      have HP1 := Lib.hid hp1
      have HL1 := Lib.hid (show (zs ++ spaces (2 * k)).length + (⟨#[32, 32]⟩ : ByteArray).size ≤ 1000000000 by rw [hgl]; simp [ByteArray.size]; omega)
      clear hs1 hp1 HP hgl
      go_wp2_with (at_builtin; refine wpList_append_str _ rfl (.tmp 39) (.const (.string ⟨#[32, 32]⟩)) 22 9 rfl 5 i0 Try.underlying22 Try.underlying9 hi hz0 hz1 hz2 (.slice A1 n1 cc1) (zs ++ spaces (2 * k)) rfl HP1.out.buf ⟨#[32, 32]⟩ rfl HL1.out ?_; intro A2 n2 cc2 w2 hbuf hgr hat; obtain ⟨k1, k2, k3, k4⟩ := HP1.out.store (by decide) hbuf (.of_grown hgr hat) hgr; have K1 := Lib.hid k1; have K2 := Lib.hid k2; clear k1 k2 hbuf hgr hat)
      go_roundw
      case rel =>
        refine ⟨k + 1, by omega, by go_num, Lib.hid ⟨_, ?_, HS1.out.trans K2.out⟩⟩
        have h9 := K1.out
        rw [spaces_two, set_cs15] at h9
        exact h9
      case measure => simp [intOf]; omega
    · have ht : ¬ (k : Int) < l / 2 := by omega
      obtain rfl : k = wid i l := by omega
      clear hw hlt hk
      go_wp2_with fail
      go_end0
      exact ⟨rfl, HP.out⟩

set_option maxRecDepth 100000 in
set_option maxHeartbeats 1000000 in
theorem ind_b (p : Nat) (cs : List Value) (v : Value) (zs : List Int) (i l : Int) (w : World) (h : Pr w p 108 15 5 cs v zs) (ho : Lim cs l) (hi1 : -2147483648 ≤ i) (hi2 : i ≤ 65536) (hl : l ≤ 9223372036854775807) (hb : zs.length ≤ 1048576) (hl0 : 0 < l) (hg : ¬ l ≤ i * 2) :
    Calls Try.prog 45 #[.pointer (some ⟨p, 0, none⟩), .int .i32 i] w fun e w' => e = .returned (.tuple #[]) ∧ Printed w p 108 15 5 cs v (zs ++ spaces (2 * wid i l)) w' := by
  obtain ⟨i0, hi, hz0, hz1, hz2⟩ := info_parts Print.info5
  have c4 := h.row.at_ ho
  have HO := Lib.hid ho
  have H := Lib.hid h
  clear h ho
  have hwid : wid i l ≤ 65536 := by unfold wid; split <;> omega
  have e1 : decide (0 < l) = true := by simp [hl0]
  have e2 : decide (l ≤ i * 2) = false := by simp; omega
  have HW := Lib.hid (show (i).toNat = wid i l by unfold wid; rw [if_neg (fun h => hg h.2)])
  go_enter Try.func45, Try.ntmps45
  go_wp2_with fail
  go_loopw [5] (fun x wr => ∃ k : Nat, k ≤ wid i l ∧ x = .int .i64 k ∧ Hid (Printed w p 108 15 5 cs v (zs ++ spaces (2 * k)) wr)) (fun x _ => wid i l - (intOf x).toNat)
  case atStart =>
    refine ⟨0, Nat.zero_le _, rfl, ?_⟩
    refine Lib.hid ⟨v, ⟨?_, ?_, ?_⟩, Step.refl _ _ _⟩
    · rw [set_same H.out.at_]; exact H.out.row
    · rw [set_same H.out.at_]; exact H.out.at_
    · simpa [spaces] using H.out.buf
  case round =>
    obtain ⟨k, hk, rfl, HP⟩ := hrel
    have hw := HW.out
    by_cases hlt : k < wid i l
    · have ht : (k : Int) < i := by omega
      have hk2 : k ≤ 65536 := by omega
      clear hw
      obtain ⟨v1, hp1, hs1⟩ := HP.out
      obtain ⟨A1, cc1, hv1⟩ := hp1.buf.form
      generalize hgl : (zs ++ spaces (2 * k)).length = n1 at hv1
      subst hv1
      have hn1 : n1 ≤ 1179648 := by rw [← hgl]; simp [spaces]; omega
      have d1 := hp1.row.at_ hp1.at_
      have HS1 := Lib.hid hs1
      have HP1 := Lib.hid hp1
      have HL1 := Lib.hid (show (zs ++ spaces (2 * k)).length + (⟨#[32, 32]⟩ : ByteArray).size ≤ 1000000000 by rw [hgl]; simp [ByteArray.size]; omega)
      clear hs1 hp1 HP hgl
      go_wp2_with (at_builtin; refine wpList_append_str _ rfl (.tmp 39) (.const (.string ⟨#[32, 32]⟩)) 22 9 rfl 5 i0 Try.underlying22 Try.underlying9 hi hz0 hz1 hz2 (.slice A1 n1 cc1) (zs ++ spaces (2 * k)) rfl HP1.out.buf ⟨#[32, 32]⟩ rfl HL1.out ?_; intro A2 n2 cc2 w2 hbuf hgr hat; obtain ⟨k1, k2, k3, k4⟩ := HP1.out.store (by decide) hbuf (.of_grown hgr hat) hgr; have K1 := Lib.hid k1; have K2 := Lib.hid k2; clear k1 k2 hbuf hgr hat)
      go_roundw
      case rel =>
        refine ⟨k + 1, by omega, by go_num, Lib.hid ⟨_, ?_, HS1.out.trans K2.out⟩⟩
        have h9 := K1.out
        rw [spaces_two, set_cs15] at h9
        exact h9
      case measure => simp [intOf]; omega
    · have ht : ¬ (k : Int) < i := by omega
      obtain rfl : k = wid i l := by omega
      clear hw hlt hk
      go_wp2_with fail
      go_end0
      exact ⟨rfl, HP.out⟩

set_option maxRecDepth 100000 in
set_option maxHeartbeats 1000000 in
theorem ind_c (p : Nat) (cs : List Value) (v : Value) (zs : List Int) (i l : Int) (w : World) (h : Pr w p 108 15 5 cs v zs) (ho : Lim cs l) (hi1 : -2147483648 ≤ i) (hi2 : i ≤ 65536) (hl : l ≤ 9223372036854775807) (hb : zs.length ≤ 1048576) (hl0 : ¬ 0 < l) :
    Calls Try.prog 45 #[.pointer (some ⟨p, 0, none⟩), .int .i32 i] w fun e w' => e = .returned (.tuple #[]) ∧ Printed w p 108 15 5 cs v (zs ++ spaces (2 * wid i l)) w' := by
  obtain ⟨i0, hi, hz0, hz1, hz2⟩ := info_parts Print.info5
  have c4 := h.row.at_ ho
  have HO := Lib.hid ho
  have H := Lib.hid h
  clear h ho
  have hwid : wid i l ≤ 65536 := by unfold wid; split <;> omega
  have e1 : decide (0 < l) = false := by simp; omega
  have HW := Lib.hid (show (i).toNat = wid i l by unfold wid; rw [if_neg (fun h => hl0 h.1)])
  go_enter Try.func45, Try.ntmps45
  go_wp2_with fail
  go_loopw [5] (fun x wr => ∃ k : Nat, k ≤ wid i l ∧ x = .int .i64 k ∧ Hid (Printed w p 108 15 5 cs v (zs ++ spaces (2 * k)) wr)) (fun x _ => wid i l - (intOf x).toNat)
  case atStart =>
    refine ⟨0, Nat.zero_le _, rfl, ?_⟩
    refine Lib.hid ⟨v, ⟨?_, ?_, ?_⟩, Step.refl _ _ _⟩
    · rw [set_same H.out.at_]; exact H.out.row
    · rw [set_same H.out.at_]; exact H.out.at_
    · simpa [spaces] using H.out.buf
  case round =>
    obtain ⟨k, hk, rfl, HP⟩ := hrel
    have hw := HW.out
    by_cases hlt : k < wid i l
    · have ht : (k : Int) < i := by omega
      have hk2 : k ≤ 65536 := by omega
      clear hw
      obtain ⟨v1, hp1, hs1⟩ := HP.out
      obtain ⟨A1, cc1, hv1⟩ := hp1.buf.form
      generalize hgl : (zs ++ spaces (2 * k)).length = n1 at hv1
      subst hv1
      have hn1 : n1 ≤ 1179648 := by rw [← hgl]; simp [spaces]; omega
      have d1 := hp1.row.at_ hp1.at_
      have HS1 := Lib.hid hs1
      have HP1 := Lib.hid hp1
      have HL1 := Lib.hid (show (zs ++ spaces (2 * k)).length + (⟨#[32, 32]⟩ : ByteArray).size ≤ 1000000000 by rw [hgl]; simp [ByteArray.size]; omega)
      clear hs1 hp1 HP hgl
      go_wp2_with (at_builtin; refine wpList_append_str _ rfl (.tmp 39) (.const (.string ⟨#[32, 32]⟩)) 22 9 rfl 5 i0 Try.underlying22 Try.underlying9 hi hz0 hz1 hz2 (.slice A1 n1 cc1) (zs ++ spaces (2 * k)) rfl HP1.out.buf ⟨#[32, 32]⟩ rfl HL1.out ?_; intro A2 n2 cc2 w2 hbuf hgr hat; obtain ⟨k1, k2, k3, k4⟩ := HP1.out.store (by decide) hbuf (.of_grown hgr hat) hgr; have K1 := Lib.hid k1; have K2 := Lib.hid k2; clear k1 k2 hbuf hgr hat)
      go_roundw
      case rel =>
        refine ⟨k + 1, by omega, by go_num, Lib.hid ⟨_, ?_, HS1.out.trans K2.out⟩⟩
        have h9 := K1.out
        rw [spaces_two, set_cs15] at h9
        exact h9
      case measure => simp [intOf]; omega
    · have ht : ¬ (k : Int) < i := by omega
      obtain rfl : k = wid i l := by omega
      clear hw hlt hk
      go_wp2_with fail
      go_end0
      exact ⟨rfl, HP.out⟩

theorem ind (p : Nat) (cs : List Value) (v : Value) (zs : List Int) (i l : Int) (w : World) (h : Pr w p 108 15 5 cs v zs) (ho : Lim cs l) (hi1 : -2147483648 ≤ i) (hi2 : i ≤ 65536) (hl : l ≤ 9223372036854775807) (hb : zs.length ≤ 1048576) :
    Calls Try.prog 45 #[.pointer (some ⟨p, 0, none⟩), .int .i32 i] w fun e w' => e = .returned (.tuple #[]) ∧ Printed w p 108 15 5 cs v (zs ++ spaces (2 * wid i l)) w' := by
  by_cases hl0 : 0 < l
  · by_cases hg : l ≤ i * 2
    · exact ind_a p cs v zs i l w h ho hi1 hi2 hl hb hl0 hg
    · exact ind_b p cs v zs i l w h ho hi1 hi2 hl hb hl0 hg
  · exact ind_c p cs v zs i l w h ho hi1 hi2 hl hb hl0
theorem ind32 (p : Nat) (cs : List Value) (v : Value) (zs : List Int) (i l : Int) (w : World) (h : Pr w p 108 15 5 cs v zs) (ho : Lim cs l) (hi1 : -2147483648 ≤ i) (hi2 : i ≤ 65536) (hl : l ≤ 9223372036854775807) (hb : zs.length ≤ 1048576) :
    Calls Try.prog 32 #[.pointer (some ⟨p, 0, none⟩), .int .i32 i] w fun e w' => e = .returned (.tuple #[]) ∧ Printed w p 108 15 5 cs v (zs ++ spaces (2 * wid i l)) w' := by
  have H := Lib.hid (ind p cs v zs i l w h ho hi1 hi2 hl hb)
  clear h ho
  go_enter Try.func32, Try.ntmps32
  go_wp2_with fail
  refine H.out.mono ?_
  rintro e w1 ⟨rfl, hp⟩
  have HP := Lib.hid hp
  clear hp
  go_wp2_with fail
  go_end0
  exact ⟨rfl, HP.out⟩
noncomputable def zo : Array Value := match (Try.prog.info? 106).bind (fun i => i.zero) with | some (.agg cs) => cs | _ => #[]
noncomputable def zp : Array Value := match (Try.prog.info? 108).bind (fun i => i.zero) with | some (.agg cs) => cs | _ => #[]
noncomputable def opt (l : Int) : Array Value := zo.setIfInBounds 3 (.int .i64 l)
noncomputable def prn (v : Value) (l : Int) : Array Value := (zp.setIfInBounds 15 v).setIfInBounds 3 (.int .i64 l)
theorem prn15 (v : Value) (l : Int) : (prn v l)[15]? = some v := by kernel_rfl
theorem prn3 (v : Value) (l : Int) : (prn v l)[3]? = some (.int .i64 l) := by kernel_rfl
set_option maxRecDepth 100000 in
theorem new (A : Option Addr) (n c : Nat) (l : Int) (w : World) :
    Calls Try.prog 31 #[.slice A n c, .int .i64 l, .bool false, .bool false] w fun e w' => e = .returned (.pointer (some ⟨w.heap.size, 0, none⟩)) ∧ w.alloc (.cells (prn (.slice A n c) l) 108) = w' := by
  go_enter Try.func31, Try.ntmps31
  go_wp2_with (first | (refine wpList_buildTo rfl 106 _ rfl (some 12) rfl (opt l) (by kernel_rfl) ?_) | (refine wpList_buildTo rfl 108 _ rfl (some 14) rfl (prn (.slice A n c) l) (by kernel_rfl) ?_))
  go_ret
  exact ⟨rfl, rfl⟩
theorem css33 (p : Nat) (v : Value) (w : World) (h : w.cell? ⟨p, 15, none⟩ = some v) :
    Calls Try.prog 33 #[.pointer (some ⟨p, 0, none⟩)] w fun e w' => e = .returned v ∧ w = w' := by
  go_enter Try.func33, Try.ntmps33
  go_wp2
  go_ret
  exact ⟨rfl, rfl⟩
theorem width (i l : Int) (w : World) (hi : -2147483648 ≤ i) (hi2 : i ≤ 65536) (hlm : l ≤ 9223372036854775807) :
    Calls Try.prog 34 #[.int .i64 l, .int .i32 i] w fun e w' => e = .returned (.int .i64 (2 * (wid i l : Nat) : Int)) ∧ w = w' := by
  by_cases h0 : 0 < i
  · by_cases hl : 0 < l
    · by_cases hg : 2 * (l / 2) < 2 * i
      · have HW := Lib.hid (show 2 * (l / 2) = 2 * ((wid i l : Nat) : Int) by unfold wid; rw [if_pos ⟨hl, by omega⟩]; omega)
        have e2 : decide (2 * (l / 2) < 2 * i) = true := by simp; omega
        go_enter Try.func34, Try.ntmps34
        go_wp2
        go_ret
        exact ⟨ret_int HW.out, rfl⟩
      · have HW := Lib.hid (show 2 * i = 2 * ((wid i l : Nat) : Int) by unfold wid; split <;> omega)
        have e2 : decide (2 * (l / 2) < 2 * i) = false := by simp; omega
        go_enter Try.func34, Try.ntmps34
        go_wp2
        go_ret
        exact ⟨ret_int HW.out, rfl⟩
    · have HW := Lib.hid (show 2 * i = 2 * ((wid i l : Nat) : Int) by unfold wid; rw [if_neg (by omega)]; omega)
      go_enter Try.func34, Try.ntmps34
      go_wp2
      go_ret
      exact ⟨ret_int HW.out, rfl⟩
  · by_cases hl : 0 < l
    · have HW := Lib.hid (show (0 : Int) = 2 * ((wid i l : Nat) : Int) by unfold wid; rw [if_neg (by omega)]; omega)
      go_enter Try.func34, Try.ntmps34
      go_wp2
      go_ret
      exact ⟨ret_int HW.out, rfl⟩
    · have HW := Lib.hid (show (0 : Int) = 2 * ((wid i l : Nat) : Int) by unfold wid; rw [if_neg (by omega)]; omega)
      go_enter Try.func34, Try.ntmps34
      go_wp2
      go_ret
      exact ⟨ret_int HW.out, rfl⟩

theorem zzBytes (A : Option Addr) (n c : Nat) (i j : Int) (w : World) (hs : n ≤ maxLen) :
    Calls Try.prog 29 #[.slice A n c, .int .i64 i, .int .i32 j] w fun e w' => e = .returned (.bool (decide (n ≤ 1048576))) ∧ w = w' := by
  unfold maxLen at hs
  by_cases h : n ≤ 1048576
  · go_enter Try.func29, Try.ntmps29
    go_wp2
    go_ret
    exact ⟨ret_bool (by simp [h]), rfl⟩
  · go_enter Try.func29, Try.ntmps29
    go_wp2
    go_ret
    exact ⟨ret_bool (by simp [h]), rfl⟩
theorem cut_ints {w : World} {A : Option Addr} {n c : Nat} {zs : List Int} (h : Args.IsInts .u8 w A n c zs) (k : Nat) (hk : k ≤ n) : Args.IsInts .u8 w A k c (zs.take k) := by
  obtain ⟨h1, h2, h3, h4, h5, h6⟩ := h
  refine ⟨by omega, h2, by simp; omega, fun z hz => h4 z (List.mem_of_mem_take hz), h5, fun hp => ?_⟩
  obtain ⟨b, off, ha, hb, hc⟩ := h6 hp
  refine ⟨b, off, ha, hb, fun i hi => ?_⟩
  rw [hc i (by omega)]
  simp [List.getD, hi]
theorem drop_ints {w : World} {A : Option Addr} {n c : Nat} {zs : List Int} (h : Args.IsInts .u8 w A n c zs) (m : Nat) (hm : m ≤ n) : Args.IsInts .u8 w (if c = m then A else A.map (·.add m)) (n - m) (c - m) (zs.drop m) := by
  obtain ⟨h1, h2, h3, h4, h5, h6⟩ := h
  refine ⟨by omega, by omega, by simp; omega, fun z hz => h4 z (List.mem_of_mem_drop hz), ?_, fun hp => ?_⟩
  · intro hA
    by_cases hc : c = m
    · omega
    · rw [if_neg hc] at hA
      cases A with
      | none => have := h5 rfl; omega
      | some a => simp at hA
  · obtain ⟨b, off, ha, hb, hc⟩ := h6 (by omega)
    rw [if_neg (by omega), ha]
    have hadd : (⟨b, off, none⟩ : Addr).add m = ⟨b, off + m, none⟩ := by unfold Addr.add; split <;> simp_all
    refine ⟨b, off + m, by simp [hadd], hb, fun i hi => ?_⟩
    have := hc (m + i) (by omega)
    rw [Nat.add_assoc, this]
    simp [List.getD]
set_option maxHeartbeats 400000 in
theorem allSpaces (A : Option Addr) (n c : Nat) (w : World) (h : Args.IsInts .u8 w A n c (spaces n)) (hn : n ≤ 2000000) :
    Calls Try.prog 36 #[.slice A n c] w fun e w' => e = .returned (.bool true) ∧ w = w' := by
  have HR := Lib.hid (fun k => h.read k)
  clear h
  go_enter Try.func36, Try.ntmps36
  go_wp2
  go_loop [3] (fun i => ∃ k : Nat, k ≤ n ∧ i = .int .i64 k) (fun i => n - (intOf i).toNat)
  case atStart => exact ⟨0, Nat.zero_le _, rfl⟩
  case round =>
    obtain ⟨k, hk, rfl⟩ := hrel
    by_cases hlt : k < n
    · obtain ⟨b, off, ha, hb, hcell⟩ := HR.out k hlt
      subst ha
      rw [show (spaces n).getD k 0 = 32 by rw [List.getD, spaces, List.getElem?_replicate, if_pos hlt]; rfl] at hcell
      go_wp2
      go_round
      case rel => exact ⟨k + 1, by omega, by go_num⟩
      case measure => simp [intOf]; omega
    · go_wp2
      go_ret
      exact ⟨rfl, rfl⟩
theorem hasPre (A B : Option Addr) (n c m d : Nat) (zs ys : List Int) (w : World) (h : Args.IsInts .u8 w A n c (zs ++ ys)) (h' : Args.IsInts .u8 w B m d zs) (hn : n ≤ 2000000) (hm : m ≤ 1048576) :
    Calls Try.prog 35 #[.slice A n c, .slice B m d] w fun e w' => e = .returned (.bool true) ∧ ∃ q, w' = w.drewN q := by
  have l2 := h'.2.2.1
  have hmn : m ≤ n := by have := h.2.2.1; simp at this; omega
  have hnc := h.1
  have hcm := h.2.1
  unfold maxLen at hcm
  have hd : decide (n < m) = false := by simp; omega
  have hcut := cut_ints h m hmn
  rw [show (zs ++ ys).take m = zs by rw [← l2]; simp] at hcut
  have HC := Lib.hid (Len.same46 A B m c d zs w hcut h' hm)
  clear h h' l2 hcut
  go_enter Try.func35, Try.ntmps35
  go_wp2_with fail
  refine HC.out.mono ?_
  rintro e w1 ⟨rfl, q, rfl⟩
  go_wp2_with fail
  go_ret
  exact ⟨rfl, q, rfl⟩
set_option maxHeartbeats 2000000 in
theorem body (A : Option Addr) (n c : Nat) (zs : List Int) (i l : Int) (w : World) (h : Args.IsInts .u8 w A n c zs) (hn : n ≤ 1048576) (hi1 : -2147483648 ≤ i) (hi2 : i ≤ 65536) (hl : l ≤ 9223372036854775807) :
    Calls Try.prog 7 #[.slice A n c, .int .i64 l, .int .i32 i] w fun e w' => e = .returned (.bool true) ∧ Below w.heap.size w w' := by
  have hd : decide (n ≤ 1048576) = true := by simp [hn]
  have g1 : decide (65536 < i) = false := by simp; omega
  have H := Lib.hid h
  clear h
  go_enter Try.func7, Try.ntmps7
  go_wp2_with (go_at_call 29; refine (zzBytes _ _ _ _ _ _ (by unfold maxLen; omega)).mono ?_; rintro e w' ⟨rfl, rfl⟩)
  refine (CloneC.cl30 A n c zs w H.out hn).mono ?_
  rintro e w1 ⟨v, rfl, hv⟩
  obtain ⟨A1, rfl, hi1', hbuf1, hb1, hat1⟩ := cloned_buf H.out hn hv
  have HI1 := Lib.hid hi1'
  have HB1 := Lib.hid hb1
  have HBUF1 := Lib.hid hbuf1
  have HAT1 := Lib.hid hat1
  clear hv hi1' hb1 hbuf1 hat1
  go_wp2_with fail
  refine (CloneC.cl30 A1 n n zs w1 HI1.out hn).mono ?_
  rintro e w2 ⟨v, rfl, hv⟩
  obtain ⟨A2, rfl, hi2', hbuf2, hb2, hat2⟩ := cloned_buf HI1.out hn hv
  have HI2 := Lib.hid (HI1.out.later hb2)
  have HBUF := Lib.hid hbuf2
  have HB2 := Lib.hid (HB1.out.trans (hb2.mono HB1.out.size))
  have HWF := Lib.hid HI1.out.2.2.2.1
  have HLEN := Lib.hid HI1.out.2.2.1
  have hz1 := HB1.out.size
  have hz2 := hb2.size
  have HLT1 := Lib.hid (show ∀ b off, A1 = some ⟨b, off, none⟩ → b < w1.heap.size by
    intro b off hb
    exact HBUF1.out.lt b (by rw [hb]; rfl))
  have HLOW := Lib.hid (show ∀ g, Value.ownBlock (.slice A2 n n) = some g → w1.heap.size ≤ g by
    intro g hg
    cases A2 with
    | none => simp [Value.ownBlock] at hg
    | some a =>
      obtain ⟨b, off, sp⟩ := a
      have hsp : sp = none := by
        rcases hbuf2.2 with ⟨h0, _⟩ | ⟨g', cap, cur, h0, _⟩
        · cases h0
        · injection h0 with h0; injection h0 with h0; injection h0
      subst hsp
      have := hat2 b off rfl
      simp [Value.ownBlock] at hg
      omega)
  clear hv hi2' hb2 hbuf2 hat2 HI1 HBUF1 HAT1
  go_wp2_with fail
  refine (new A2 n n l w2).mono ?_
  obtain ⟨W, hW, hrow, hbel, hsz⟩ := made_box w2 108 (prn (.slice A2 n n) l)
  rw [hW]
  rintro e w' ⟨rfl, rfl⟩
  have c15 : (prn (.slice A2 n n) l).toList[15]? = some (.slice A2 n n) := by simpa using prn15 (.slice A2 n n) l
  have c3 : Lim (prn (.slice A2 n n) l).toList l := by unfold Lim; simpa using prn3 (.slice A2 n n) l
  generalize (prn (.slice A2 n n) l) = cs at *
  have HC := Lib.hid (ind32 w2.heap.size cs.toList (.slice A2 n n) zs i l W ⟨hrow, c15, HBUF.out.below hbel (Nat.le_refl _)⟩ c3 hi1 hi2 hl (by have := HLEN.out; omega))
  have HI3 := Lib.hid (HI2.out.later hbel)
  have HBW := Lib.hid (HB2.out.trans (hbel.mono HB2.out.size))
  have HSZ := Lib.hid hsz
  clear hW hrow hbel hsz c15 c3
  go_wp2_with fail
  refine HC.out.mono ?_
  rintro e w3 ⟨rfl, v3, hp3, hs3⟩
  obtain ⟨A3, c3, hv3, hi3, _⟩ := hp3.buf.ints (by have := HLEN.out; simp [spaces]; unfold maxLen; have : wid i l ≤ 65536 := (by unfold wid; split <;> omega); omega) (by
    intro z hz
    rcases List.mem_append.1 hz with h | h
    · exact HWF.out z h
    · rw [List.eq_of_mem_replicate h]; decide)
  have hlen3 : (zs ++ spaces (2 * wid i l)).length = n + 2 * wid i l := by have := HLEN.out; simp [spaces]; omega
  rw [hlen3] at hv3 hi3
  subst hv3
  have d15 := hp3.row.at_ hp3.at_
  have HI4 := Lib.hid hi3
  have HI5 := Lib.hid (hs3.ints HI3.out (by
    intro b off hb
    have h1 := HLT1.out b off hb
    exact ⟨by omega, fun e => by have := HLOW.out b e.symm; omega⟩))
  have HB3 := Lib.hid (HBW.out.trans (hs3.below (B := w.heap.size) (by omega) (fun g hg => by have := HLOW.out g hg; omega) (by have := HSZ.out; omega)))
  have hww : wid i l ≤ 65536 := by unfold wid; split <;> omega
  have hcc := hi3.1
  have hcm := hi3.2.1
  unfold maxLen at hcm
  clear hp3 hs3 hi3 hlen3
  go_wp2_with fail
  refine (css33 w2.heap.size _ w3 d15).mono ?_
  rintro e w4 ⟨rfl, rfl⟩
  go_wp2_with fail
  refine (width i l w3 hi1 hi2 hl).mono ?_
  rintro e w5 ⟨rfl, rfl⟩
  have HDR := Lib.hid (drop_ints HI4.out n (by omega))
  have HTAKE := Lib.hid (show (zs ++ spaces (2 * wid i l)).drop n = spaces (2 * wid i l) by rw [← HLEN.out]; simp)
  generalize wid i l = W0 at *
  have e1 : (((n : Int) + 2 * (W0 : Int)) != ((n : Int) + 2 * (W0 : Int))) = false := by simp
  go_wp2_with fail
  refine (hasPre A3 A1 _ c3 n n zs (spaces (2 * W0)) w3 HI4.out HI5.out (by omega) hn).mono ?_
  rintro e w6 ⟨rfl, q, rfl⟩
  have HD2 := Lib.hid (show Args.IsInts .u8 w3 (if c3 = n then A3 else A3.map (·.add n)) (2 * W0) (c3 - n) (spaces (2 * W0)) by
    have h1 := HDR.out
    rw [HTAKE.out, Nat.add_sub_cancel_left] at h1
    exact h1)
  have HB4 := Lib.hid (below_drewN HB3.out q)
  by_cases hcn : c3 = n
  · have h2 := HD2.out
    rw [if_pos hcn, hcn, Nat.sub_self] at h2
    have H2 := Lib.hid h2
    clear h2
    go_wp2_with fail
    refine (allSpaces A3 (2 * W0) 0 (w3.drewN q) H2.out (by omega)).mono ?_
    rintro e w7 ⟨rfl, rfl⟩
    go_wp2_with fail
    go_ret
    exact ⟨rfl, HB4.out⟩
  · have h2 := HD2.out
    rw [if_neg hcn] at h2
    have H2 := Lib.hid h2
    clear h2
    go_wp2_with fail
    refine (allSpaces _ (2 * W0) (c3 - n) (w3.drewN q) H2.out (by omega)).mono ?_
    rintro e w7 ⟨rfl, rfl⟩
    go_wp2_with fail
    go_ret
    exact ⟨rfl, HB4.out⟩
theorem law (A0 : Option Addr) (n0 c0 : Nat) (z0 : List Int) (a1 : Int) (a2 : Int) (w : World) (w0 : Args.IsInts .u8 w A0 n0 c0 z0) (w1 : (Lit.int .i64 a1).wf = true) (w2 : (Lit.int .i32 a2).wf = true) :
    Calls Try.prog 7 #[.slice A0 n0 c0, .int .i64 a1, .int .i32 a2] w fun e w' => e = .returned (.bool true) ∧ Below w.heap.size w w' := by
  have hm : n0 ≤ maxLen := Nat.le_trans w0.1 w0.2.1
  obtain ⟨_, hl⟩ := bounds_i64 w1
  obtain ⟨h1, _⟩ := bounds_i32 w2
  by_cases hn : n0 ≤ 1048576
  · have hd : decide (n0 ≤ 1048576) = true := by simp [hn]
    by_cases h2 : a2 ≤ 65536
    · exact body A0 n0 c0 z0 a2 a1 w w0 hn h1 h2 hl
    · have g1 : decide (65536 < a2) = true := by simp; omega
      go_enter Try.func7, Try.ntmps7
      go_wp2_with (go_at_call 29; refine (zzBytes _ _ _ _ _ _ hm).mono ?_; rintro e w' ⟨rfl, rfl⟩)
      go_ret
      exact ⟨rfl, Below.refl _ _⟩
  · have hd : decide (n0 ≤ 1048576) = false := by simp [hn]
    go_enter Try.func7, Try.ntmps7
    go_wp2_with (go_at_call 29; refine (zzBytes _ _ _ _ _ _ hm).mono ?_; rintro e w' ⟨rfl, rfl⟩)
    go_ret
    exact ⟨rfl, Below.refl _ _⟩
end Go.Proofs.Ytjgomgagaolhgaa.CssInd
