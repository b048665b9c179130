/- FnPrintIndentMatchesClampedWidth: the law. -/
import Derived.Test.YtjgomgagaolhgaaRows
import Derived.Test.YtjgomgagaolhgaaMem
import Derived.Test.YtjgomgagaolhgaaSl
import Derived.Test.YtjgomgagaolhgaaPrint
import Derived.Test.YtjgomgagaolhgaaClone
import Derived.Great.BuildSlice
import Derived.WalkKit
import Derived.ProofKit
import Derived.OpenShut
import Derived.Below
import Derived.WalkLawsBesides
import Derived.Lib.Hide
import Derived.Outline
import Derived.RegionTactic
import Derived.Deep.QuietTactic
import Derived.BigQuiet
import Derived.WalkSpells
import Derived.Deep.OwnRows
import Derived.IntWalk
import Derived.Deep.DeepMust
namespace Go.Proofs.Ytjgomgagaolhgaa.Indent
open Go.RowKit Mem Sl
set_option linter.unusedVariables false
open Prn

/-- How often printIndent prints two blanks. -/
def wid (indent limit : Int) : Nat := (if 0 < limit ∧ limit ≤ indent * 2 then limit / 2 else indent).toNat
def spaces (n : Nat) : List Int := List.replicate n 32
theorem spaces_two (zs : List Int) (k : Nat) : zs ++ spaces (2 * k) ++ nums ⟨#[32, 32]⟩ = zs ++ spaces (2 * (k + 1)) := by
  rw [List.append_assoc]
  congr 1
  have : nums ⟨#[32, 32]⟩ = List.replicate 2 32 := by decide
  rw [this, spaces, spaces, List.replicate_append_replicate]
  congr 1
theorem set_cs (cs : List Value) (v v' : Value) : (cs.set 9 v).set 9 v' = cs.set 9 v' := by simp
structure Opt (cs : List Value) (mini nxt : Bool) (indent limit : Int) : Prop where
  c25 : cs[25]? = some (.int .i64 indent)
  c26 : cs[26]? = some (.int .i64 limit)
  c28 : cs[28]? = some (.bool mini)
  c59 : cs[59]? = some (.bool nxt)
theorem Opt.set_ {cs : List Value} {m n : Bool} {i l : Int} (h : Opt cs m n i l) (v : Value) : Opt (cs.set 9 v) m n i l :=
  ⟨by rw [List.getElem?_set_ne (by decide)]; exact h.c25, by rw [List.getElem?_set_ne (by decide)]; exact h.c26, by rw [List.getElem?_set_ne (by decide)]; exact h.c28, by rw [List.getElem?_set_ne (by decide)]; exact h.c59⟩
/-- minified: nothing is done. -/
theorem ind_mini (p : Nat) (cs : List Value) (nxt : Bool) (i l : Int) (w : World) (hr : Row w p 100 cs) (ho : Opt cs true nxt i l) :
    Calls Try.prog 44 #[.pointer (some ⟨p, 0, none⟩)] w fun e w' => e = .returned (.tuple #[]) ∧ w = w' := by
  have c1 := hr.at_ ho.c28
  clear hr ho
  go_enter Try.func44, Try.ntmps44
  go_wp2_with fail
  refine bodyPost_ret (results_none rfl _ _ _) rfl ?_
  exact ⟨rfl, rfl⟩
/-- a pending blank: it is printed and the mark is cleared. -/
theorem ind_next (p : Nat) (cs : List Value) (v : Value) (zs : List Int) (i l : Int) (w : World) (h : Pr w p 100 9 5 cs v zs) (ho : Opt cs false true i l) (hb : zs.length + 1 ≤ 1000000000) :
    Calls Try.prog 44 #[.pointer (some ⟨p, 0, none⟩)] w fun e w' => e = .returned (.tuple #[]) ∧ ∃ v' w1, Pr w1 p 100 9 5 (cs.set 9 v') v' (zs ++ spaces 1) ∧ Step p w v w1 v' ∧ w' = w1.setCell ⟨p, 59, none⟩ (.bool false) := by
  have c1 := h.row.at_ ho.c28
  have c2 := h.row.at_ ho.c59
  have HO := Lib.hid ho
  have H := Lib.hid h
  clear h ho
  go_enter Try.func44, Try.ntmps44
  go_wp2_with fail
  refine (Print.pr48 p cs v zs ⟨#[32]⟩ w H.out hb).mono ?_
  rintro e w1 ⟨rfl, v', hp, hs⟩
  have d1 := hp.row.at_ (HO.out.set_ v').c59
  have d2 := hp.row.frozen 59
  have HP := Lib.hid hp
  have HS := Lib.hid hs
  clear hp hs
  go_wp2_with fail
  refine bodyPost_ret (results_none rfl _ _ _) rfl ?_
  exact ⟨rfl, v', w1, HP.out, HS.out, rfl⟩
theorem set_same {cs : List Value} {o : Nat} {v : Value} (h : cs[o]? = some v) : cs.set o v = cs := by
  apply List.ext_getElem?
  intro i
  rw [List.getElem?_set]
  split
  · rename_i hi
    subst hi
    split
    · exact h.symm
    · rename_i hl
      rw [List.getElem?_eq_none (by omega)]
  · rfl
set_option maxHeartbeats 1000000 in
theorem ind_a (p : Nat) (cs : List Value) (v : Value) (zs : List Int) (i l : Int) (w : World) (h : Pr w p 100 9 5 cs v zs) (ho : Opt cs false false i l) (hi1 : -1073741824 ≤ i) (hi2 : i ≤ 65536) (hl : l ≤ 9223372036854775807) (hb : zs.length ≤ 1048576) (hl0 : 0 < l) (hg : l ≤ i * 2) :
    Calls Try.prog 44 #[.pointer (some ⟨p, 0, none⟩)] w fun e w' => e = .returned (.tuple #[]) ∧ Printed w p 100 9 5 cs v (zs ++ spaces (2 * wid i l)) w' := by
  have c1 := h.row.at_ ho.c28
  have c2 := h.row.at_ ho.c59
  have c3 := h.row.at_ ho.c25
  have c4 := h.row.at_ ho.c26
  have HO := Lib.hid ho
  have H := Lib.hid h
  clear h ho
  have hwid : wid i l ≤ 65536 := by unfold wid; split <;> omega
  have e1 : decide (0 < l) = true := by simp [hl0]
  have e2 : decide (l ≤ i * 2) = true := by simp [hg]
  have HW := Lib.hid (show (l / 2).toNat = wid i l by unfold wid; rw [if_pos ⟨hl0, hg⟩])
  go_enter Try.func44, Try.ntmps44
  go_wp2_with fail
  go_loopw [3] (fun x wr => ∃ k : Nat, k ≤ wid i l ∧ x = .int .i64 k ∧ Hid (Printed w p 100 9 5 cs v (zs ++ spaces (2 * k)) wr)) (fun x _ => wid i l - (intOf x).toNat)
  case atStart =>
    refine ⟨0, Nat.zero_le _, rfl, ?_⟩
    refine Lib.hid ⟨v, ⟨?_, ?_, ?_⟩, Step.refl _ _ _⟩
    · rw [set_same H.out.at_]; exact H.out.row
    · rw [set_same H.out.at_]; exact H.out.at_
    · simpa [spaces] using H.out.buf
  case round =>
    obtain ⟨k, hk, rfl, HP⟩ := hrel
    have hw := HW.out
    by_cases hlt : k < wid i l
    · have ht : (k : Int) < l / 2 := by omega
      have hk2 : k ≤ 65536 := by omega
      clear hw
      obtain ⟨v1, hp1, hs1⟩ := HP.out
      have HS1 := Lib.hid hs1
      have HC := Lib.hid (Print.pr48 p _ v1 _ ⟨#[32, 32]⟩ wr hp1 (by simp [spaces, ByteArray.size]; omega))
      clear hs1 hp1 HP
      go_wp2_with fail
      refine (HC.out).mono ?_
      rintro e w2 ⟨rfl, v2, hp2, hs2⟩
      rw [spaces_two, set_cs] at hp2
      have HP2 := Lib.hid hp2
      have HS2 := Lib.hid (HS1.out.trans hs2)
      clear hp2 hs2
      go_wp2_with fail
      go_roundw
      case rel => exact ⟨k + 1, by omega, by go_num, Lib.hid ⟨v2, HP2.out, HS2.out⟩⟩
      case measure => simp [intOf]; omega
    · have ht : ¬ (k : Int) < l / 2 := by omega
      obtain rfl : k = wid i l := by omega
      clear hw hlt hk
      go_wp2_with fail
      go_end0
      exact ⟨rfl, HP.out⟩
set_option maxHeartbeats 1000000 in
theorem ind_b (p : Nat) (cs : List Value) (v : Value) (zs : List Int) (i l : Int) (w : World) (h : Pr w p 100 9 5 cs v zs) (ho : Opt cs false false i l) (hi1 : -1073741824 ≤ i) (hi2 : i ≤ 65536) (hl : l ≤ 9223372036854775807) (hb : zs.length ≤ 1048576) (hl0 : 0 < l) (hg : ¬ l ≤ i * 2) :
    Calls Try.prog 44 #[.pointer (some ⟨p, 0, none⟩)] w fun e w' => e = .returned (.tuple #[]) ∧ Printed w p 100 9 5 cs v (zs ++ spaces (2 * wid i l)) w' := by
  have c1 := h.row.at_ ho.c28
  have c2 := h.row.at_ ho.c59
  have c3 := h.row.at_ ho.c25
  have c4 := h.row.at_ ho.c26
  have HO := Lib.hid ho
  have H := Lib.hid h
  clear h ho
  have hwid : wid i l ≤ 65536 := by unfold wid; split <;> omega
  have e1 : decide (0 < l) = true := by simp [hl0]
  have e2 : decide (l ≤ i * 2) = false := by simp; omega
  have HW := Lib.hid (show (i).toNat = wid i l by unfold wid; rw [if_neg (fun h => hg h.2)])
  go_enter Try.func44, Try.ntmps44
  go_wp2_with fail
  go_loopw [3] (fun x wr => ∃ k : Nat, k ≤ wid i l ∧ x = .int .i64 k ∧ Hid (Printed w p 100 9 5 cs v (zs ++ spaces (2 * k)) wr)) (fun x _ => wid i l - (intOf x).toNat)
  case atStart =>
    refine ⟨0, Nat.zero_le _, rfl, ?_⟩
    refine Lib.hid ⟨v, ⟨?_, ?_, ?_⟩, Step.refl _ _ _⟩
    · rw [set_same H.out.at_]; exact H.out.row
    · rw [set_same H.out.at_]; exact H.out.at_
    · simpa [spaces] using H.out.buf
  case round =>
    obtain ⟨k, hk, rfl, HP⟩ := hrel
    have hw := HW.out
    by_cases hlt : k < wid i l
    · have ht : (k : Int) < i := by omega
      have hk2 : k ≤ 65536 := by omega
      clear hw
      obtain ⟨v1, hp1, hs1⟩ := HP.out
      have HS1 := Lib.hid hs1
      have HC := Lib.hid (Print.pr48 p _ v1 _ ⟨#[32, 32]⟩ wr hp1 (by simp [spaces, ByteArray.size]; omega))
      clear hs1 hp1 HP
      go_wp2_with fail
      refine (HC.out).mono ?_
      rintro e w2 ⟨rfl, v2, hp2, hs2⟩
      rw [spaces_two, set_cs] at hp2
      have HP2 := Lib.hid hp2
      have HS2 := Lib.hid (HS1.out.trans hs2)
      clear hp2 hs2
      go_wp2_with fail
      go_roundw
      case rel => exact ⟨k + 1, by omega, by go_num, Lib.hid ⟨v2, HP2.out, HS2.out⟩⟩
      case measure => simp [intOf]; omega
    · have ht : ¬ (k : Int) < i := by omega
      obtain rfl : k = wid i l := by omega
      clear hw hlt hk
      go_wp2_with fail
      go_end0
      exact ⟨rfl, HP.out⟩
set_option maxHeartbeats 1000000 in
theorem ind_c (p : Nat) (cs : List Value) (v : Value) (zs : List Int) (i l : Int) (w : World) (h : Pr w p 100 9 5 cs v zs) (ho : Opt cs false false i l) (hi1 : -1073741824 ≤ i) (hi2 : i ≤ 65536) (hl : l ≤ 9223372036854775807) (hb : zs.length ≤ 1048576) (hl0 : ¬ 0 < l) :
    Calls Try.prog 44 #[.pointer (some ⟨p, 0, none⟩)] w fun e w' => e = .returned (.tuple #[]) ∧ Printed w p 100 9 5 cs v (zs ++ spaces (2 * wid i l)) w' := by
  have c1 := h.row.at_ ho.c28
  have c2 := h.row.at_ ho.c59
  have c3 := h.row.at_ ho.c25
  have c4 := h.row.at_ ho.c26
  have HO := Lib.hid ho
  have H := Lib.hid h
  clear h ho
  have hwid : wid i l ≤ 65536 := by unfold wid; split <;> omega
  have e1 : decide (0 < l) = false := by simp; omega
  have HW := Lib.hid (show (i).toNat = wid i l by unfold wid; rw [if_neg (fun h => hl0 h.1)])
  go_enter Try.func44, Try.ntmps44
  go_wp2_with fail
  go_loopw [3] (fun x wr => ∃ k : Nat, k ≤ wid i l ∧ x = .int .i64 k ∧ Hid (Printed w p 100 9 5 cs v (zs ++ spaces (2 * k)) wr)) (fun x _ => wid i l - (intOf x).toNat)
  case atStart =>
    refine ⟨0, Nat.zero_le _, rfl, ?_⟩
    refine Lib.hid ⟨v, ⟨?_, ?_, ?_⟩, Step.refl _ _ _⟩
    · rw [set_same H.out.at_]; exact H.out.row
    · rw [set_same H.out.at_]; exact H.out.at_
    · simpa [spaces] using H.out.buf
  case round =>
    obtain ⟨k, hk, rfl, HP⟩ := hrel
    have hw := HW.out
    by_cases hlt : k < wid i l
    · have ht : (k : Int) < i := by omega
      have hk2 : k ≤ 65536 := by omega
      clear hw
      obtain ⟨v1, hp1, hs1⟩ := HP.out
      have HS1 := Lib.hid hs1
      have HC := Lib.hid (Print.pr48 p _ v1 _ ⟨#[32, 32]⟩ wr hp1 (by simp [spaces, ByteArray.size]; omega))
      clear hs1 hp1 HP
      go_wp2_with fail
      refine (HC.out).mono ?_
      rintro e w2 ⟨rfl, v2, hp2, hs2⟩
      rw [spaces_two, set_cs] at hp2
      have HP2 := Lib.hid hp2
      have HS2 := Lib.hid (HS1.out.trans hs2)
      clear hp2 hs2
      go_wp2_with fail
      go_roundw
      case rel => exact ⟨k + 1, by omega, by go_num, Lib.hid ⟨v2, HP2.out, HS2.out⟩⟩
      case measure => simp [intOf]; omega
    · have ht : ¬ (k : Int) < i := by omega
      obtain rfl : k = wid i l := by omega
      clear hw hlt hk
      go_wp2_with fail
      go_end0
      exact ⟨rfl, HP.out⟩

theorem ind_loop (p : Nat) (cs : List Value) (v : Value) (zs : List Int) (i l : Int) (w : World) (h : Pr w p 100 9 5 cs v zs) (ho : Opt cs false false i l) (hi1 : -1073741824 ≤ i) (hi2 : i ≤ 65536) (hl : l ≤ 9223372036854775807) (hb : zs.length ≤ 1048576) :
    Calls Try.prog 44 #[.pointer (some ⟨p, 0, none⟩)] w fun e w' => e = .returned (.tuple #[]) ∧ Printed w p 100 9 5 cs v (zs ++ spaces (2 * wid i l)) w' := by
  by_cases hl0 : 0 < l
  · by_cases hg : l ≤ i * 2
    · exact ind_a p cs v zs i l w h ho hi1 hi2 hl hb hl0 hg
    · exact ind_b p cs v zs i l w h ho hi1 hi2 hl hb hl0 hg
  · exact ind_c p cs v zs i l w h ho hi1 hi2 hl hb hl0
end Go.Proofs.Ytjgomgagaolhgaa.Indent
