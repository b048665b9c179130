/- FnPrintQuotedUTF8QuoteAndLength: ways of the round. -/
import Derived.Test.YtmakaafjkeeooabFmtRows
import Derived.Test.YtmakaafjkeeooabFmtMem
import Derived.Test.YtmakaafjkeeooabFmtSl
import Derived.Test.YtmakaafjkeeooabFmtQuE
import Derived.Deep.RegionLaw
import Derived.Deep.DeepCutAuto
import Derived.Deep.Cut
import Derived.Deep.CutBlock
import Derived.WalkKit
import Derived.ProofKit
import Derived.OpenShut
import Derived.Below
import Derived.WalkLawsBesides
import Derived.Lib.Hide
import Derived.Outline
import Derived.RegionTactic
import Derived.Deep.QuietTactic
import Derived.BigQuiet
import Derived.WalkSpells
import Derived.Deep.OwnRows
import Derived.IntWalk
import Derived.Deep.DeepMust
namespace Go.Proofs.YtmakaafjkeeooabFmt.QuF0
open Go.RowKit Mem Sl
set_option linter.unusedVariables false
open Prn Pru Own Owg Dec Enc QuA QuC QuD QuE

set_option maxRecDepth 100000 in
set_option maxHeartbeats 4000000 in
theorem l7 (W1 wr : World) (B0 ob T p d n cap k tot m m' : Nat) (q f : Int) (A1 : Option Addr) (n1 c1 : Nat) (U Z0 M : List Int) (g : Nat → Value) (Q0 : Exit → Act → World → Prop) 
    (HP : Hid (PU W1 B0 ob T wr (.slice A1 n1 c1) (Z0 ++ M))) (HE : Hid (Enc.Enc (U.drop (k + 1)) m')) (HM : Hid (m = 1 + m')) (HL1 : Hid (tot ≤ M.length + m)) (HL2 : Hid (M.length + 4 * m ≤ 4 * tot)) (HLN : Hid ((Z0 ++ M).length ≤ 8000000))
    (hlt : k < n) (hcap2 : n ≤ cap) (hcap : cap ≤ 9223372036854775807) (hn : n ≤ 1048576) (d0 : wr.cell? ⟨d, k, none⟩ = some (.int .u16 7)) (HCEL : Hid (∀ i, i < n → wr.cell? ⟨d, i, none⟩ = some (.int .u16 (U.getD i 0)))) (e24 : wr.cell? ⟨p, 24, none⟩ = some (.int .u64 0)) (e31 : wr.cell? ⟨p, 31, none⟩ = some (.bool false)) :
    Code.wp Tryf.prog body (Exit.then (RP W1 B0 ob T p d n cap tot q f U Z0 ⟨FR p d n cap T k q f A1 n1 c1 g, []⟩) Q0) ⟨FR p d n cap T k q f A1 n1 c1 g, []⟩ wr := by
  obtain ⟨i0, hi, hz0, hz1, hz2⟩ := info_parts info5
  have tlt : decide ((k : Int) < (n : Int)) = true := by simp; omega
  conv => arg 2; whnf
  unfold FR
  go_wp2_with (at_builtin; refine wpList_append_str _ rfl (.tmp 282) (.const (.string ⟨#[92, 120, 48, 55]⟩)) 22 9 rfl 5 i0 Tryf.underlying22 Tryf.underlying9 hi hz0 hz1 hz2 (.slice A1 n1 c1) (Z0 ++ M) rfl HP.out.buf ⟨#[92, 120, 48, 55]⟩ rfl (by have := HLN.out; have e : (⟨#[92, 120, 48, 55]⟩ : ByteArray).size = 4 := rfl; omega) ?_; intro A2 n2 c2 w2 hbuf hgr hat; have HQ2 := Lib.hid (HP.out.append hbuf hgr hat); clear hbuf hgr hat)
  unfold RP WI Wmu
  exact ⟨⟨k + 1, A2, n2, c2, rfl, rfl, rfl, rfl, rfl, rfl, rfl, rfl, congrArg (fun z => some (Value.int IntKind.i64 z)) (by omega), rfl, rfl, by omega, iv_step HE.out HM.out HL1.out HL2.out HQ2.out (by first | (simp only [List.length_cons, List.length_nil]; omega) | (rw [nums_length]; decide)) (by first | (simp only [List.length_cons, List.length_nil]; omega) | (rw [nums_length]; decide))⟩, by simp only [List.getD_cons_succ, List.getD_cons_zero, intOf]; omega⟩

set_option maxRecDepth 100000 in
set_option maxHeartbeats 4000000 in
theorem l11 (W1 wr : World) (B0 ob T p d n cap k tot m m' : Nat) (q f : Int) (A1 : Option Addr) (n1 c1 : Nat) (U Z0 M : List Int) (g : Nat → Value) (Q0 : Exit → Act → World → Prop) 
    (HP : Hid (PU W1 B0 ob T wr (.slice A1 n1 c1) (Z0 ++ M))) (HE : Hid (Enc.Enc (U.drop (k + 1)) m')) (HM : Hid (m = 1 + m')) (HL1 : Hid (tot ≤ M.length + m)) (HL2 : Hid (M.length + 4 * m ≤ 4 * tot)) (HLN : Hid ((Z0 ++ M).length ≤ 8000000))
    (hlt : k < n) (hcap2 : n ≤ cap) (hcap : cap ≤ 9223372036854775807) (hn : n ≤ 1048576) (d0 : wr.cell? ⟨d, k, none⟩ = some (.int .u16 11)) (HCEL : Hid (∀ i, i < n → wr.cell? ⟨d, i, none⟩ = some (.int .u16 (U.getD i 0)))) (e24 : wr.cell? ⟨p, 24, none⟩ = some (.int .u64 0)) (e31 : wr.cell? ⟨p, 31, none⟩ = some (.bool false)) :
    Code.wp Tryf.prog body (Exit.then (RP W1 B0 ob T p d n cap tot q f U Z0 ⟨FR p d n cap T k q f A1 n1 c1 g, []⟩) Q0) ⟨FR p d n cap T k q f A1 n1 c1 g, []⟩ wr := by
  obtain ⟨i0, hi, hz0, hz1, hz2⟩ := info_parts info5
  have tlt : decide ((k : Int) < (n : Int)) = true := by simp; omega
  conv => arg 2; whnf
  unfold FR
  go_wp2_with (at_builtin; refine wpList_append_str _ rfl (.tmp 309) (.const (.string ⟨#[92, 118]⟩)) 22 9 rfl 5 i0 Tryf.underlying22 Tryf.underlying9 hi hz0 hz1 hz2 (.slice A1 n1 c1) (Z0 ++ M) rfl HP.out.buf ⟨#[92, 118]⟩ rfl (by have := HLN.out; have e : (⟨#[92, 118]⟩ : ByteArray).size = 2 := rfl; omega) ?_; intro A2 n2 c2 w2 hbuf hgr hat; have HQ2 := Lib.hid (HP.out.append hbuf hgr hat); clear hbuf hgr hat)
  unfold RP WI Wmu
  exact ⟨⟨k + 1, A2, n2, c2, rfl, rfl, rfl, rfl, rfl, rfl, rfl, rfl, congrArg (fun z => some (Value.int IntKind.i64 z)) (by omega), rfl, rfl, by omega, iv_step HE.out HM.out HL1.out HL2.out HQ2.out (by first | (simp only [List.length_cons, List.length_nil]; omega) | (rw [nums_length]; decide)) (by first | (simp only [List.length_cons, List.length_nil]; omega) | (rw [nums_length]; decide))⟩, by simp only [List.getD_cons_succ, List.getD_cons_zero, intOf]; omega⟩

set_option maxRecDepth 100000 in
set_option maxHeartbeats 4000000 in
theorem l8233 (W1 wr : World) (B0 ob T p d n cap k tot m m' : Nat) (q f : Int) (A1 : Option Addr) (n1 c1 : Nat) (U Z0 M : List Int) (g : Nat → Value) (Q0 : Exit → Act → World → Prop) 
    (HP : Hid (PU W1 B0 ob T wr (.slice A1 n1 c1) (Z0 ++ M))) (HE : Hid (Enc.Enc (U.drop (k + 1)) m')) (HM : Hid (m = 3 + m')) (HL1 : Hid (tot ≤ M.length + m)) (HL2 : Hid (M.length + 4 * m ≤ 4 * tot)) (HLN : Hid ((Z0 ++ M).length ≤ 8000000))
    (hlt : k < n) (hcap2 : n ≤ cap) (hcap : cap ≤ 9223372036854775807) (hn : n ≤ 1048576) (d0 : wr.cell? ⟨d, k, none⟩ = some (.int .u16 8233)) (HCEL : Hid (∀ i, i < n → wr.cell? ⟨d, i, none⟩ = some (.int .u16 (U.getD i 0)))) (e24 : wr.cell? ⟨p, 24, none⟩ = some (.int .u64 0)) (e31 : wr.cell? ⟨p, 31, none⟩ = some (.bool false)) :
    Code.wp Tryf.prog body (Exit.then (RP W1 B0 ob T p d n cap tot q f U Z0 ⟨FR p d n cap T k q f A1 n1 c1 g, []⟩) Q0) ⟨FR p d n cap T k q f A1 n1 c1 g, []⟩ wr := by
  obtain ⟨i0, hi, hz0, hz1, hz2⟩ := info_parts info5
  have tlt : decide ((k : Int) < (n : Int)) = true := by simp; omega
  conv => arg 2; whnf
  unfold FR
  go_wp2_with (at_builtin; refine wpList_append_str _ rfl (.tmp 437) (.const (.string ⟨#[92, 117, 50, 48, 50, 57]⟩)) 22 9 rfl 5 i0 Tryf.underlying22 Tryf.underlying9 hi hz0 hz1 hz2 (.slice A1 n1 c1) (Z0 ++ M) rfl HP.out.buf ⟨#[92, 117, 50, 48, 50, 57]⟩ rfl (by have := HLN.out; have e : (⟨#[92, 117, 50, 48, 50, 57]⟩ : ByteArray).size = 6 := rfl; omega) ?_; intro A2 n2 c2 w2 hbuf hgr hat; have HQ2 := Lib.hid (HP.out.append hbuf hgr hat); clear hbuf hgr hat)
  unfold RP WI Wmu
  exact ⟨⟨k + 1, A2, n2, c2, rfl, rfl, rfl, rfl, rfl, rfl, rfl, rfl, congrArg (fun z => some (Value.int IntKind.i64 z)) (by omega), rfl, rfl, by omega, iv_step HE.out HM.out HL1.out HL2.out HQ2.out (by first | (simp only [List.length_cons, List.length_nil]; omega) | (rw [nums_length]; decide)) (by first | (simp only [List.length_cons, List.length_nil]; omega) | (rw [nums_length]; decide))⟩, by simp only [List.getD_cons_succ, List.getD_cons_zero, intOf]; omega⟩

set_option maxRecDepth 100000 in
set_option maxHeartbeats 4000000 in
theorem l0c (W1 wr : World) (B0 ob T p d n cap k tot m m' : Nat) (q f : Int) (A1 : Option Addr) (n1 c1 : Nat) (U Z0 M : List Int) (g : Nat → Value) (Q0 : Exit → Act → World → Prop) (h2 : k + 1 < n) (e1 : U.getD (k + 1) 0 < 48)
    (HP : Hid (PU W1 B0 ob T wr (.slice A1 n1 c1) (Z0 ++ M))) (HE : Hid (Enc.Enc (U.drop (k + 1)) m')) (HM : Hid (m = 1 + m')) (HL1 : Hid (tot ≤ M.length + m)) (HL2 : Hid (M.length + 4 * m ≤ 4 * tot)) (HLN : Hid ((Z0 ++ M).length ≤ 8000000))
    (hlt : k < n) (hcap2 : n ≤ cap) (hcap : cap ≤ 9223372036854775807) (hn : n ≤ 1048576) (d0 : wr.cell? ⟨d, k, none⟩ = some (.int .u16 0)) (HCEL : Hid (∀ i, i < n → wr.cell? ⟨d, i, none⟩ = some (.int .u16 (U.getD i 0)))) (e24 : wr.cell? ⟨p, 24, none⟩ = some (.int .u64 0)) (e31 : wr.cell? ⟨p, 31, none⟩ = some (.bool false)) :
    Code.wp Tryf.prog body (Exit.then (RP W1 B0 ob T p d n cap tot q f U Z0 ⟨FR p d n cap T k q f A1 n1 c1 g, []⟩) Q0) ⟨FR p d n cap T k q f A1 n1 c1 g, []⟩ wr := by
  obtain ⟨i0, hi, hz0, hz1, hz2⟩ := info_parts info5
  have tlt : decide ((k : Int) < (n : Int)) = true := by simp; omega
  have t2 : decide ((k : Int) + 1 < (n : Int)) = true := by simp; omega
  have d1 := HCEL.out (k + 1) h2
  generalize U.getD (k + 1) 0 = c2v at d1 e1
  have u1 : decide ((48 : Int) ≤ c2v) = false := by simp; omega
  conv => arg 2; whnf
  unfold FR
  go_wp2_with (at_builtin; refine wpList_append_str _ rfl (.tmp 278) (.const (.string ⟨#[92, 48]⟩)) 22 9 rfl 5 i0 Tryf.underlying22 Tryf.underlying9 hi hz0 hz1 hz2 (.slice A1 n1 c1) (Z0 ++ M) rfl HP.out.buf ⟨#[92, 48]⟩ rfl (by have := HLN.out; have e : (⟨#[92, 48]⟩ : ByteArray).size = 2 := rfl; omega) ?_; intro A2 n2 c2 w2 hbuf hgr hat; have HQ2 := Lib.hid (HP.out.append hbuf hgr hat); clear hbuf hgr hat)
  unfold RP WI Wmu
  exact ⟨⟨k + 1, A2, n2, c2, rfl, rfl, rfl, rfl, rfl, rfl, rfl, rfl, congrArg (fun z => some (Value.int IntKind.i64 z)) (by omega), rfl, rfl, by omega, iv_step HE.out HM.out HL1.out HL2.out HQ2.out (by first | (simp only [List.length_cons, List.length_nil]; omega) | (rw [nums_length]; decide)) (by first | (simp only [List.length_cons, List.length_nil]; omega) | (rw [nums_length]; decide))⟩, by simp only [List.getD_cons_succ, List.getD_cons_zero, intOf]; omega⟩

set_option maxRecDepth 100000 in
set_option maxHeartbeats 4000000 in
theorem l39a (W1 wr : World) (B0 ob T p d n cap k tot m m' : Nat) (q f : Int) (A1 : Option Addr) (n1 c1 : Nat) (U Z0 M : List Int) (g : Nat → Value) (Q0 : Exit → Act → World → Prop) (tq : (q == 39) = true)
    (HP : Hid (PU W1 B0 ob T wr (.slice A1 n1 c1) (Z0 ++ M))) (HE : Hid (Enc.Enc (U.drop (k + 1)) m')) (HM : Hid (m = 1 + m')) (HL1 : Hid (tot ≤ M.length + m)) (HL2 : Hid (M.length + 4 * m ≤ 4 * tot)) (HLN : Hid ((Z0 ++ M).length ≤ 8000000))
    (hlt : k < n) (hcap2 : n ≤ cap) (hcap : cap ≤ 9223372036854775807) (hn : n ≤ 1048576) (d0 : wr.cell? ⟨d, k, none⟩ = some (.int .u16 39)) (HCEL : Hid (∀ i, i < n → wr.cell? ⟨d, i, none⟩ = some (.int .u16 (U.getD i 0)))) (e24 : wr.cell? ⟨p, 24, none⟩ = some (.int .u64 0)) (e31 : wr.cell? ⟨p, 31, none⟩ = some (.bool false)) :
    Code.wp Tryf.prog body (Exit.then (RP W1 B0 ob T p d n cap tot q f U Z0 ⟨FR p d n cap T k q f A1 n1 c1 g, []⟩) Q0) ⟨FR p d n cap T k q f A1 n1 c1 g, []⟩ wr := by
  obtain ⟨i0, hi, hz0, hz1, hz2⟩ := info_parts info5
  have tlt : decide ((k : Int) < (n : Int)) = true := by simp; omega
  conv => arg 2; whnf
  unfold FR
  go_wp2_with (first | (at_builtin; refine wpList_append_buf _ rfl (.tmp 383) (.tmp 384) 22 rfl 5 i0 Tryf.underlying22 hi hz0 hz1 hz2 (.slice A1 n1 c1) (Z0 ++ M) rfl (HP.out.alloc (.cells #[.int .u8 92] 5)).buf ⟨wr.heap.size, 0, none⟩ 1 1 [92] rfl rfl (fun j hj => (by obtain rfl : j = 0 := (by omega); exact (Row.newArr wr 5 #[.int .u8 92]).at_ rfl)) (by have := HLN.out; omega) ?_; intro A3 n3 c3 w3 hbuf hgr hat; have HQ1 := Lib.hid ((HP.out.alloc (.cells #[.int .u8 92] 5)).append hbuf hgr hat); clear hbuf hgr hat) | (at_builtin; refine wpList_append_buf _ rfl (.tmp 386) (.tmp 387) 22 rfl 5 i0 Tryf.underlying22 hi hz0 hz1 hz2 (.slice A3 n3 c3) (Z0 ++ M ++ [92]) rfl (HQ1.out.alloc (.cells #[.int .u8 39] 5)).buf ⟨w3.heap.size, 0, none⟩ 1 1 [39] rfl rfl (fun j hj => (by obtain rfl : j = 0 := (by omega); exact (Row.newArr w3 5 #[.int .u8 39]).at_ rfl)) (by have := HLN.out; simp only [List.length_append, List.length_singleton] at this ⊢; omega) ?_; intro A2 n2 c2 w2 hbuf hgr hat; have HQ2 := Lib.hid ((HQ1.out.alloc (.cells #[.int .u8 39] 5)).append hbuf hgr hat); clear hbuf hgr hat))
  unfold RP WI Wmu
  exact ⟨⟨k + 1, A2, n2, c2, rfl, rfl, rfl, rfl, rfl, rfl, rfl, rfl, congrArg (fun z => some (Value.int IntKind.i64 z)) (by omega), rfl, rfl, by omega, iv_step2 HE.out HM.out HL1.out HL2.out HQ2.out (by first | (simp only [List.length_cons, List.length_nil]; omega) | (rw [nums_length]; decide)) (by first | (simp only [List.length_cons, List.length_nil]; omega) | (rw [nums_length]; decide))⟩, by simp only [List.getD_cons_succ, List.getD_cons_zero, intOf]; omega⟩

set_option maxRecDepth 100000 in
set_option maxHeartbeats 4000000 in
theorem l96a (W1 wr : World) (B0 ob T p d n cap k tot m m' : Nat) (q f : Int) (A1 : Option Addr) (n1 c1 : Nat) (U Z0 M : List Int) (g : Nat → Value) (Q0 : Exit → Act → World → Prop) (tq : (q == 96) = true)
    (HP : Hid (PU W1 B0 ob T wr (.slice A1 n1 c1) (Z0 ++ M))) (HE : Hid (Enc.Enc (U.drop (k + 1)) m')) (HM : Hid (m = 1 + m')) (HL1 : Hid (tot ≤ M.length + m)) (HL2 : Hid (M.length + 4 * m ≤ 4 * tot)) (HLN : Hid ((Z0 ++ M).length ≤ 8000000))
    (hlt : k < n) (hcap2 : n ≤ cap) (hcap : cap ≤ 9223372036854775807) (hn : n ≤ 1048576) (d0 : wr.cell? ⟨d, k, none⟩ = some (.int .u16 96)) (HCEL : Hid (∀ i, i < n → wr.cell? ⟨d, i, none⟩ = some (.int .u16 (U.getD i 0)))) (e24 : wr.cell? ⟨p, 24, none⟩ = some (.int .u64 0)) (e31 : wr.cell? ⟨p, 31, none⟩ = some (.bool false)) :
    Code.wp Tryf.prog body (Exit.then (RP W1 B0 ob T p d n cap tot q f U Z0 ⟨FR p d n cap T k q f A1 n1 c1 g, []⟩) Q0) ⟨FR p d n cap T k q f A1 n1 c1 g, []⟩ wr := by
  obtain ⟨i0, hi, hz0, hz1, hz2⟩ := info_parts info5
  have tlt : decide ((k : Int) < (n : Int)) = true := by simp; omega
  conv => arg 2; whnf
  unfold FR
  go_wp2_with (first | (at_builtin; refine wpList_append_buf _ rfl (.tmp 403) (.tmp 404) 22 rfl 5 i0 Tryf.underlying22 hi hz0 hz1 hz2 (.slice A1 n1 c1) (Z0 ++ M) rfl (HP.out.alloc (.cells #[.int .u8 92] 5)).buf ⟨wr.heap.size, 0, none⟩ 1 1 [92] rfl rfl (fun j hj => (by obtain rfl : j = 0 := (by omega); exact (Row.newArr wr 5 #[.int .u8 92]).at_ rfl)) (by have := HLN.out; omega) ?_; intro A3 n3 c3 w3 hbuf hgr hat; have HQ1 := Lib.hid ((HP.out.alloc (.cells #[.int .u8 92] 5)).append hbuf hgr hat); clear hbuf hgr hat) | (at_builtin; refine wpList_append_buf _ rfl (.tmp 406) (.tmp 407) 22 rfl 5 i0 Tryf.underlying22 hi hz0 hz1 hz2 (.slice A3 n3 c3) (Z0 ++ M ++ [92]) rfl (HQ1.out.alloc (.cells #[.int .u8 96] 5)).buf ⟨w3.heap.size, 0, none⟩ 1 1 [96] rfl rfl (fun j hj => (by obtain rfl : j = 0 := (by omega); exact (Row.newArr w3 5 #[.int .u8 96]).at_ rfl)) (by have := HLN.out; simp only [List.length_append, List.length_singleton] at this ⊢; omega) ?_; intro A2 n2 c2 w2 hbuf hgr hat; have HQ2 := Lib.hid ((HQ1.out.alloc (.cells #[.int .u8 96] 5)).append hbuf hgr hat); clear hbuf hgr hat))
  unfold RP WI Wmu
  exact ⟨⟨k + 1, A2, n2, c2, rfl, rfl, rfl, rfl, rfl, rfl, rfl, rfl, congrArg (fun z => some (Value.int IntKind.i64 z)) (by omega), rfl, rfl, by omega, iv_step2 HE.out HM.out HL1.out HL2.out HQ2.out (by first | (simp only [List.length_cons, List.length_nil]; omega) | (rw [nums_length]; decide)) (by first | (simp only [List.length_cons, List.length_nil]; omega) | (rw [nums_length]; decide))⟩, by simp only [List.getD_cons_succ, List.getD_cons_zero, intOf]; omega⟩

set_option maxRecDepth 100000 in
set_option maxHeartbeats 4000000 in
theorem l36c (W1 wr : World) (B0 ob T p d n cap k tot m m' : Nat) (q f : Int) (A1 : Option Addr) (n1 c1 : Nat) (U Z0 M : List Int) (g : Nat → Value) (Q0 : Exit → Act → World → Prop) (tq : (q == 96) = true) (h2 : ¬ k + 1 < n)
    (HP : Hid (PU W1 B0 ob T wr (.slice A1 n1 c1) (Z0 ++ M))) (HE : Hid (Enc.Enc (U.drop (k + 1)) m')) (HM : Hid (m = 1 + m')) (HL1 : Hid (tot ≤ M.length + m)) (HL2 : Hid (M.length + 4 * m ≤ 4 * tot)) (HLN : Hid ((Z0 ++ M).length ≤ 8000000))
    (hlt : k < n) (hcap2 : n ≤ cap) (hcap : cap ≤ 9223372036854775807) (hn : n ≤ 1048576) (d0 : wr.cell? ⟨d, k, none⟩ = some (.int .u16 36)) (HCEL : Hid (∀ i, i < n → wr.cell? ⟨d, i, none⟩ = some (.int .u16 (U.getD i 0)))) (e24 : wr.cell? ⟨p, 24, none⟩ = some (.int .u64 0)) (e31 : wr.cell? ⟨p, 31, none⟩ = some (.bool false)) :
    Code.wp Tryf.prog body (Exit.then (RP W1 B0 ob T p d n cap tot q f U Z0 ⟨FR p d n cap T k q f A1 n1 c1 g, []⟩) Q0) ⟨FR p d n cap T k q f A1 n1 c1 g, []⟩ wr := by
  obtain ⟨i0, hi, hz0, hz1, hz2⟩ := info_parts info5
  have tlt : decide ((k : Int) < (n : Int)) = true := by simp; omega
  have t2 : decide ((k : Int) + 1 < (n : Int)) = false := by simp; omega
  conv => arg 2; whnf
  unfold FR
  go_wp2_with (at_builtin; refine wpList_append_buf _ rfl (.tmp 428) (.tmp 429) 22 rfl 5 i0 Tryf.underlying22 hi hz0 hz1 hz2 (.slice A1 n1 c1) (Z0 ++ M) rfl (HP.out.alloc (.cells #[.int .u8 36] 5)).buf ⟨wr.heap.size, 0, none⟩ 1 1 [36] rfl rfl (fun j hj => (by obtain rfl : j = 0 := (by omega); exact (Row.newArr wr 5 #[.int .u8 36]).at_ rfl)) (by have := HLN.out; omega) ?_; intro A2 n2 c2 w2 hbuf hgr hat; have HQ2 := Lib.hid ((HP.out.alloc (.cells #[.int .u8 36] 5)).append hbuf hgr hat); clear hbuf hgr hat)
  unfold RP WI Wmu
  exact ⟨⟨k + 1, A2, n2, c2, rfl, rfl, rfl, rfl, rfl, rfl, rfl, rfl, congrArg (fun z => some (Value.int IntKind.i64 z)) (by omega), rfl, rfl, by omega, iv_step HE.out HM.out HL1.out HL2.out HQ2.out (by first | (simp only [List.length_cons, List.length_nil]; omega) | (rw [nums_length]; decide)) (by first | (simp only [List.length_cons, List.length_nil]; omega) | (rw [nums_length]; decide))⟩, by simp only [List.getD_cons_succ, List.getD_cons_zero, intOf]; omega⟩

set_option maxRecDepth 100000 in
set_option maxHeartbeats 4000000 in
theorem le2 (W1 wr : World) (B0 ob T p d n cap k tot m m' : Nat) (q f : Int) (A1 : Option Addr) (n1 c1 : Nat) (U Z0 M : List Int) (g : Nat → Value) (Q0 : Exit → Act → World → Prop) (c : Int) (hne : c ≠ 0 ∧ c ≠ 7 ∧ c ≠ 8 ∧ c ≠ 12 ∧ c ≠ 10 ∧ c ≠ 13 ∧ c ≠ 11 ∧ c ≠ 27 ∧ c ≠ 92 ∧ c ≠ 47 ∧ c ≠ 39 ∧ c ≠ 34 ∧ c ≠ 96 ∧ c ≠ 36 ∧ c ≠ 8232 ∧ c ≠ 8233 ∧ c ≠ 65279) (z0 : 128 ≤ c) (z1 : c ≤ 2047) (kk : Nat) (hk1 : 1 ≤ kk) (hk2 : kk ≤ 2)
    (HP : Hid (PU W1 B0 ob T wr (.slice A1 n1 c1) (Z0 ++ M))) (HE : Hid (Enc.Enc (U.drop (k + 1)) m')) (HM : Hid (m = kk + m')) (HL1 : Hid (tot ≤ M.length + m)) (HL2 : Hid (M.length + 4 * m ≤ 4 * tot)) (HLN : Hid ((Z0 ++ M).length ≤ 8000000))
    (hlt : k < n) (hcap2 : n ≤ cap) (hcap : cap ≤ 9223372036854775807) (hn : n ≤ 1048576) (d0 : wr.cell? ⟨d, k, none⟩ = some (.int .u16 c)) (HCEL : Hid (∀ i, i < n → wr.cell? ⟨d, i, none⟩ = some (.int .u16 (U.getD i 0)))) (e24 : wr.cell? ⟨p, 24, none⟩ = some (.int .u64 0)) (e31 : wr.cell? ⟨p, 31, none⟩ = some (.bool false)) :
    Code.wp Tryf.prog body (Exit.then (RP W1 B0 ob T p d n cap tot q f U Z0 ⟨FR p d n cap T k q f A1 n1 c1 g, []⟩) Q0) ⟨FR p d n cap T k q f A1 n1 c1 g, []⟩ wr := by
  obtain ⟨i0, hi, hz0, hz1, hz2⟩ := info_parts info5
  have tlt : decide ((k : Int) < (n : Int)) = true := by simp; omega
  obtain ⟨x0, x7, x8, x12, x10, x13, x11, x27, x92, x47, x39, x34, x96, x36, x8232, x8233, x65279⟩ := hne
  have v0 : (c == 0) = false := by simp [x0]
  have v7 : (c == 7) = false := by simp [x7]
  have v8 : (c == 8) = false := by simp [x8]
  have v12 : (c == 12) = false := by simp [x12]
  have v10 : (c == 10) = false := by simp [x10]
  have v13 : (c == 13) = false := by simp [x13]
  have v11 : (c == 11) = false := by simp [x11]
  have v27 : (c == 27) = false := by simp [x27]
  have v92 : (c == 92) = false := by simp [x92]
  have v47 : (c == 47) = false := by simp [x47]
  have v39 : (c == 39) = false := by simp [x39]
  have v34 : (c == 34) = false := by simp [x34]
  have v96 : (c == 96) = false := by simp [x96]
  have v36 : (c == 36) = false := by simp [x36]
  have v8232 : (c == 8232) = false := by simp [x8232]
  have v8233 : (c == 8233) = false := by simp [x8233]
  have v65279 : (c == 65279) = false := by simp [x65279]
  clear x0 x7 x8 x12 x10 x13 x11 x27 x92 x47 x39 x34 x96 x36 x8232 x8233 x65279
  have ta : decide (c ≤ 126) = false := by simp; omega
  have wc : IntKind.i32.wrap c = c := IntWalk.i32_in _ (by omega)
  have tb1 : decide ((55296 : Int) ≤ c) = false := by simp; omega
  have tb2 : decide ((56320 : Int) ≤ c) = false := by simp; omega
  have HEC := Lib.hid (enc_2 T c wr HP.out.t4 (by omega) (by omega))
  conv => arg 2; whnf
  unfold FR
  go_wp2_with (first | (go_at_call 19; (with_reducible refine HEC.out.mono ?_); rintro e w8 ⟨rfl, ⟨ta, tb, tc, td, hr8⟩, hg8, hs8⟩; have HR4 := Lib.hid hr8; have HP8 := Lib.hid (HP.out.enc ⟨ta, tb, tc, td, hr8⟩ hg8); clear hr8 hg8 hs8) | (at_builtin; refine wpList_append_buf _ rfl (.tmp 91) (.tmp 94) 22 rfl 5 i0 Tryf.underlying22 hi hz0 hz1 hz2 (.slice A1 n1 c1) (Z0 ++ M) rfl HP8.out.buf ⟨T, 0, none⟩ 2 4 [ta, tb] rfl rfl (fun j hj => (by have hr9 := HR4.out; rcases (show j = 0 ∨ j = 1 by omega) with rfl | rfl <;> exact hr9.at_ rfl)) (by have := HLN.out; omega) ?_; intro A2 n2 c2 w2 hbuf hgr hat; have HQ2 := Lib.hid (HP8.out.append hbuf hgr hat); clear hbuf hgr hat))
  unfold RP WI Wmu
  exact ⟨⟨k + 1, A2, n2, c2, rfl, rfl, rfl, rfl, rfl, rfl, rfl, rfl, congrArg (fun z => some (Value.int IntKind.i64 z)) (by omega), rfl, rfl, by omega, iv_step HE.out HM.out HL1.out HL2.out HQ2.out (by first | (simp only [List.length_cons, List.length_nil]; omega) | (rw [nums_length]; decide)) (by first | (simp only [List.length_cons, List.length_nil]; omega) | (rw [nums_length]; decide))⟩, by simp only [List.getD_cons_succ, List.getD_cons_zero, intOf]; omega⟩

set_option maxRecDepth 100000 in
set_option maxHeartbeats 4000000 in
theorem l47a (W1 wr : World) (B0 ob T p d n cap k tot m m' : Nat) (q f : Int) (A1 : Option Addr) (n1 c1 : Nat) (U Z0 M : List Int) (g : Nat → Value) (Q0 : Exit → Act → World → Prop) (h1 : k < 1)
    (HP : Hid (PU W1 B0 ob T wr (.slice A1 n1 c1) (Z0 ++ M))) (HE : Hid (Enc.Enc (U.drop (k + 1)) m')) (HM : Hid (m = 1 + m')) (HL1 : Hid (tot ≤ M.length + m)) (HL2 : Hid (M.length + 4 * m ≤ 4 * tot)) (HLN : Hid ((Z0 ++ M).length ≤ 8000000))
    (hlt : k < n) (hcap2 : n ≤ cap) (hcap : cap ≤ 9223372036854775807) (hn : n ≤ 1048576) (d0 : wr.cell? ⟨d, k, none⟩ = some (.int .u16 47)) (HCEL : Hid (∀ i, i < n → wr.cell? ⟨d, i, none⟩ = some (.int .u16 (U.getD i 0)))) (e24 : wr.cell? ⟨p, 24, none⟩ = some (.int .u64 0)) (e31 : wr.cell? ⟨p, 31, none⟩ = some (.bool false)) :
    Code.wp Tryf.prog body (Exit.then (RP W1 B0 ob T p d n cap tot q f U Z0 ⟨FR p d n cap T k q f A1 n1 c1 g, []⟩) Q0) ⟨FR p d n cap T k q f A1 n1 c1 g, []⟩ wr := by
  obtain ⟨i0, hi, hz0, hz1, hz2⟩ := info_parts info5
  have tlt : decide ((k : Int) < (n : Int)) = true := by simp; omega
  have u1 : decide ((2 : Int) ≤ (k : Int) + 1) = false := by simp; omega
  conv => arg 2; whnf
  unfold FR
  go_wp2_with (first | (go_at_call 14; (with_reducible refine (has14 68719476736 wr (.inr rfl)).mono ?_); rintro e w9 ⟨rfl, rfl⟩) | (at_builtin; refine wpList_append_buf _ rfl (.tmp 376) (.tmp 377) 22 rfl 5 i0 Tryf.underlying22 hi hz0 hz1 hz2 (.slice A1 n1 c1) (Z0 ++ M) rfl (HP.out.alloc (.cells #[.int .u8 47] 5)).buf ⟨wr.heap.size, 0, none⟩ 1 1 [47] rfl rfl (fun j hj => (by obtain rfl : j = 0 := (by omega); exact (Row.newArr wr 5 #[.int .u8 47]).at_ rfl)) (by have := HLN.out; omega) ?_; intro A2 n2 c2 w2 hbuf hgr hat; have HQ2 := Lib.hid ((HP.out.alloc (.cells #[.int .u8 47] 5)).append hbuf hgr hat); clear hbuf hgr hat))
  unfold RP WI Wmu
  exact ⟨⟨k + 1, A2, n2, c2, rfl, rfl, rfl, rfl, rfl, rfl, rfl, rfl, congrArg (fun z => some (Value.int IntKind.i64 z)) (by omega), rfl, rfl, by omega, iv_step HE.out HM.out HL1.out HL2.out HQ2.out (by first | (simp only [List.length_cons, List.length_nil]; omega) | (rw [nums_length]; decide)) (by first | (simp only [List.length_cons, List.length_nil]; omega) | (rw [nums_length]; decide))⟩, by simp only [List.getD_cons_succ, List.getD_cons_zero, intOf]; omega⟩
end Go.Proofs.YtmakaafjkeeooabFmt.QuF0
