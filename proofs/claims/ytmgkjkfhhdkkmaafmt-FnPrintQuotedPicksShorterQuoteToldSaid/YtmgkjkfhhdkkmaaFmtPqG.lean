/- FnPrintQuotedPicksShorterQuote: the law. -/
import Derived.Test.YtmgkjkfhhdkkmaaFmtRows
import Derived.Test.YtmgkjkfhhdkkmaaFmtMem
import Derived.Test.YtmgkjkfhhdkkmaaFmtSl
import Derived.Test.YtmgkjkfhhdkkmaaFmtPqD
import Derived.Test.YtmgkjkfhhdkkmaaFmtEf
import Derived.Test.YtmgkjkfhhdkkmaaFmtOf
import Derived.WalkKit
import Derived.ProofKit
import Derived.OpenShut
import Derived.Below
import Derived.WalkLawsBesides
import Derived.Lib.Hide
import Derived.Outline
import Derived.RegionTactic
import Derived.Deep.QuietTactic
import Derived.BigQuiet
import Derived.WalkSpells
import Derived.Deep.OwnRows
import Derived.IntWalk
import Derived.Deep.DeepMust
namespace Go.Proofs.YtmgkjkfhhdkkmaaFmt.PqG
open Go.RowKit Mem Sl
set_option linter.unusedVariables false
open Prn Pru Str Line Qt Own PqA PqC PqD Ef Of Dec PqB

theorem bdn {B : Nat} {a w : World} (h : Below B a w) (n : Nat) : Below B a (w.drewN n) := h.trans ⟨rfl, rfl, rfl, Nat.le_refl _, fun _ _ => rfl⟩
theorem least {P : Nat → Prop} (dec : ∀ n, Decidable (P n)) : ∀ n, P n → ∃ j, j ≤ n ∧ P j ∧ ∀ k, k < j → ¬ P k
  | 0, h => ⟨0, Nat.le_refl _, h, fun k hk => by omega⟩
  | n + 1, h => by
    by_cases hx : ∃ k, k ≤ n ∧ P k
    · obtain ⟨k, hk, hp⟩ := hx
      have : ∀ m, m ≤ n → P m → ∃ j, j ≤ m ∧ P j ∧ ∀ k, k < j → ¬ P k := by
        intro m
        induction m using Nat.strongRecOn with
        | _ m ih =>
          intro hm hpm
          by_cases hy : ∃ k, k < m ∧ P k
          · obtain ⟨k, hk, hp⟩ := hy
            obtain ⟨j, a, b, c⟩ := ih k hk (by omega) hp
            exact ⟨j, by omega, b, c⟩
          · exact ⟨m, Nat.le_refl _, hpm, fun k hk hp => hy ⟨k, hk, hp⟩⟩
      obtain ⟨j, a, b, c⟩ := this k hk hp
      exact ⟨j, by omega, b, c⟩
    · exact ⟨n + 1, Nat.le_refl _, h, fun k hk hp => hx ⟨k, by omega, hp⟩⟩
theorem list_by {t : ByteArray} {j : Nat} {b : UInt8} (h : t.data.toList[j]? = some b) : j < t.size ∧ by_ t j = b.toNat := by
  obtain ⟨h1, h2⟩ := List.getElem?_eq_some_iff.1 h
  have hj : j < t.size := by simpa using h1
  refine ⟨hj, ?_⟩
  rw [by_at t j hj, ← h2]
  rfl
theorem ef16 (t : ByteArray) (w : World) (ht : t.size = 5) (hT : Tabs w) :
    Calls Tryf.prog 16 #[.string t, .string ⟨#[115, 116, 121, 108, 101]⟩] w fun e w' => e = .returned (.bool (fold5 t)) ∧ Below w.heap.size w w' := by
  obtain ⟨_, h5, b0, off0, cc0, hbb, hF⟩ := hT
  by_cases h : ∃ k, k < 5 ∧ 128 ≤ by_ t k
  · obtain ⟨k, hk, hp⟩ := h
    obtain ⟨j, hj, hhi, hlo⟩ := least (P := fun k => 128 ≤ by_ t k) (fun n => inferInstance) k hp
    refine (ef16n t j w ht (by omega) (fun k hk => by have := hlo k hk; omega) hhi b0 off0 cc0 hF h5 hbb).mono ?_
    rintro e w' ⟨rfl, hb⟩
    refine ⟨?_, hb⟩
    have : fold5 t = false := by
      unfold fold5
      rw [Bool.and_eq_false_iff]
      left
      rw [List.all_eq_false]
      have hl : j < t.data.toList.length := by have : j < t.size := by omega
                                               simpa using this
      refine ⟨t.data.toList[j], List.getElem_mem hl, ?_⟩
      have := list_by (t := t) (j := j) (b := t.data.toList[j]) (List.getElem?_eq_getElem hl)
      intro hc
      have hc := of_decide_eq_true hc
      omega
    rw [this]
  · have hal : ∀ (j : Nat) b, t.data.toList[j]? = some b → b.toNat < 128 := by
      intro j b hb
      obtain ⟨h1, h2⟩ := list_by hb
      have : ¬ 128 ≤ by_ t j := fun hp => h ⟨j, by omega, hp⟩
      omega
    refine (Tryf.strings_EqualFold t ⟨#[115, 116, 121, 108, 101]⟩ w (by omega) hal ?_).mono ?_
    · intro j b hb
      match j, hb with
      | 0, hb => simp at hb; subst hb; decide
      | 1, hb => simp at hb; subst hb; decide
      | 2, hb => simp at hb; subst hb; decide
      | 3, hb => simp at hb; subst hb; decide
      | 4, hb => simp at hb; subst hb; decide
      | j + 5, hb => simp at hb
    · rintro e w' ⟨rfl, rfl⟩
      refine ⟨?_, Below.refl _ _⟩
      have hall : t.data.toList.all (fun b => decide (b.toNat < 128)) = true := by
        rw [List.all_eq_true]
        intro b hb
        obtain ⟨j, hj, rfl⟩ := List.mem_iff_getElem.1 hb
        have := hal j _ (List.getElem?_eq_getElem hj)
        simpa using this
      unfold fold5
      rw [hall]
      rfl
/-- Bytes of a quoted text. -/
def outQ (zs : List Int) (q : Int) (s : ByteArray) (L : Int) (fb : Bool) : List Int := zs ++ [q] ++ outF q (wrB L fb) L s (sta (zs ++ [q]) L fb) 0 ++ [q]
theorem nl_snoc (zs : List Int) (q q' : Int) (h : isNl q = false) (h' : isNl q' = false) : ∀ k, nlFrom (zs ++ [q]) 0 0 k = nlFrom (zs ++ [q']) 0 0 k
  | 0 => rfl
  | k + 1 => by
    rw [nlFrom, nlFrom, nl_snoc zs q q' h h' k]
    have e : isNl ((zs ++ [q]).getD k 0) = isNl ((zs ++ [q']).getD k 0) := by
      rcases Nat.lt_trichotomy k zs.length with hk | hk | hk
      · rw [List.getD, List.getD, List.getElem?_append_left hk, List.getElem?_append_left hk]
      · subst hk
        simp [List.getD, h, h']
      · rw [List.getD, List.getD, List.getElem?_eq_none (by simp; omega), List.getElem?_eq_none (by simp; omega)]
    rw [e]
theorem sta_eq (zs : List Int) (L : Int) (fb : Bool) : sta (zs ++ [34]) L fb = sta (zs ++ [39]) L fb := by
  have e : lineOf (zs ++ [34]) = lineOf (zs ++ [39]) := by
    unfold lineOf
    rw [nl_snoc zs 34 39 rfl rfl]
    simp
  unfold sta
  rw [e]
theorem outQ_len (zs : List Int) (s : ByteArray) (L : Int) (fb : Bool) :
    (outQ zs 34 s L fb).length + Utf.cnt (fun x => x == 39) s s.size = (outQ zs 39 s L fb).length + Utf.cnt (fun x => x == 34) s s.size := by
  have h1 := out_len 34 (.inl rfl) (wrB L fb) L (sta (zs ++ [34]) L fb) s
  have h2 := out_len 39 (.inr rfl) (wrB L fb) L (sta (zs ++ [34]) L fb) s
  have e1 : ((34 : Nat) : Int) = 34 := rfl
  have e2 : ((39 : Nat) : Int) = 39 := rfl
  rw [e1] at h1
  rw [e2] at h2
  unfold outQ
  rw [← sta_eq zs L fb]
  simp only [List.length_append, List.length_singleton]
  omega
theorem bq_if (s : ByteArray) : bq s false = if Utf.cnt (fun x => x == 39) s s.size < Utf.cnt (fun x => x == 34) s s.size then 39 else 34 := by
  have h1 := cnt_split s 39 (.inr rfl) s.size
  have h2 := cnt_split s 34 (.inl rfl) s.size
  have e1 : Utf.cnt fS s s.size = Utf.cnt (fun n => n == 39 || n == 92 || n == 10 || n == 13 || n == 12) s s.size := rfl
  have e2 : Utf.cnt fD s s.size = Utf.cnt (fun n => n == 34 || n == 92 || n == 10 || n == 13 || n == 12) s s.size := rfl
  unfold bq
  rw [if_neg (by simp), e1, e2, h1, h2]
  by_cases h : Utf.cnt (fun x => x == 39) s s.size < Utf.cnt (fun x => x == 34) s s.size
  · rw [if_pos h, if_pos (by omega)]
  · rw [if_neg h, if_neg (by omega)]
theorem pick_d {zs : List Int} {s : ByteArray} {L : Int} {fb : Bool} (h : (outQ zs 34 s L fb).length ≤ (outQ zs 39 s L fb).length) : bq s false = 34 := by
  have := outQ_len zs s L fb
  rw [bq_if, if_neg (by omega)]
theorem pick_s {zs : List Int} {s : ByteArray} {L : Int} {fb : Bool} (h : ¬ (outQ zs 34 s L fb).length ≤ (outQ zs 39 s L fb).length) : bq s false = 39 := by
  have := outQ_len zs s L fb
  rw [bq_if, if_pos (by omega)]
theorem seg_wf (s : ByteArray) (a b : Nat) : ∀ z ∈ seg s a b, (Lit.int .u8 z).wf = true := fun z hz => nums_wf s z (List.mem_of_mem_drop (List.mem_of_mem_take hz))
theorem rest_wf (q : Int) (wr : Bool) (L : Int) (s : ByteArray) : ∀ (n : Nat) (S : Int) (i : Nat), ∀ z ∈ rest q wr L s n S i, (Lit.int .u8 z).wf = true
  | 0, S, i, z, hz => by simp [rest] at hz
  | n + 1, S, i, z, hz => by
    rw [rest] at hz
    split at hz
    · simp only [List.mem_append] at hz
      rcases hz with hz | hz | hz | hz
      · split at hz
        · simp at hz; rcases hz with rfl | rfl <;> rfl
        · simp at hz
      · split at hz
        · simp at hz; subst hz; rfl
        · simp at hz
      · exact seg_wf s _ _ z hz
      · exact rest_wf q wr L s n _ _ z hz
    · simp at hz
theorem outQ_wf {zs : List Int} {q : Int} {s : ByteArray} {L : Int} {fb : Bool} (hq : q = 34 ∨ q = 39) (h : ∀ z ∈ zs, (Lit.int .u8 z).wf = true) : ∀ z ∈ outQ zs q s L fb, (Lit.int .u8 z).wf = true := by
  intro z hz
  have hqw : (Lit.int .u8 q).wf = true := by rcases hq with rfl | rfl <;> rfl
  unfold outQ at hz
  simp only [List.mem_append, List.mem_singleton] at hz
  rcases hz with ((hz | hz) | hz) | hz
  · exact h z hz
  · subst hz; exact hqw
  · exact rest_wf _ _ _ _ _ _ _ z hz
  · subst hz; exact hqw

theorem outQ_bd (zs : List Int) (q : Int) (s : ByteArray) (L : Int) (fb : Bool) (h1 : zs.length ≤ 1048576) (h2 : s.size ≤ 1048576) : (outQ zs q s L fb).length ≤ 8388608 := by
  have h := rest_bound q (wrB L fb) L s (s.size - 0) (sta (zs ++ [q]) L fb) 0 (Nat.zero_le _)
  unfold outQ outF
  simp only [List.length_append, List.length_singleton]
  omega
theorem q11_of (zs : List Int) (q : Int) (s : ByteArray) (L f : Int) (w : World) (hT : Tabs w) (hs : s.size ≤ 1048576) (hb : zs.length ≤ 1048576) (hwf : ∀ z ∈ zs, (Lit.int .u8 z).wf = true) (hL0 : -9223372036854775808 ≤ L) (hL1 : L ≤ 9223372036854775807) (hf0 : 0 ≤ f) (hf1 : f ≤ 255)
    (hq : q = 34 ∨ q = 39) (hP : Plain s) : Q11 w.heap.size zs q s L f w := by
  intro p cs v W hbl hpr hk h41 h42 hlow hp hB
  exact quo11 q p w.heap.size cs v zs s L f W hpr hk h41 h42 hlow hp hB hs hb hwf hL0 hL1 hf0 hf1 hq hP (fun t W2 hb2 => Tryf.utf8_DecodeRuneInString t W2 (hT.later (hbl.trans hb2)).1) (fun t W2 ht hb2 => ef16 t W2 ht (hT.later (hbl.trans hb2)))
/-- The clone of the bytes. -/
structure Cl (w : World) (n : Nat) (zs : List Int) (A' : Option Addr) (c' : Nat) (w' : World) : Prop where
  ints : Args.IsInts .u8 w' A' n c' zs
  buf : Buf w' 5 (.slice A' n c') zs
  low : ∀ g, Value.ownBlock (.slice A' n c') = some g → w.heap.size ≤ g
  bel : Below w.heap.size w w'
theorem cl_of {w w' : World} {A : Option Addr} {n c : Nat} {zs : List Int} {e : Ending} (h : Args.IsInts .u8 w A n c zs) (hc : Cloned .u8 5 w A n zs e w') : ∃ A' c', e = .returned (.slice A' n c') ∧ Cl w n zs A' c' w' := by
  obtain ⟨v, rfl, hc⟩ := hc
  obtain ⟨h1, h2, h3, h4, h5, h6⟩ := h
  rcases hc with ⟨rfl, rfl, rfl⟩ | ⟨_, rfl, hr, hb, _⟩
  · have hc := h5 rfl
    subst hc
    obtain rfl : n = 0 := by omega
    obtain rfl : zs = [] := List.eq_nil_of_length_eq_zero h3
    exact ⟨none, 0, rfl, ⟨h1, h2, h3, h4, h5, h6⟩, buf_nil _ _, by simp [Value.ownBlock], Below.refl _ _⟩
  · subst h3
    refine ⟨_, _, rfl, ints_of_row hr (Nat.le_trans h1 h2) h4, buf_of_row hr (Nat.le_trans h1 h2), ?_, hb⟩
    intro g hg
    have : w.heap.size = g := by simpa [Value.ownBlock] using hg
    omega
set_option maxRecDepth 100000 in
set_option maxHeartbeats 4000000 in
theorem zz7 (A : Option Addr) (n c B0 : Nat) (zs : List Int) (s : ByteArray) (L f : Int) (w w0 : World) (hb : Buf w 5 (.slice A n c) zs) (hlow : ∀ g, Value.ownBlock (.slice A n c) = some g → B0 ≤ g) (hB : B0 ≤ w.heap.size) (hw : Below B0 w0 w) (hs : s.size ≤ 1048576)
    (H : Q10 B0 zs s L f w0) :
    Calls Tryf.prog 7 #[.slice A n c, .int .i64 L, .string s, .int .u8 f] w (Gave w B0 (zs ++ [bq s false] ++ outF (bq s false) (wrB L (bits BinOp.and IntKind.u8 f 1 == 0)) L s (sta (zs ++ [bq s false]) L (bits BinOp.and IntKind.u8 f 1 == 0)) 0 ++ [bq s false])) := by
  have hz := zero57
  have HH := Lib.hid H
  have HBF := Lib.hid hb
  clear H hb
  obtain ⟨q, hq⟩ : ∃ q, bq s false = q := ⟨_, rfl⟩
  rw [hq]
  have HQQ := Lib.hid hq
  clear hq
  go_enter Tryf.func7, Tryf.ntmps7
  go_wp2_with (first | (refine wpList_buildTo rfl 39 _ rfl (some 11) rfl (opt L) (by kernel_rfl) ?_) | (refine wpList_buildTo rfl 57 _ rfl (some 13) rfl (css (.slice A n c) L) (by kernel_rfl) ?_) | (refine wpList_store_row rfl 57 _ _ rfl w.heap.size (css (.slice A n c) L) rfl rfl 57 zcs (heap_alloc_new w _) (by kernel_rfl) (by rw [cssSize, zSize]) (css1 A n c L) ?_))
  obtain ⟨W, hW, hrow, hbel, hsz⟩ := made_set w 57 zcs (css (.slice A n c) L)
  rw [hW]
  clear hW hz
  have hpr : Pr W w.heap.size 57 15 5 (css (.slice A n c) L).toList (.slice A n c) zs := ⟨hrow, by rw [Array.getElem?_toList]; exact css15 _ _, HBF.out.below hbel (Nat.le_refl _)⟩
  have HBL := Lib.hid (show Below B0 w W from hbel.mono hB)
  have H11 := Lib.hid (show Calls Tryf.prog 10 #[.pointer (some ⟨w.heap.size, 0, none⟩), .string s, .int .u8 f] W (Quoted W B0 w.heap.size zs q s L (bits BinOp.and IntKind.u8 f 1 == 0)) by rw [← HQQ.out]; exact quo10 w.heap.size B0 _ _ zs s L f W w0 hs (hw.trans (hbel.mono hB)) hpr ⟨by rw [Array.getElem?_toList]; exact css3 _ _, by rw [Array.getElem?_toList]; exact css5 _ _, by rw [Array.getElem?_toList]; exact css7 _ _⟩ (by rw [Array.getElem?_toList]; exact css41 _ _) (by rw [Array.getElem?_toList]; exact css42 _ _) hlow hB (by omega) HH.out)
  clear hpr hrow hbel hsz
  go_wp2_with fail
  refine H11.out.mono ?_
  rintro e w1 ⟨rfl, cs1, v1, hp1, hb1, hl1⟩
  have c15 := hp1.row.at_ hp1.at_
  obtain ⟨A1, cc1, hv1⟩ := hp1.buf.form
  have HG := Lib.hid (show Gave w B0 _ (.returned v1) w1 from ⟨v1, rfl, hp1.buf, HBL.out.trans hb1, hl1⟩)
  clear hp1 hb1 hl1
  generalize (zs ++ [q] ++ outF q (wrB L (bits BinOp.and IntKind.u8 f 1 == 0)) L s (sta (zs ++ [q]) L (bits BinOp.and IntKind.u8 f 1 == 0)) 0 ++ [q]).length = n1 at hv1
  subst hv1
  go_wp2_with fail
  go_ret
  exact HG.out

set_option maxHeartbeats 4000000 in
set_option maxRecDepth 100000 in
theorem law (A0 : Option Addr) (n0 c0 : Nat) (z0 : List Int) (a1 : Int) (a2 : ByteArray) (a3 : Int) (w : World) (w0 : Args.IsInts .u8 w A0 n0 c0 z0) (w1 : (Lit.int .i64 a1).wf = true) (w2 : a2.size ≤ maxLen) (w3 : (Lit.int .u8 a3).wf = true) (hT : Tabs w) :
    Calls Tryf.prog 3 #[.slice A0 n0 c0, .int .i64 a1, .string a2, .int .u8 a3] w fun e w' => e = .returned (.bool true) ∧ Below w.heap.size w w' := by
  have hm : n0 ≤ maxLen := Nat.le_trans w0.1 w0.2.1
  have H4 := Lib.hid (bytes4 A0 n0 c0 a1 a2 a3 w hm w2)
  have HW1 := Lib.hid (bounds_i64 w1)
  have HW3 := Lib.hid (bounds_u8 w3)
  unfold maxLen at hm w2
  have HI := Lib.hid w0
  have HLEN := Lib.hid w0.2.2.1
  have HT := Lib.hid hT
  clear w0 w1 w3 hT
  go_enter Tryf.func3, Tryf.ntmps3
  go_wp2_with fail
  refine H4.out.mono ?_
  rintro e wx ⟨rfl, rfl⟩
  by_cases h4 : n0 + a2.size ≤ 1048576
  case neg =>
    have t4 : decide (n0 + a2.size ≤ 1048576) = false := by simp; omega
    rw [t4]
    go_wp2_with fail
    go_ret
    exact ⟨rfl, Below.refl _ _⟩
  have t4 : decide (n0 + a2.size ≤ 1048576) = true := by simp; omega
  rw [t4]
  clear t4
  have u1 : decide (1048576 < (n0 : Int)) = false := by simp; omega
  have u2 : decide (1048576 < (a2.size : Int)) = false := by simp; omega
  have u3 : decide (1048576 < (n0 : Int) + (a2.size : Int)) = false := by simp; omega
  have hs2 : a2.size ≤ 1048576 := by omega
  go_wp2_with fail
  refine (reach5 a2 w hs2).mono ?_
  rintro e wx ⟨b, rfl, hD, rfl⟩
  cases b
  case true =>
    clear hD
    go_wp2_with fail
    go_ret
    exact ⟨rfl, Below.refl _ _⟩
  have HPL := Lib.hid (hD rfl)
  clear hD u1 u2 u3
  go_wp2_with fail
  refine (clone6 A0 n0 c0 z0 w HI.out (by omega)).mono ?_
  intro e W1 hcl
  obtain ⟨A1, c1, rfl, h1⟩ := cl_of HI.out hcl
  have H1 := Lib.hid h1
  have hn1 : z0.length ≤ 1048576 := by have := HLEN.out; omega
  have HN1 := Lib.hid hn1
  have HWF := Lib.hid HI.out.2.2.2.1
  have Q := fun (W : World) (hb : Below w.heap.size w W) (q : Int) (hq : q = 34 ∨ q = 39) => q11_of z0 q a2 a1 a3 W (HT.out.later hb) hs2 HN1.out HWF.out HW1.out.1 HW1.out.2 HW3.out.1 HW3.out.2 hq HPL.out
  have HQ := Lib.hid Q
  clear hcl h1 Q hn1
  have HI2 := Lib.hid H1.out.ints
  have HW2 := Lib.hid H1.out.bel
  go_wp2_with fail
  refine (clone6 A1 n0 c1 z0 W1 HI2.out (by omega)).mono ?_
  intro e X2 hcl
  obtain ⟨B2, d2, rfl, hx⟩ := cl_of HI2.out hcl
  have HX2 := Lib.hid hx
  clear hcl hx
  go_wp2_with fail
  refine (zz7 B2 n0 d2 W1.heap.size z0 a2 a1 a3 X2 W1 HX2.out.buf HX2.out.low HX2.out.bel.size HX2.out.bel hs2 (HQ.out W1 HW2.out)).mono ?_
  rintro e W2 ⟨v2, rfl, hb2, hl2, -⟩
  have HBF2 := Lib.hid hb2
  have HBL2 := Lib.hid (HX2.out.bel.trans hl2)
  clear hb2 hl2
  have HI3 := Lib.hid (HI2.out.later HBL2.out)
  have HW3 := Lib.hid (HW2.out.trans (HBL2.out.mono HW2.out.size))
  go_wp2_with fail
  refine (clone6 A1 n0 c1 z0 W2 HI3.out (by omega)).mono ?_
  intro e X3 hcl
  obtain ⟨B3, d3, rfl, hx⟩ := cl_of HI3.out hcl
  have HX3 := Lib.hid hx
  clear hcl hx
  go_wp2_with fail
  refine (zz8 B3 n0 d3 W2.heap.size z0 34 a2 a1 a3 X3 W2 HX3.out.buf HX3.out.low HX3.out.bel.size HX3.out.bel (HQ.out W2 HW3.out 34 (.inl rfl))).mono ?_
  rintro e W3 ⟨v3, rfl, hb3, hl3, -⟩
  have HBF3 := Lib.hid hb3
  have HBL3 := Lib.hid (HX3.out.bel.trans hl3)
  clear hb3 hl3
  have HI4 := Lib.hid (HI3.out.later HBL3.out)
  have HW4 := Lib.hid (HW3.out.trans (HBL3.out.mono HW3.out.size))
  go_wp2_with fail
  refine (clone6 A1 n0 c1 z0 W3 HI4.out (by omega)).mono ?_
  intro e X4 hcl
  obtain ⟨B4, d4, rfl, hx⟩ := cl_of HI4.out hcl
  have HX4 := Lib.hid hx
  clear hcl hx
  go_wp2_with fail
  refine (zz8 B4 n0 d4 W3.heap.size z0 39 a2 a1 a3 X4 W3 HX4.out.buf HX4.out.low HX4.out.bel.size HX4.out.bel (HQ.out W3 HW4.out 39 (.inr rfl))).mono ?_
  rintro e W4 ⟨v4, rfl, hb4, hl4, -⟩
  have HBF4 := Lib.hid hb4
  have HBL4 := Lib.hid (HX4.out.bel.trans hl4)
  clear hb4 hl4
  have HI5 := Lib.hid (HI4.out.later HBL4.out)
  have HW5 := Lib.hid (HW4.out.trans (HBL4.out.mono HW4.out.size))
  obtain ⟨Z2, hZ2⟩ : ∃ Z, outQ z0 (bq a2 false) a2 a1 (bits BinOp.and IntKind.u8 a3 1 == 0) = Z := ⟨_, rfl⟩
  obtain ⟨Z3, hZ3⟩ : ∃ Z, outQ z0 34 a2 a1 (bits BinOp.and IntKind.u8 a3 1 == 0) = Z := ⟨_, rfl⟩
  obtain ⟨Z4, hZ4⟩ : ∃ Z, outQ z0 39 a2 a1 (bits BinOp.and IntKind.u8 a3 1 == 0) = Z := ⟨_, rfl⟩
  have K2 := (HBF2.out.below HBL3.out (Nat.le_refl _)).below HBL4.out (Nat.le_refl _)
  have K3 := HBF3.out.below HBL4.out (Nat.le_refl _)
  have K4 := HBF4.out
  have l2 := outQ_bd z0 (bq a2 false) a2 a1 (bits BinOp.and IntKind.u8 a3 1 == 0) HN1.out hs2
  have l3 := outQ_bd z0 34 a2 a1 (bits BinOp.and IntKind.u8 a3 1 == 0) HN1.out hs2
  have l4 := outQ_bd z0 39 a2 a1 (bits BinOp.and IntKind.u8 a3 1 == 0) HN1.out hs2
  have f2 := outQ_wf (s := a2) (L := a1) (fb := (bits BinOp.and IntKind.u8 a3 1 == 0)) (bq_cases a2) HWF.out
  have f3 := outQ_wf (q := 34) (s := a2) (L := a1) (fb := (bits BinOp.and IntKind.u8 a3 1 == 0)) (.inl rfl) HWF.out
  have f4 := outQ_wf (q := 39) (s := a2) (L := a1) (fb := (bits BinOp.and IntKind.u8 a3 1 == 0)) (.inr rfl) HWF.out
  have PD := fun h => pick_d (zs := z0) (s := a2) (L := a1) (fb := (bits BinOp.and IntKind.u8 a3 1 == 0)) h
  have PS := fun h => pick_s (zs := z0) (s := a2) (L := a1) (fb := (bits BinOp.and IntKind.u8 a3 1 == 0)) h
  change Buf W4 5 v2 (outQ z0 (bq a2 false) a2 a1 (bits BinOp.and IntKind.u8 a3 1 == 0)) at K2
  change Buf W4 5 v3 (outQ z0 34 a2 a1 (bits BinOp.and IntKind.u8 a3 1 == 0)) at K3
  change Buf W4 5 v4 (outQ z0 39 a2 a1 (bits BinOp.and IntKind.u8 a3 1 == 0)) at K4
  have EQD := fun (h : (outQ z0 34 a2 a1 (bits BinOp.and IntKind.u8 a3 1 == 0)).length ≤ (outQ z0 39 a2 a1 (bits BinOp.and IntKind.u8 a3 1 == 0)).length) => show outQ z0 (bq a2 false) a2 a1 (bits BinOp.and IntKind.u8 a3 1 == 0) = outQ z0 34 a2 a1 (bits BinOp.and IntKind.u8 a3 1 == 0) by rw [PD h]
  have EQS := fun (h : ¬ (outQ z0 34 a2 a1 (bits BinOp.and IntKind.u8 a3 1 == 0)).length ≤ (outQ z0 39 a2 a1 (bits BinOp.and IntKind.u8 a3 1 == 0)).length) => show outQ z0 (bq a2 false) a2 a1 (bits BinOp.and IntKind.u8 a3 1 == 0) = outQ z0 39 a2 a1 (bits BinOp.and IntKind.u8 a3 1 == 0) by rw [PS h]
  rw [hZ2] at K2 l2 f2 EQD EQS
  rw [hZ3] at K3 l3 f3 EQD EQS
  rw [hZ4] at K4 l4 f4 EQD EQS
  clear hZ2 hZ3 hZ4 PD PS
  obtain ⟨A2, e2, hv2, i2, -⟩ := K2.ints (by unfold maxLen; omega) f2
  obtain ⟨A3, e3, hv3, i3, -⟩ := K3.ints (by unfold maxLen; omega) f3
  obtain ⟨A4, e4, hv4, i4, -⟩ := K4.ints (by unfold maxLen; omega) f4
  clear K2 K3 K4 f2 f3 f4 HBF2 HBF3 HBF4
  have HI2 := Lib.hid i2
  have HI3 := Lib.hid i3
  have HI4 := Lib.hid i4
  have HED := Lib.hid EQD
  have HES := Lib.hid EQS
  clear i2 i3 i4 EQD EQS
  by_cases hle : Z3.length ≤ Z4.length
  · have hz := HED.out hle
    subst hz
    generalize hN2 : Z2.length = m2 at *
    generalize hN4 : Z4.length = m4 at *
    subst hv2 hv3 hv4
    clear hN2 hN4
    go_wp2_with fail
    refine (same9 A2 A3 m2 e2 e3 Z2 W4 HI2.out HI3.out (by omega)).mono ?_
    rintro e W5 ⟨rfl, m, rfl⟩
    go_wp2_with fail
    go_ret
    exact ⟨rfl, bdn HW5.out _⟩
  · have hz := HES.out hle
    subst hz
    generalize hN2 : Z2.length = m2 at *
    generalize hN3 : Z3.length = m3 at *
    subst hv2 hv3 hv4
    clear hN2 hN3
    go_wp2_with fail
    refine (same9 A2 A4 m2 e2 e4 Z2 W4 HI2.out HI4.out (by omega)).mono ?_
    rintro e W5 ⟨rfl, m, rfl⟩
    go_wp2_with fail
    go_ret
    exact ⟨rfl, bdn HW5.out _⟩
theorem of_laid {w : World} (h : laidMetH Tryf.prog Rows.fnPrintQuotedPicksShorterQuoteRow.laid w) : Tabs w := Of.of_laid h
end Go.Proofs.YtmgkjkfhhdkkmaaFmt.PqG
