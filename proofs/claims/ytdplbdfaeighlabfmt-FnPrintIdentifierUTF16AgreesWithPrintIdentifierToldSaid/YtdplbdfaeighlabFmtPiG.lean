/- FnPrintIdentifierUTF16AgreesWithPrintIdentifier: the walk of QuoteIdentifier. -/
import Derived.Test.YtdplbdfaeighlabFmtRows
import Derived.Test.YtdplbdfaeighlabFmtMem
import Derived.Test.YtdplbdfaeighlabFmtSl
import Derived.Test.YtdplbdfaeighlabFmtPiF
import Derived.Great.BuildSlice
import Derived.Deep.RegionLaw
import Derived.Deep.RegionHeld3
import Derived.Laws.RangeString
import Derived.Laws.RangeAny
import Derived.WalkKit
import Derived.ProofKit
import Derived.OpenShut
import Derived.Below
import Derived.WalkLawsBesides
import Derived.Lib.Hide
import Derived.Outline
import Derived.RegionTactic
import Derived.Deep.QuietTactic
import Derived.BigQuiet
import Derived.WalkSpells
import Derived.Deep.OwnRows
import Derived.IntWalk
import Derived.Deep.DeepMust
namespace Go.Proofs.YtdplbdfaeighlabFmt.PiG
open Go.RowKit Mem Sl
set_option linter.unusedVariables false
open Prn Pru Own Owg Args PiA PiB PiC PiD PiE PiF

/-- What QuoteIdentifier gives. -/
def Qtd (w : World) (U : List Int) (e : Ending) (w' : World) : Prop := ∃ v, e = .returned v ∧ BufB w' w.heap.size v (outA true U) ∧ Below w.heap.size w w'
/-- At the head of a round. -/
def R22 (w : World) (U : List Int) (s0 s7 s8 : Value) (wr : World) : Prop :=
  ∃ (k m : Nat) (asc : Bool) (wv : World), wv = wr ∧ s7 = .bool asc ∧ (asc = true → s8 = .int .i64 (pos U m : Nat)) ∧ (asc = false → m = k) ∧ In w w.heap.size w.heap.size U k m s0 wr

set_option maxRecDepth 100000 in
set_option maxHeartbeats 8000000 in
theorem quote22 (U : List Int) (w : World) (hs : ∀ z ∈ U, Scalar z) (hr : ∀ z ∈ U, 32 ≤ z ∧ z ≤ 65535) (hn : U.length ≤ 1048576) : Calls Tryf.prog 22 #[.slice none 0 0, .string (txt U), .int .u64 0] w (Qtd w U) := by
  obtain ⟨i0, hi0, hz0, hz1, hz2⟩ := info_parts info5
  have HS := Lib.hid hs
  have HR := Lib.hid hr
  have hts : (txt U).size ≤ 8000000 := by unfold txt; rw [Str.bytesOf_size]; have := bytes8_len U; omega
  have HTX := Lib.hid hts
  have hin0 : In w w.heap.size w.heap.size U 0 0 (.slice none 0 0) (w.alloc (.stringIter (txt U) 0)) :=
    ⟨by rw [pos_zero]; exact heap_alloc_new w _, ⟨buf_nil _ _, fun g h => by simp [Value.ownBlock] at h⟩, (Below.refl _ _).alloc (Nat.le_refl _) _, fun j _ h => absurd h (by omega), Nat.le_refl _, Nat.zero_le _, Nat.le_refl _⟩
  have HIN0 := Lib.hid hin0
  clear hs hr hin0 hts
  go_enter Tryf.func22, Tryf.ntmps22
  go_wp2_with fail
  go_loopw [0, 7, 8] (fun s0 s7 s8 wr => R22 w U s0 s7 s8 wr) (fun _ _ _ wr => (txt U).size - wr.iterPos w.heap.size)
  case atStart => exact ⟨0, 0, false, _, rfl, rfl, (fun h => by cases h), fun _ => rfl, HIN0.out⟩
  case round =>
    obtain ⟨k, m, asc, wx, rfl, rfl, hs8, hmk, hin⟩ := hrel
    have HIN1 := Lib.hid hin
    have hit := hin.it
    have HIT0 := Lib.hid hit
    obtain ⟨A0, c0, hform⟩ := hin.buf.1.form
    have HLEN := Lib.hid (show (outA true (U.take m)).length ≤ 8000000 by have h1 := outA_len true (U.take m); rw [List.length_take] at h1; omega)
    by_cases hlt : k < U.length
    · have hpl := pos_lt U k hlt
      obtain ⟨x, hx⟩ : ∃ x, x = U.getD k 0 := ⟨_, rfl⟩
      have hxm : x ∈ U := by rw [hx]; simp [List.getD, hlt]
      obtain ⟨r1, r2⟩ := HR.out x hxm
      obtain ⟨W', hnx, hit', hg', hsz'⟩ := next_at (P := Tryf.prog) hit hpl
      rw [txt_dec U HS.out k hlt (by rw [← hx]; exact r2)] at hnx hit'
      obtain ⟨h2a, h2b, h2c⟩ := hin.next hlt hit' hg' (Nat.le_refl _)
      have HI2 := Lib.hid h2a
      have hps := pos_succ U k hlt
      have HPS := Lib.hid (show pos U k < pos U (k + 1) by have := (enc8_len (U.getD k 0)).1; omega)
      have HPL := Lib.hid (pos_le U (k + 1))
      have ex : (((U.getD k 0).toNat : Nat) : Int) = x := by rw [← hx]; omega
      simp only [ex] at hnx
      have HX := Lib.hid hx
      have HKL := Lib.hid hlt
      have hplk := pos_le U k
      have hpmk := pos_mono U hin.mle
      rw [hform] at h2b
      generalize hn0 : (outA true (U.take m)).length = n0 at h2b hform
      subst hform
      have HBF := Lib.hid h2b
      have HBE := Lib.hid h2c
      have HSZ := Lib.hid (show w.heap.size ≤ W'.heap.size from h2c.size)
      have HMLE := Lib.hid hin.mle
      have HLOW := Lib.hid hin.low
      have htx := HTX.out
      clear hit hit' hg' hsz' h2a h2b h2c hps hx hxm ex hin hn0
      by_cases h126 : x ≤ 126
      · have t1 : decide (32 ≤ x) = true := by simp; omega
        have t2 : decide (x ≤ 126) = true := by simp; omega
        cases asc with
        | true =>
          have e8 := hs8 rfl
          subst e8
          have HIN := Lib.hid (show In w w.heap.size w.heap.size U (k + 1) m (.slice A0 n0 c0) W' from ⟨HI2.out, HBF.out, HBE.out, HLOW.out.next (by rw [← HX.out]; exact h126), by have := HMLE.out; omega, by have := HKL.out; omega, Nat.le_refl _⟩)
          clear hs8 hmk
          go_wp2_with fail
          go_roundw
          case rel => exact ⟨k + 1, m, true, _, rfl, rfl, (fun _ => rfl), (fun h => by cases h), HIN.out⟩
          case measure => (have h1 := HIT0.out; have h2 := HIN.out.it; have h3 := HPS.out; have h4 := HPL.out; simp only [World.iterPos, h2, h1]; omega)
        | false =>
          obtain rfl := hmk rfl
          have HIN := Lib.hid (show In w w.heap.size w.heap.size U (m + 1) m (.slice A0 n0 c0) W' from ⟨HI2.out, HBF.out, HBE.out, HLOW.out.next (by rw [← HX.out]; exact h126), by omega, by have := HKL.out; omega, Nat.le_refl _⟩)
          clear hs8 hmk
          go_wp2_with fail
          go_roundw
          case rel => exact ⟨m + 1, m, true, _, rfl, rfl, (fun _ => rfl), (fun h => by cases h), HIN.out⟩
          case measure => (have h1 := HIT0.out; have h2 := HIN.out.it; have h3 := HPS.out; have h4 := HPL.out; simp only [World.iterPos, h2, h1]; omega)
      · have t1 : decide (32 ≤ x) = true := by simp; omega
        have t2 : decide (x ≤ 126) = false := by simp; omega
        have t3 : decide (x ≤ 65535) = true := by simp; omega
        have HXH := Lib.hid (show 126 < x by omega)
        have i1 := idxH (x / 4096) (by omega) (by omega)
        have i2 := idxH (x / 256 % 16) (by omega) (by omega)
        have i3 := idxH (x / 16 % 16) (by omega) (by omega)
        have i4 := idxH (x % 16) (by omega) (by omega)
        have b2 : bits .and .i32 (x / 256) 15 = x / 256 % 16 := i_and15 _ (by omega) (by omega)
        have b3 : bits .and .i32 (x / 16) 15 = x / 16 % 16 := i_and15 _ (by omega) (by omega)
        have b4 : bits .and .i32 x 15 = x % 16 := i_and15 _ (by omega) (by omega)
        cases asc with
        | true =>
          have e8 := hs8 rfl
          subst e8
          have HEQ := Lib.hid (run_out U HS.out HMLE.out (by have := HKL.out; omega) HLOW.out)
          have HL2 := Lib.hid (show (outA true (U.take m) ++ nums ((txt U).extract (pos U m) (pos U k))).length + 6 ≤ 1000000000 by rw [← HEQ.out]; have h1 := outA_len true (U.take k); rw [List.length_take] at h1; omega)
          clear hs8 hmk
          go_wp2_with (at_builtin; refine wpList_append_str _ rfl (.tmp 27) (.tmp 31) 27 9 rfl 5 i0 Tryf.underlying27 Tryf.underlying9 hi0 hz0 hz1 hz2 (.slice A0 n0 c0) (outA true (U.take m)) rfl HBF.out.1 ((txt U).extract (pos U m) (pos U k)) rfl (by have h1 := HLEN.out; have h2 := HTX.out; simp only [ByteArray.size_extract]; omega) ?_; intro A1 n1 c1 w1 hb1 hg1 ha1; have HST := Lib.hid (HBF.out.step HSZ.out hb1 hg1 ha1); have HIT1 := Lib.hid ((hg1.block _ (Array.getElem?_eq_some_iff.1 HI2.out).1 (Ne.symm (buf_iter HBF.out.1 HI2.out))).trans HI2.out); clear hb1 hg1 ha1)
          have HBF1 := Lib.hid HST.out.1
          have HBE1 := Lib.hid (HBE.out.trans HST.out.2)
          have hr2 := (Row.newArr w1 5 #[.int .u8 92, .int .u8 117, .int .u8 (hx (x / 4096)), .int .u8 (hx (x / 256 % 16)), .int .u8 (hx (x / 16 % 16)), .int .u8 (hx (x % 16))]).drew
          have hbf2 : Buf (w1.alloc (.cells #[.int .u8 92, .int .u8 117, .int .u8 (hx (x / 4096)), .int .u8 (hx (x / 256 % 16)), .int .u8 (hx (x / 16 % 16)), .int .u8 (hx (x % 16))] 5)).drew 5 (.slice A1 n1 c1) (outA true (U.take m) ++ nums ((txt U).extract (pos U m) (pos U k))) := HBF1.out.1.below (((Below.refl w1.heap.size w1).alloc (Nat.le_refl _) _).drew) (Nat.le_refl _)
          obtain ⟨v5, w5, hrun, hbuf5, hgr5, hat5⟩ := run_append_ints_at (P := Tryf.prog) (w1.alloc (.cells #[.int .u8 92, .int .u8 117, .int .u8 (hx (x / 4096)), .int .u8 (hx (x / 256 % 16)), .int .u8 (hx (x / 16 % 16)), .int .u8 (hx (x % 16))] 5)).drew 27 27 5 i0 Tryf.underlying27 hi0 hz0 hz1 hz2 (.slice A1 n1 c1) (outA true (U.take m) ++ nums ((txt U).extract (pos U m) (pos U k))) hbf2 ⟨w1.heap.size, 0, none⟩ 6 6 (hex6 x) rfl (fun j hj => (by have hadd : (⟨w1.heap.size, 0, none⟩ : Addr).add j = ⟨w1.heap.size, j, none⟩ := (by unfold Addr.add; split <;> simp_all); rw [hadd]; rcases (show j = 0 ∨ j = 1 ∨ j = 2 ∨ j = 3 ∨ j = 4 ∨ j = 5 by omega) with rfl | rfl | rfl | rfl | rfl | rfl <;> exact hr2.at_ rfl)) HL2.out
          have hst5 := (show BufB (w1.alloc (.cells #[.int .u8 92, .int .u8 117, .int .u8 (hx (x / 4096)), .int .u8 (hx (x / 256 % 16)), .int .u8 (hx (x / 16 % 16)), .int .u8 (hx (x % 16))] 5)).drew w.heap.size (.slice A1 n1 c1) (outA true (U.take m) ++ nums ((txt U).extract (pos U m) (pos U k))) from ⟨hbf2, HBF1.out.2⟩).step (by have := HBE1.out.size; simp; omega) hbuf5 hgr5 hat5
          have hit5 := (hgr5.block _ (by have := (Array.getElem?_eq_some_iff.1 HIT1.out).1; simp; omega) (Ne.symm (buf_iter hbf2 (show (w1.alloc (.cells #[.int .u8 92, .int .u8 117, .int .u8 (hx (x / 4096)), .int .u8 (hx (x / 256 % 16)), .int .u8 (hx (x / 16 % 16)), .int .u8 (hx (x % 16))] 5)).drew.heap[w.heap.size]? = _ from (Below.heap_alloc w1 _ _ (Array.getElem?_eq_some_iff.1 HIT1.out).1).trans HIT1.out)))).trans (show (w1.alloc (.cells #[.int .u8 92, .int .u8 117, .int .u8 (hx (x / 4096)), .int .u8 (hx (x / 256 % 16)), .int .u8 (hx (x / 16 % 16)), .int .u8 (hx (x % 16))] 5)).drew.heap[w.heap.size]? = _ from (Below.heap_alloc w1 _ _ (Array.getElem?_eq_some_iff.1 HIT1.out).1).trans HIT1.out)
          have hbel5 : Below w.heap.size w w5 := HBE1.out.trans ((show Below w.heap.size w1 (w1.alloc (.cells #[.int .u8 92, .int .u8 117, .int .u8 (hx (x / 4096)), .int .u8 (hx (x / 256 % 16)), .int .u8 (hx (x / 16 % 16)), .int .u8 (hx (x % 16))] 5)).drew from (((Below.refl w1.heap.size w1).alloc (Nat.le_refl _) _).mono (by have := HBE1.out.size; omega)).drew).trans hst5.2)
          have HIN := Lib.hid (show In w w.heap.size w.heap.size U (k + 1) (k + 1) v5 w5 from ⟨hit5, ⟨by rw [take_snoc U k HKL.out, outA_snoc, ← HX.out, one_high x HXH.out, HEQ.out]; exact hst5.1.1, hst5.1.2⟩, hbel5, fun j h1 h2 => by omega, Nat.le_refl _, by have := HKL.out; omega, Nat.le_refl _⟩)
          obtain ⟨A5, cc5, hv5⟩ := hbuf5.form
          generalize ((outA true (U.take m) ++ nums ((txt U).extract (pos U m) (pos U k))) ++ hex6 x).length = n5 at hv5
          subst hv5
          have HRUN := Lib.hid hrun
          clear hrun hbuf5 hgr5 hat5 hr2 hbf2 hst5 hit5 hbel5
          go_wp2_with fail
          go_region_held3 (fun _ => True) (trivial) ((refine step_append_run rfl _ _ 27 27 rfl _ _ _ w5 rfl rfl HRUN.out ?_))
          all_goals
            go_wp2_with fail
            go_roundw
            case rel => exact ⟨k + 1, k + 1, false, _, rfl, rfl, (fun h => by cases h), fun _ => rfl, HIN.out⟩
            case measure => (have h1 := HIT0.out; have h2 := HIN.out.it; have h3 := HPS.out; have h4 := HPL.out; simp only [World.iterPos, h2, h1]; omega)

        | false =>
          obtain rfl := hmk rfl
          have HEQ := Lib.hid (rfl : outA true (U.take m) = outA true (U.take m))
          have HL2 := Lib.hid (show (outA true (U.take m)).length + 6 ≤ 1000000000 by have := HLEN.out; omega)
          clear hs8 hmk
          have hr2 := (Row.newArr W' 5 #[.int .u8 92, .int .u8 117, .int .u8 (hx (x / 4096)), .int .u8 (hx (x / 256 % 16)), .int .u8 (hx (x / 16 % 16)), .int .u8 (hx (x % 16))]).drew
          have hbf2 : Buf (W'.alloc (.cells #[.int .u8 92, .int .u8 117, .int .u8 (hx (x / 4096)), .int .u8 (hx (x / 256 % 16)), .int .u8 (hx (x / 16 % 16)), .int .u8 (hx (x % 16))] 5)).drew 5 (.slice A0 n0 c0) (outA true (U.take m)) := HBF.out.1.below (((Below.refl W'.heap.size W').alloc (Nat.le_refl _) _).drew) (Nat.le_refl _)
          obtain ⟨v5, w5, hrun, hbuf5, hgr5, hat5⟩ := run_append_ints_at (P := Tryf.prog) (W'.alloc (.cells #[.int .u8 92, .int .u8 117, .int .u8 (hx (x / 4096)), .int .u8 (hx (x / 256 % 16)), .int .u8 (hx (x / 16 % 16)), .int .u8 (hx (x % 16))] 5)).drew 27 27 5 i0 Tryf.underlying27 hi0 hz0 hz1 hz2 (.slice A0 n0 c0) (outA true (U.take m)) hbf2 ⟨W'.heap.size, 0, none⟩ 6 6 (hex6 x) rfl (fun j hj => (by have hadd : (⟨W'.heap.size, 0, none⟩ : Addr).add j = ⟨W'.heap.size, j, none⟩ := (by unfold Addr.add; split <;> simp_all); rw [hadd]; rcases (show j = 0 ∨ j = 1 ∨ j = 2 ∨ j = 3 ∨ j = 4 ∨ j = 5 by omega) with rfl | rfl | rfl | rfl | rfl | rfl <;> exact hr2.at_ rfl)) HL2.out
          have hst5 := (show BufB (W'.alloc (.cells #[.int .u8 92, .int .u8 117, .int .u8 (hx (x / 4096)), .int .u8 (hx (x / 256 % 16)), .int .u8 (hx (x / 16 % 16)), .int .u8 (hx (x % 16))] 5)).drew w.heap.size (.slice A0 n0 c0) (outA true (U.take m)) from ⟨hbf2, HBF.out.2⟩).step (by have := HBE.out.size; simp; omega) hbuf5 hgr5 hat5
          have hit5 := (hgr5.block _ (by have := (Array.getElem?_eq_some_iff.1 HI2.out).1; simp; omega) (Ne.symm (buf_iter hbf2 (show (W'.alloc (.cells #[.int .u8 92, .int .u8 117, .int .u8 (hx (x / 4096)), .int .u8 (hx (x / 256 % 16)), .int .u8 (hx (x / 16 % 16)), .int .u8 (hx (x % 16))] 5)).drew.heap[w.heap.size]? = _ from (Below.heap_alloc W' _ _ (Array.getElem?_eq_some_iff.1 HI2.out).1).trans HI2.out)))).trans (show (W'.alloc (.cells #[.int .u8 92, .int .u8 117, .int .u8 (hx (x / 4096)), .int .u8 (hx (x / 256 % 16)), .int .u8 (hx (x / 16 % 16)), .int .u8 (hx (x % 16))] 5)).drew.heap[w.heap.size]? = _ from (Below.heap_alloc W' _ _ (Array.getElem?_eq_some_iff.1 HI2.out).1).trans HI2.out)
          have hbel5 : Below w.heap.size w w5 := HBE.out.trans ((show Below w.heap.size W' (W'.alloc (.cells #[.int .u8 92, .int .u8 117, .int .u8 (hx (x / 4096)), .int .u8 (hx (x / 256 % 16)), .int .u8 (hx (x / 16 % 16)), .int .u8 (hx (x % 16))] 5)).drew from (((Below.refl W'.heap.size W').alloc (Nat.le_refl _) _).mono (by have := HBE.out.size; omega)).drew).trans hst5.2)
          have HIN := Lib.hid (show In w w.heap.size w.heap.size U (m + 1) (m + 1) v5 w5 from ⟨hit5, ⟨by rw [take_snoc U m HKL.out, outA_snoc, ← HX.out, one_high x HXH.out, HEQ.out]; exact hst5.1.1, hst5.1.2⟩, hbel5, fun j h1 h2 => by omega, Nat.le_refl _, by have := HKL.out; omega, Nat.le_refl _⟩)
          obtain ⟨A5, cc5, hv5⟩ := hbuf5.form
          generalize ((outA true (U.take m)) ++ hex6 x).length = n5 at hv5
          subst hv5
          have HRUN := Lib.hid hrun
          clear hrun hbuf5 hgr5 hat5 hr2 hbf2 hst5 hit5 hbel5
          go_wp2_with fail
          go_region_held3 (fun _ => True) (trivial) ((refine step_append_run rfl _ _ 27 27 rfl _ _ _ w5 rfl rfl HRUN.out ?_))
          all_goals
            go_wp2_with fail
            go_roundw
            case rel => exact ⟨m + 1, m + 1, false, _, rfl, rfl, (fun h => by cases h), fun _ => rfl, HIN.out⟩
            case measure => (have h1 := HIT0.out; have h2 := HIN.out.it; have h3 := HPS.out; have h4 := HPL.out; simp only [World.iterPos, h2, h1]; omega)

    · obtain rfl : k = U.length := by have := hin.kn; omega
      have hnx := fun ty => next_end (P := Tryf.prog) hit (by rw [txt_size]; omega) ty
      have hmle := hin.mle
      have hpmk := pos_mono U hin.mle
      have hpk := (txt_size U).symm
      have HMLE := Lib.hid hin.mle
      have HLOW := Lib.hid hin.low
      have hbf := hin.buf
      have HBE := Lib.hid hin.bel
      have HSZ := Lib.hid (show w.heap.size ≤ wx.heap.size from hin.bel.size)
      have htx := HTX.out
      rw [hform] at hbf
      generalize hn0 : (outA true (U.take m)).length = n0 at hbf hform
      subst hform
      have HBF := Lib.hid hbf
      clear hit hin hbf hn0
      cases asc with
      | true =>
        have e8 := hs8 rfl
        subst e8
        have HEQ := Lib.hid (run_out U HS.out HMLE.out (Nat.le_refl _) HLOW.out)
        rw [List.take_length] at HEQ
        have hpm := pos_le U m
        clear hs8 hmk
        go_wp2_with (at_builtin; refine wpList_append_str _ rfl (.tmp 63) (.tmp 66) 27 9 rfl 5 i0 Tryf.underlying27 Tryf.underlying9 hi0 hz0 hz1 hz2 (.slice A0 n0 c0) (outA true (U.take m)) rfl HBF.out.1 ((txt U).extract (pos U m) (txt U).size) rfl (by have h1 := HLEN.out; have h2 := HTX.out; simp only [ByteArray.size_extract]; omega) ?_; intro A1 n1 c1 w1 hb1 hg1 ha1; have HST := Lib.hid (HBF.out.step HSZ.out hb1 hg1 ha1); clear hb1 hg1 ha1)
        go_ret
        exact ⟨_, rfl, by rw [HEQ.out, ← txt_size]; exact HST.out.1, HBE.out.trans HST.out.2⟩
      | false =>
        obtain rfl := hmk rfl
        clear hs8 hmk
        go_wp2_with fail
        go_ret
        refine ⟨_, rfl, ?_, HBE.out⟩
        have h := HBF.out
        rwa [List.take_length] at h
end Go.Proofs.YtdplbdfaeighlabFmt.PiG
