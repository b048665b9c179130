/- FnPrintQuotedUTF8QuoteAndLength: the law. -/
import Derived.Test.YtmakaafjkeeooabFmtRows
import Derived.Test.YtmakaafjkeeooabFmtMem
import Derived.Test.YtmakaafjkeeooabFmtSl
import Derived.Test.YtmakaafjkeeooabFmtQuI
import Derived.Test.YtmakaafjkeeooabFmtQuB
import Derived.Test.YtmakaafjkeeooabFmtQuA
import Derived.Test.YtmakaafjkeeooabFmtVars
import Derived.Test.YtmakaafjkeeooabFmtArgs
import Derived.WalkKit
import Derived.ProofKit
import Derived.OpenShut
import Derived.Below
import Derived.WalkLawsBesides
import Derived.Lib.Hide
import Derived.Outline
import Derived.RegionTactic
import Derived.Deep.QuietTactic
import Derived.BigQuiet
import Derived.WalkSpells
import Derived.Deep.OwnRows
import Derived.IntWalk
import Derived.Deep.DeepMust
namespace Go.Proofs.YtmakaafjkeeooabFmt.QuJ
open Go.RowKit Mem Sl
set_option linter.unusedVariables false
open Prn Pru Own Owg Dec Enc QuA QuB QuC QuD QuG QuI

theorem qtd_from {w w1 : World} {B0 p : Nat} {v : Value} {Z0 : List Int} {tot : Nat} {fb : Bool} {e : Ending} {w' : World} (h : Qtd w1 B0 p v Z0 tot fb e w') (hb : Below w.heap.size w w1) (hB : B0 ≤ w.heap.size) : Qtd w B0 p v Z0 tot fb e w' := by
  obtain ⟨h1, q, v', cs', M, h2, h3, h4, h5, h6, h7⟩ := h
  exact ⟨h1, q, v', cs', M, h2, h3, h4, h5, (hb.mono hB).trans h6, fun g hg hp hv => (h7 g (Nat.lt_of_lt_of_le hg hb.size) hp hv).trans (hb.block g hg)⟩
theorem qtd_ret {w : World} {B0 p : Nat} {v : Value} {Z0 : List Int} {tot : Nat} {fb : Bool} {e : Ending} {w' : World} (h : Qtd w B0 p v Z0 tot fb e w') : e = .returned (.tuple #[]) := h.1
theorem pr_below {w w' : World} {p : Nat} {cs : List Value} {v : Value} {Z : List Int} (h : Pr w p 79 9 5 cs v Z) (hb : Below w.heap.size w w') : Pr w' p 79 9 5 cs v Z := ⟨h.row.below hb h.row.lt, h.at_, h.buf.below hb (Nat.le_refl _)⟩
set_option maxRecDepth 100000 in
set_option maxHeartbeats 4000000 in
theorem quo11 (s : ByteArray) (f : Int) (p B0 : Nat) (mb : Bool) (Z0 : List Int) (cs : List Value) (v : Value) (w : World) (h : Pr w p 79 9 5 cs v Z0) (hlow : ∀ g, v.ownBlock = some g → B0 ≤ g) (hpB : B0 ≤ p) (hB : B0 ≤ w.heap.size)
    (hk : Kp cs mb) (hs : s.size ≤ 1048576) (hZ : Z0.length ≤ 1048576) :
    Calls Tryf.prog 11 #[.pointer (some ⟨p, 0, none⟩), .string s, .int .u8 f] w (Qtd w B0 p v Z0 s.size (bits BinOp.and IntKind.u8 f 1 != 0)) := by
  have H := Lib.hid h
  have HLO := Lib.hid hlow
  have HK := Lib.hid hk
  clear h hlow hk
  go_enter Tryf.func11, Tryf.ntmps11
  go_wp2_with fail
  refine (utf13 s w hs).mono ?_
  rintro e w1 ⟨d, c, U, rfl, ho, he, hb⟩
  have HO := Lib.hid ho
  have HE := Lib.hid he
  have HB := Lib.hid hb
  clear ho he hb
  go_wp2_with fail
  refine (quo12 f p d B0 U.length c s.size mb U Z0 cs v w1 (pr_below H.out HB.out) HLO.out hpB (Nat.le_trans hB HB.out.size) HK.out (txt2_of_own HO.out rfl) HE.out hs hZ).mono ?_
  intro e w2 hq
  have HQ := Lib.hid (qtd_from hq HB.out hB)
  obtain rfl := qtd_ret hq
  clear hq
  go_wp2_with fail
  go_end0
  exact HQ.out
set_option maxRecDepth 100000 in
set_option maxHeartbeats 4000000 in
theorem quo8 (s : ByteArray) (f : Int) (p B0 : Nat) (mb : Bool) (Z0 : List Int) (cs : List Value) (v : Value) (w : World) (h : Pr w p 79 9 5 cs v Z0) (hlow : ∀ g, v.ownBlock = some g → B0 ≤ g) (hpB : B0 ≤ p) (hB : B0 ≤ w.heap.size)
    (hk : Kp cs mb) (hs : s.size ≤ 1048576) (hZ : Z0.length ≤ 1048576) :
    Calls Tryf.prog 8 #[.pointer (some ⟨p, 0, none⟩), .string s, .int .u8 f] w (Qtd w B0 p v Z0 s.size (bits BinOp.and IntKind.u8 f 1 != 0)) := by
  have H := Lib.hid (quo11 s f p B0 mb Z0 cs v w h hlow hpB hB hk hs hZ)
  clear h hlow hk
  go_enter Tryf.func8, Tryf.ntmps8
  go_wp2_with fail
  refine H.out.mono ?_
  intro e w2 hq
  have HQ := Lib.hid hq
  obtain rfl := qtd_ret hq
  clear hq
  go_wp2_with fail
  go_end0
  exact HQ.out
/-- What a clone of bytes is good for. -/
structure Cl (w : World) (n : Nat) (zs : List Int) (A' : Option Addr) (c' : Nat) (w' : World) : Prop where
  ints : Args.IsInts .u8 w' A' n c' zs
  buf : Buf w' 5 (.slice A' n c') zs
  low : ∀ g, Value.ownBlock (.slice A' n c') = some g → w.heap.size ≤ g
  bel : Below w.heap.size w w'
  top : ∀ g, Value.ownBlock (.slice A' n c') = some g → g < w'.heap.size
theorem cl_of {w w' : World} {A : Option Addr} {n c : Nat} {zs : List Int} {e : Ending} (h : Args.IsInts .u8 w A n c zs) (hc : Cloned .u8 5 w A n zs e w') : ∃ A' c', e = .returned (.slice A' n c') ∧ Cl w n zs A' c' w' := by
  obtain ⟨v, rfl, hc⟩ := hc
  obtain ⟨h1, h2, h3, h4, h5, h6⟩ := h
  rcases hc with ⟨rfl, rfl, rfl⟩ | ⟨_, rfl, hr, hb, _⟩
  · have hc := h5 rfl
    subst hc
    obtain rfl : n = 0 := by omega
    obtain rfl : zs = [] := List.eq_nil_of_length_eq_zero h3
    exact ⟨none, 0, rfl, ⟨h1, h2, h3, h4, h5, h6⟩, buf_nil _ _, by simp [Value.ownBlock], Below.refl _ _, by simp [Value.ownBlock]⟩
  · subst h3
    have hbf := buf_of_row hr (Nat.le_trans h1 h2)
    refine ⟨_, _, rfl, ints_of_row hr (Nat.le_trans h1 h2) h4, hbf, ?_, hb, fun g hg => hbf.lt g hg⟩
    intro g hg
    have : w.heap.size = g := by simpa [Value.ownBlock] using hg
    omega
/-- The keep's numbers are as they were when nothing has turned but the printer's own blocks. -/
theorem keep_ints {w w' : World} {p n c : Nat} {A : Option Addr} {zs : List Int} {v : Value} (h : Args.IsInts .u8 w A n c zs) (hk : ∀ g, g < w.heap.size → g ≠ p → v.ownBlock ≠ some g → w'.heap[g]? = w.heap[g]?) (hs : w.heap.size ≤ w'.heap.size) (hv : ∀ b off, A = some ⟨b, off, none⟩ → b < w.heap.size → b ≠ p ∧ v.ownBlock ≠ some b) : Args.IsInts .u8 w' A n c zs := by
  obtain ⟨h1, h2, h3, h4, h5, h6⟩ := h
  refine ⟨h1, h2, h3, h4, h5, fun hc => ?_⟩
  obtain ⟨b, off, ha, hb, hcell⟩ := h6 hc
  obtain ⟨n1, n2⟩ := hv b off ha hb
  refine ⟨b, off, ha, Nat.lt_of_lt_of_le hb hs, fun i hi => ?_⟩
  rw [← hcell i hi]
  unfold World.cell?
  rw [hk b hb n1 n2]
theorem buf_read {w : World} {v : Value} {Z : List Int} (h : Buf w 5 v Z) (hZ : 0 < Z.length) : ∃ g c, v = .slice (some ⟨g, 0, none⟩) Z.length c ∧ Z.length ≤ c ∧ c ≤ maxLen ∧ ∀ i, i < Z.length → w.cell? ⟨g, i, none⟩ = some (.int .u8 (Z.getD i 0)) := by
  rcases h.2 with ⟨_, h0⟩ | ⟨g, cap, cur, h0, hb, hh, hnc, hcm, hcs, htk⟩
  · omega
  · refine ⟨g, cap, h0, hnc, hcm, fun i hi => ?_⟩
    rw [cell_of_row w g i cur 5 (0, 0) hh]
    have h1 : (cur.toList.take (Z.length * 1))[i]? = (iv .u8 Z)[i]? := by rw [htk]
    rw [iv_at .u8 Z i hi, List.getElem?_take, if_pos (by omega)] at h1
    simpa using h1
theorem z_at (z0 M : List Int) (q : Int) (n0 L : Nat) (h0 : z0.length = n0) (hL : M.length + 2 = L) : (z0 ++ [q] ++ M ++ [q]).length = n0 + L ∧ (∀ i, i < n0 → (z0 ++ [q] ++ M ++ [q]).getD i 0 = z0.getD i 0) ∧ (z0 ++ [q] ++ M ++ [q]).getD n0 0 = q ∧ (z0 ++ [q] ++ M ++ [q]).getD (n0 + (L - 1)) 0 = q := by
  subst h0 hL
  refine ⟨by simp <;> omega, fun i hi => ?_, ?_, ?_⟩
  · simp only [List.getD, List.append_assoc]
    rw [List.getElem?_append_left hi]
  · simp [List.getD]
  · have e : z0.length + (M.length + 2 - 1) = (z0 ++ [q] ++ M).length := by simp <;> omega
    rw [e]
    simp only [List.getD]
    rw [List.getElem?_append_right (Nat.le_refl _)]
    simp
set_option maxRecDepth 100000 in
set_option maxHeartbeats 16000000 in
theorem law (A0 : Option Addr) (n0 c0 : Nat) (z0 : List Int) (a1 : ByteArray) (a2 : Int) (a3 : Bool) (w : World) (w0 : Args.IsInts .u8 w A0 n0 c0 z0) (w1 : a1.size ≤ maxLen) (w2 : (Lit.int .u8 a2).wf = true) (_ : True) :
    Calls Tryf.prog 3 #[.slice A0 n0 c0, .string a1, .int .u8 a2, .bool a3] w fun e w' => e = .returned (.bool true) ∧ Below w.heap.size w w' := by
  have H4 := Lib.hid (bytes4 A0 n0 c0 a1 a2 a3 w (Nat.le_trans w0.1 w0.2.1) w1)
  have hm : n0 ≤ maxLen := Nat.le_trans w0.1 w0.2.1
  unfold maxLen at hm w1
  have HI := Lib.hid w0
  have HLEN := Lib.hid w0.2.2.1
  clear w0
  go_enter Tryf.func3, Tryf.ntmps3
  go_wp2_with fail
  refine H4.out.mono ?_
  rintro e wx ⟨rfl, rfl⟩
  by_cases h4 : n0 + a1.size ≤ 1048576
  case neg =>
    have t4 : decide (n0 + a1.size ≤ 1048576) = false := by simp; omega
    rw [t4]
    go_wp2_with fail
    go_ret
    exact ⟨rfl, Below.refl _ _⟩
  have t4 : decide (n0 + a1.size ≤ 1048576) = true := by simp; omega
  rw [t4]
  clear t4
  have u1 : decide (1048576 < (n0 : Int)) = false := by simp; omega
  have u2 : decide (1048576 < (a1.size : Int)) = false := by simp; omega
  have u3 : decide (1048576 < (n0 : Int) + (a1.size : Int)) = false := by simp; omega
  go_wp2_with fail
  refine (valid5 a1 w (by omega)).mono ?_
  rintro e wx ⟨b, rfl, rfl⟩
  cases b
  case false =>
    go_wp2_with fail
    go_ret
    exact ⟨rfl, Below.refl _ _⟩
  clear u1 u2 u3
  go_wp2_with fail
  refine (clone6 A0 n0 c0 z0 w HI.out (by omega)).mono ?_
  intro e W1 hcl
  obtain ⟨A1, c1, rfl, h1⟩ := cl_of HI.out hcl
  have H1 := Lib.hid h1
  clear hcl h1
  go_wp2_with fail
  refine (clone6 A1 n0 c1 z0 W1 H1.out.ints (by omega)).mono ?_
  intro e W2 hcl
  obtain ⟨A2, c2, rfl, h2⟩ := cl_of H1.out.ints hcl
  have H2 := Lib.hid h2
  clear hcl h2
  go_wp2_with fail
  refine (new7 A1 n0 c1 a3 W2).mono ?_
  rintro e W3 ⟨rfl, hw3⟩
  have hB3 : Below W2.heap.size W2 W3 := by rw [← hw3]; exact (Below.refl _ _).alloc (Nat.le_refl _) _
  have hbuf2 : Buf W2 5 (.slice A1 n0 c1) z0 := H1.out.buf.below H2.out.bel (Nat.le_refl _)
  have hpr : Pr W3 W2.heap.size 79 9 5 (prn (.slice A1 n0 c1) a3 false).toList (.slice A1 n0 c1) z0 := by
    rw [← hw3]
    exact ⟨Row.newArr _ _ _, by rw [Array.getElem?_toList]; exact prn9 _ _ _, hbuf2.below ((Below.refl _ _).alloc (Nat.le_refl _) _) (Nat.le_refl _)⟩
  have HPR := Lib.hid hpr
  have HB3 := Lib.hid hB3
  have HKP := Lib.hid (show Kp (prn (.slice A1 n0 c1) a3 false).toList a3 from ⟨by rw [Array.getElem?_toList]; exact prn24 _ _ _, by rw [Array.getElem?_toList]; exact prn26 _ _ _, by rw [Array.getElem?_toList]; exact prn30 _ _ _, by rw [Array.getElem?_toList]; exact prn31 _ _ _⟩)
  have HS3 := Lib.hid (show W3.heap.size = W2.heap.size + 1 by rw [← hw3]; simp)
  have HLOW := Lib.hid (show ∀ g, Value.ownBlock (.slice A1 n0 c1) = some g → w.heap.size ≤ g from H1.out.low)
  have HWW := Lib.hid (show w.heap.size ≤ W2.heap.size from Nat.le_trans H1.out.bel.size H2.out.bel.size)
  clear hw3 hpr hB3 hbuf2
  go_wp2_with fail
  refine (quo8 a1 a2 W2.heap.size w.heap.size a3 z0 _ _ W3 HPR.out HLOW.out HWW.out (by have := HS3.out; have := HWW.out; omega) HKP.out (by omega) (by have := HLEN.out; omega)).mono ?_
  rintro e W4 ⟨rfl, q, v4, cs4, M, hp4, hq, hm1, hm2, hb4, hk4⟩
  obtain ⟨L, hL⟩ : ∃ L, M.length + 2 = L := ⟨_, rfl⟩
  obtain ⟨zl, za, zq, zr⟩ := z_at z0 M q n0 L HLEN.out hL
  have c9 := hp4.row.at_ hp4.at_
  obtain ⟨g4, c4, hv4, hc4, hcm4, hcell4⟩ := buf_read hp4.buf (by omega)
  have HKI := Lib.hid (keep_ints (H2.out.ints.later HB3.out) hk4 hb4.size (fun b off ha hlt => ⟨fun e => by
      have h9 := H2.out.top b (by rw [ha]; rfl)
      omega, fun e => by
      have h9 := H2.out.low b (by rw [ha]; rfl)
      have h8 := H1.out.top b e
      omega⟩))
  have HBB := Lib.hid (((H1.out.bel.trans (H2.out.bel.mono H1.out.bel.size)).trans (HB3.out.mono HWW.out)).trans hb4)
  subst hv4
  rw [zl] at hc4 hcell4 c9
  obtain ⟨N, hN⟩ : ∃ N, n0 + L = N := ⟨_, rfl⟩
  rw [hN] at hc4 hcell4 c9
  have HCEL := Lib.hid hcell4
  have HZA := Lib.hid za
  have HR := Lib.hid (fun k => HKI.out.read k)
  have hn0 : n0 ≤ 1048576 := by omega
  have hL2 : 2 ≤ L := by omega
  have hLb : L ≤ 4 * a1.size + 2 := by omega
  have hLa : a1.size + 2 ≤ L := by omega
  have cq := hcell4 n0 (by omega)
  have cr := hcell4 (n0 + (L - 1)) (by omega)
  rw [zq] at cq
  rw [zr] at cr
  have HQ := Lib.hid hq
  have HNL := Lib.hid hN
  generalize (z0 ++ [q] ++ M ++ [q]) = Z at HCEL HZA
  clear hp4 hb4 hk4 hcell4 za zl zq zr hq hm1 hm2 hL
  go_wp2_with fail
  refine (js9 W2.heap.size _ W4 c9).mono ?_
  rintro e wx ⟨rfl, rfl⟩
  clear c9
  have t1 : decide ((N : Int) < (n0 : Int) + 2) = false := by simp; omega
  clear hN
  go_wp2_with fail
  go_loopw [12] (fun i wr => ∃ k m : Nat, k ≤ n0 ∧ i = .int .i64 k ∧ wr = W4.drewN m) (fun i _ => n0 - (intOf i).toNat)
  case atStart => exact ⟨0, 0, Nat.zero_le _, rfl, rfl⟩
  case round =>
    obtain ⟨k, m, hk, rfl, rfl⟩ := hrel
    by_cases hlt : k < n0
    · obtain ⟨b', off', ha', hb', hcell'⟩ := HR.out k hlt
      subst ha'
      have hkN : k < N := by have := HNL.out; omega
      have hcell := HCEL.out k hkN
      rw [HZA.out k hlt] at hcell
      obtain ⟨x, hx⟩ : ∃ x, x = z0.getD k 0 := ⟨_, rfl⟩
      rw [← hx] at hcell hcell'
      clear hx cq cr
      have hxx : (x != x) = false := by simp
      go_wp2
      go_quiet (fail)
      go_wp2
      go_roundw
      case rel => exact ⟨k + 1, m + nq, by omega, by go_num, by simp⟩
      case measure => simp [intOf]; omega
    · obtain rfl : k = n0 := by omega
      have cq2 : (W4.drewN m).cell? ⟨g4, k, none⟩ = some (.int .u8 q) := cq
      have cr2 : (W4.drewN m).cell? ⟨g4, k + (L - 1), none⟩ = some (.int .u8 q) := cr
      have e1 : N - k = L := by have := HNL.out; omega
      have j0 : (0 : Int) ≤ (k : Int) := by omega
      have j1 : (k : Int) ≤ (N : Int) := by have := HNL.out; omega
      have j2 : ¬ c4 = k := by have := HNL.out; omega
      have j3 : ¬ k = c4 := by have := HNL.out; omega
      have j4 : c4 - k ≠ 0 := by omega
      obtain ⟨l, rfl⟩ : ∃ l, L = l + 1 := ⟨L - 1, by omega⟩
      rw [Nat.add_sub_cancel] at cr2
      have f1 : decide ((a1.size : Int) + 2 ≤ ((l + 1 : Nat) : Int)) = true := by simp; omega
      have f2 : decide (((l + 1 : Nat) : Int) ≤ 4 * (a1.size : Int) + 2) = true := by simp; omega
      have f1' : decide ((a1.size : Int) + 2 ≤ (l : Int) + 1) = true := by simp; omega
      have f2' : decide ((l : Int) + 1 ≤ 4 * (a1.size : Int) + 2) = true := by simp; omega
      have qq : (q != q) = false := by simp
      have HBX := Lib.hid (below_drewN HBB.out m)
      clear cq cr HZA HKI HR HPR HKP HNL
      rcases HQ.out with rfl | rfl | ⟨rfl, hb⟩
      · go_wp2_with fail
        go_ret
        exact ⟨rfl, HBX.out⟩
      · go_wp2_with fail
        go_ret
        exact ⟨rfl, HBX.out⟩
      · have hb' : (bits BinOp.and IntKind.u8 a2 1 == 0) = false := by
          have := hb
          simp only [bne, Bool.not_eq_true'] at this
          exact this
        clear hb HQ
        go_wp2_with fail
        go_ret
        exact ⟨rfl, HBX.out⟩
theorem of_laid {w : World} (_h : laidMetH Tryf.prog Rows.fnPrintQuotedUTF8QuoteAndLengthRow.laid w) : True := trivial
end Go.Proofs.YtmakaafjkeeooabFmt.QuJ
