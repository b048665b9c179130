/- FnCookedAndRawTemplateContentsWhole: the law. -/
import Derived.Test.YtalpfbbceggcaaaDoorRows
import Derived.Test.YtalpfbbceggcaaaDoorCwC
import Derived.Test.YtalpfbbceggcaaaDoorCwE
import Derived.Test.YtalpfbbceggcaaaDoorVars
import Derived.WalkSpells
import Derived.Great.BuildSlice
import Derived.OwnWalk
import Derived.Lib.LaidU8
import Derived.WalkKit
import Derived.ProofKit
import Derived.OpenShut
import Derived.Below
import Derived.WalkLawsBesides
import Derived.Lib.Hide
import Derived.Outline
import Derived.RegionTactic
import Derived.Deep.QuietTactic
import Derived.BigQuiet
import Derived.WalkSpells
import Derived.Deep.OwnRows
import Derived.IntWalk
import Derived.Deep.DeepMust
namespace Go.Proofs.YtalpfbbceggcaaaDoor.CwL
open Go.RowKit Mem Args Sl Own Prn Str Dec Step CwP CwG CwT CwK CwU CwN CwS CwX CwF
set_option linter.unusedVariables false
set_option linter.unusedSimpArgs false

theorem cloned_ints {k : IntKind} {E : TypeId} {w w' : World} {A : Option Addr} {n c : Nat} {zs : List Int} {e : Ending} (h : Cloned k E w A n zs e w') (hI : IsInts k w A n c zs) : ∃ A' c', e = .returned (.slice A' n c') ∧ IsInts k w' A' n c' zs ∧ Below w.heap.size w w' := by
  obtain ⟨v, rfl, ⟨rfl, rfl, rfl⟩ | ⟨hne, rfl, hrow, hb, _⟩⟩ := h
  · obtain ⟨h1, h2, h3, h4, h5, h6⟩ := hI
    have hc := h5 rfl
    obtain rfl : n = 0 := by omega
    exact ⟨none, 0, rfl, ⟨Nat.le_refl _, Nat.zero_le _, h3, h4, fun _ => rfl, fun h => absurd h (by omega)⟩, Below.refl _ _⟩
  · obtain ⟨h1, h2, h3, h4, h5, h6⟩ := hI
    have := ints_of_row hrow (by omega) h4
    rw [h3] at this
    exact ⟨_, _, rfl, this, hb⟩
theorem ext_mid (a o x c b : ByteArray) : ((((a ++ o) ++ x) ++ c) ++ b).extract (a.size + o.size) (a.size + o.size + x.size) = x := by
  apply ByteArray.ext
  rw [ByteArray.data_extract]
  simp only [ByteArray.data_append]
  apply Array.ext'
  rw [Array.toList_extract]
  simp only [Array.toList_append, List.extract_eq_take_drop]
  have h1 : a.size = a.data.toList.length := by simp
  have h2 : o.size = o.data.toList.length := by simp
  have h3 : x.size = x.data.toList.length := by simp
  rw [h1, h2, h3, Nat.add_sub_cancel_left]
  rw [List.append_assoc, List.append_assoc, List.append_assoc, ← List.append_assoc, ← List.length_append, List.drop_append_of_le_length (Nat.le_refl _), List.drop_length, List.nil_append, List.take_append_of_le_length (Nat.le_refl _), List.take_length]
theorem op_size (k : Int) : (bytesOf (op k)).size = 1 := by rw [bytesOf_size]; unfold op; split <;> rfl
theorem cl_size (k : Int) : (bytesOf (cl k)).size = (cl k).length := bytesOf_size _
theorem tk_cl (k : Int) (h0 : 0 ≤ k) : (tk k = 3 ∨ tk k = 9) ∧ (cl k).length = 1 ∨ (tk k = 7 ∨ tk k = 8) ∧ (cl k).length = 2 := by
  have hcs : k % 4 = 0 ∨ k % 4 = 1 ∨ k % 4 = 2 ∨ k % 4 = 3 := by omega
  unfold tk cl
  rcases hcs with h | h | h | h <;> rw [h] <;> simp
theorem hne (W : World) (a : Addr) (l c : Nat) : (binOp .neq 22 (.slice (some a) l c) (.slice none 0 0)).run Tryd.prog W = .ok (.bool true) W := run_neq_slice_nil_any (P := Tryd.prog) W 22 37 (some a) l c 0 0 Tryd.underlying22
set_option maxRecDepth 100000 in
set_option maxHeartbeats 4000000 in
theorem law_go (a0 a1 : ByteArray) (A2 : Option Addr) (n2 c2 : Nat) (z2 : List Int) (A3 : Option Addr) (n3 c3 : Nat) (z3 : List Int) (a4 : Int) (w : World)
    (w2 : Args.IsInts .u16 w A2 n2 c2 z2) (w3 : Args.IsInts .u8 w A3 n3 c3 z3) (w4 : (Lit.int .u8 a4).wf = true) (hT : Lib.Utf8Tabs 1 2 w)
    (ht : a0.size + a1.size + n2 + n3 ≤ 1048576) (m0 : a0.size ≤ 65536) (m1 : a1.size ≤ 65536) (m2 : n2 ≤ 65536) (m3 : n3 ≤ 65536) (hq : a0.size + a1.size + 2 * n2 + n3 ≤ 1048576) :
    Calls Tryd.prog 3 #[.string a0, .string a1, .slice A2 n2 c2, .slice A3 n3 c3, .int .u8 a4] w fun e w' => e = .returned (.bool true) ∧ Below w.heap.size w w' := by
  obtain ⟨k0, k1⟩ := bounds_u8 w4
  have K4 := Lib.hid (bytes4 a0 a1 A2 n2 c2 A3 n3 c3 a4 w (by unfold maxLen; omega) (by unfold maxLen; omega) (by unfold maxLen; omega) (by unfold maxLen; omega))
  rw [show decide (a0.size + a1.size + n2 + n3 ≤ 1048576) = true by simp [ht]] at K4
  have W2 := Lib.hid w2
  have W3 := Lib.hid w3
  have HT := Lib.hid hT
  have hU := Lib.hid (ub_of w2)
  have hzl : z2.length = n2 := w2.2.2.1
  have b0 : (a0.size : Int) ≤ 65536 := by omega
  have b1 : (a1.size : Int) ≤ 65536 := by omega
  have b2 : (n2 : Int) ≤ 65536 := by omega
  have b3 : (n3 : Int) ≤ 65536 := by omega
  have b4 : (a0.size : Int) + (a1.size : Int) + 2 * (n2 : Int) + (n3 : Int) ≤ 1048576 := by omega
  have HZL := Lib.hid hzl
  clear w2 w3 w4 hT hzl
  go_enter Tryd.func3, Tryd.ntmps3
  go_upto_region 7 with (go_at_call 4; refine K4.out.mono ?_; rintro e w' ⟨rfl, rfl⟩)
  go_upto_region 8 with (go_at_call 5; refine (clone5 A2 n2 c2 z2 _ W2.out (by omega)).mono ?_; rintro e v1 hc; obtain ⟨A5, c5, rfl, hI, hb⟩ := cloned_ints hc W2.out; have I1 := Lib.hid hI; have B1 := Lib.hid hb; clear hc hI hb)
  go_upto_region 9 with (go_at_call 6; refine (clone6 A3 n3 c3 z3 _ (W3.out.later B1.out) (by omega)).mono ?_; rintro e v2 hc; obtain ⟨A6, c6, rfl, hI, hb⟩ := cloned_ints hc (W3.out.later B1.out); have I2 := Lib.hid hI; have I1' := Lib.hid (I1.out.later hb); have B2 := Lib.hid (B1.out.trans (hb.mono B1.out.size)); clear hc hI hb)
  clear I1 B1 W2 W3 K4
  go_upto_region 10 with (go_at_call 7; refine (CwE.enc7 A5 n2 c5 z2 A6 n3 c6 z3 _ I1'.out I2.out (by omega) (by omega)).mono ?_; rintro e v3 ⟨rfl, hb⟩; have I3 := Lib.hid (I1'.out.later hb); have B3 := Lib.hid (B2.out.trans (hb.mono B2.out.size)); clear hb)
  clear I1' I2 B2
  have hEl := encE_len z2 z3 n2
  have hRl := encR_len z2 z3 n2
  obtain ⟨E, hE⟩ : ∃ E, E = encE z2 z3 n2 := ⟨_, rfl⟩
  have HNW := Lib.hid (show nrm E = encR z2 z3 n2 by rw [hE]; exact nrm_whole z2 z3 n2)
  have HEB := Lib.hid (show ∀ z ∈ E, (Lit.int .u8 z).wf = true from fun z hz => by_u8 (CwV.encE_b hU.out n2 z (by rw [← hE]; exact hz)))
  have HRB := Lib.hid (show ∀ z ∈ nrm E, (Lit.int .u8 z).wf = true from fun z hz => by_u8 (CwV.encR_b hU.out n2 z (by rw [← HNW.out]; exact hz)))
  have HDE := Lib.hid (show Dec (nrm E) z2 by
    have := dec_enc z2 z3 hU.out n2 (by rw [HZL.out]; exact Nat.le_refl _)
    rw [List.take_of_length_le (by rw [HZL.out]; exact Nat.le_refl _)] at this
    rw [HNW.out]; exact this)
  have HNI := Lib.hid (show z2 = [] → nrm E = [] from fun h => by
    have : n2 = 0 := by rw [← HZL.out, h]; rfl
    rw [HNW.out, this]
    rfl)
  have hXs : (bytesOf E).size = E.length := bytesOf_size E
  have hEl2 : E.length ≤ 1048576 := by rw [hE]; omega
  have hRl2 : (nrm E).length ≤ 1048576 := by rw [HNW.out]; omega
  rw [← hE, ← HNW.out]
  obtain ⟨X, hX⟩ : ∃ X, X = bytesOf E := ⟨_, rfl⟩
  obtain ⟨Rw, hRw⟩ : ∃ Rw, Rw = bytesOf (nrm E) := ⟨_, rfl⟩
  rw [← hX] at hXs ⊢
  rw [← hRw]
  have HX := Lib.hid hX
  have HRW := Lib.hid hRw
  clear hE hEl hRl hX hRw
  go_upto_region 11 with (go_at_call 8; refine (parts8 a4 k0 k1 _).mono ?_; rintro e v4 ⟨rfl, rfl⟩)
  obtain ⟨O, hO⟩ : ∃ O, O = bytesOf (op a4) := ⟨_, rfl⟩
  obtain ⟨C, hC⟩ : ∃ C, C = bytesOf (cl a4) := ⟨_, rfl⟩
  obtain ⟨tok, htk⟩ : ∃ tok, tok = tk a4 := ⟨_, rfl⟩
  obtain ⟨kk, hkk⟩ : ∃ kk, kk = (cl a4).length := ⟨_, rfl⟩
  have hTK := tk_cl a4 k0
  have hOs : O.size = 1 := by rw [hO]; exact op_size a4
  have hCs : C.size = kk := by rw [hC, hkk]; exact cl_size a4
  rw [← htk, ← hkk] at hTK
  rw [← hO, ← hC, ← htk]
  have hk2 : kk ≤ 2 := by omega
  have hXs2 : X.size ≤ 1048576 := by omega
  have HTK := Lib.hid hTK
  have HKX := Lib.hid (show X.size = E.length from hXs)
  clear hO hC htk hkk hTK hXs
  have HMID := Lib.hid (ext_mid a0 O X C a1)
  obtain ⟨S, hS⟩ : ∃ S, S = a0 ++ O ++ X ++ C ++ a1 := ⟨_, rfl⟩
  have hSz : S.size = a0.size + O.size + X.size + C.size + a1.size := by rw [hS]; simp only [ByteArray.size_append]
  rw [← hS] at HMID
  have HSZ := Lib.hid hSz
  clear hSz
  go_upto_region 12 with fail
  rw [← hS]
  have HS := Lib.hid hS
  clear hS
  go_upto_region 15 with (go_at_call 9; refine (new9 S _ _ tok _).mono ?_; rintro e v5 ⟨rfl, hx, hb⟩; have HX5 := Lib.hid (show ∃ en : Int, en = ((a0.size + O.size + X.size + C.size : Nat) : Int) ∧ Lx v5 v3.heap.size S (a0.size : Int) en tok from ⟨_, by omega, hx⟩); have I5 := Lib.hid (I3.out.later hb); have B5 := Lib.hid (B3.out.trans (hb.mono B3.out.size)); clear hx hb)
  have HL5 := Lib.hid (show Lx v5 v3.heap.size S (a0.size : Int) ((a0.size + O.size + X.size + C.size : Nat) : Int) tok by
    obtain ⟨en, he, hx⟩ := HX5.out
    rw [he] at hx
    exact hx)
  have HRAW := Lib.hid (show S.extract (a0.size + 1) (a0.size + O.size + X.size + C.size - kk) = bytesOf E by
    have := HMID.out
    rw [hOs] at this
    rw [hOs, hCs, Nat.add_sub_cancel, this, HX.out])
  have HNM := Lib.hid (show a0.size + 1 + kk ≤ a0.size + O.size + X.size + C.size ∧ a0.size + O.size + X.size + C.size ≤ S.size ∧ S.size ≤ 100000000 ∧ E.length ≤ 100000000 ∧ (nrm E).length ≤ 100000000 ∧ z2.length ≤ 1000000 by
    have := HSZ.out
    have := HZL.out
    have := HKX.out
    omega)
  clear I3 B3 HX5 HMID HSZ HS
  go_upto_region 16 with (go_at_call 10; refine (CwC.cook10 v5 v3.heap.size S a0.size (a0.size + O.size + X.size + C.size) kk tok E z2 HL5.out HTK.out HRAW.out HNM.out.1 HNM.out.2.1 HNM.out.2.2.1 HEB.out HRB.out HDE.out hU.out HNI.out HNM.out.2.2.2.1 HNM.out.2.2.2.2.1 HNM.out.2.2.2.2.2 (tabs_later HT.out B5.out)).mono ?_; rintro e v6 ⟨a, c, rfl, hI, hb⟩; rw [HZL.out] at hI; rw [HZL.out, ← HRW.out]; have I6 := Lib.hid hI; have I6' := Lib.hid (I5.out.later hb); have B6 := Lib.hid (B5.out.trans (hb.mono B5.out.size)); clear hI hb)
  have hne1 := hne v6 a n2 c
  go_wp2_with (go_at_call 11; refine (same11 (some a) A5 n2 c c5 z2 v6 I6.out I6'.out (by omega)).mono ?_; rintro e v7 ⟨rfl, m, rfl⟩)
  go_ret
  exact ⟨rfl, B6.out.trans ⟨rfl, rfl, rfl, Nat.le_refl _, fun _ _ => rfl⟩⟩
theorem law (a0 : ByteArray) (a1 : ByteArray) (A2 : Option Addr) (n2 c2 : Nat) (z2 : List Int) (A3 : Option Addr) (n3 c3 : Nat) (z3 : List Int) (a4 : Int) (w : World) (w0 : a0.size ≤ maxLen) (w1 : a1.size ≤ maxLen) (w2 : Args.IsInts .u16 w A2 n2 c2 z2) (w3 : Args.IsInts .u8 w A3 n3 c3 z3) (w4 : (Lit.int .u8 a4).wf = true) (hT : Lib.Utf8Tabs 1 2 w) :
    Calls Tryd.prog 3 #[.string a0, .string a1, .slice A2 n2 c2, .slice A3 n3 c3, .int .u8 a4] w fun e w' => e = .returned (.bool true) ∧ Below w.heap.size w w' := by
  have h2 : n2 ≤ maxLen := Nat.le_trans w2.1 w2.2.1
  have h3 : n3 ≤ maxLen := Nat.le_trans w3.1 w3.2.1
  have K4 := Lib.hid (bytes4 a0 a1 A2 n2 c2 A3 n3 c3 a4 w w0 w1 h2 h3)
  by_cases ht : a0.size + a1.size + n2 + n3 ≤ 1048576
  case neg =>
    rw [show decide (a0.size + a1.size + n2 + n3 ≤ 1048576) = false by simp; omega] at K4
    go_enter Tryd.func3, Tryd.ntmps3
    go_wp2_with (go_at_call 4; refine K4.out.mono ?_; rintro e w' ⟨rfl, rfl⟩)
    go_ret
    exact ⟨rfl, Below.refl _ _⟩
  by_cases hall : a0.size ≤ 65536 ∧ a1.size ≤ 65536 ∧ n2 ≤ 65536 ∧ n3 ≤ 65536
  case neg =>
    rw [show decide (a0.size + a1.size + n2 + n3 ≤ 1048576) = true by simp [ht]] at K4
    by_cases m0 : a0.size ≤ 65536
    · by_cases m1 : a1.size ≤ 65536
      · by_cases m2 : n2 ≤ 65536
        · have m3 : ¬ n3 ≤ 65536 := fun h => hall ⟨m0, m1, m2, h⟩
          have b0 : (a0.size : Int) ≤ 65536 := by omega
          have b1 : (a1.size : Int) ≤ 65536 := by omega
          have b2 : (n2 : Int) ≤ 65536 := by omega
          have b3 : (65536 : Int) < (n3 : Int) := by omega
          clear hall
          go_enter Tryd.func3, Tryd.ntmps3
          go_wp2_with (go_at_call 4; refine K4.out.mono ?_; rintro e w' ⟨rfl, rfl⟩)
          go_ret
          exact ⟨rfl, Below.refl _ _⟩
        · have b0 : (a0.size : Int) ≤ 65536 := by omega
          have b1 : (a1.size : Int) ≤ 65536 := by omega
          have b2 : (65536 : Int) < (n2 : Int) := by omega
          clear hall
          go_enter Tryd.func3, Tryd.ntmps3
          go_wp2_with (go_at_call 4; refine K4.out.mono ?_; rintro e w' ⟨rfl, rfl⟩)
          go_ret
          exact ⟨rfl, Below.refl _ _⟩
      · have b0 : (a0.size : Int) ≤ 65536 := by omega
        have b1 : (65536 : Int) < (a1.size : Int) := by omega
        clear hall
        go_enter Tryd.func3, Tryd.ntmps3
        go_wp2_with (go_at_call 4; refine K4.out.mono ?_; rintro e w' ⟨rfl, rfl⟩)
        go_ret
        exact ⟨rfl, Below.refl _ _⟩
    · have b0 : (65536 : Int) < (a0.size : Int) := by omega
      clear hall
      go_enter Tryd.func3, Tryd.ntmps3
      go_wp2_with (go_at_call 4; refine K4.out.mono ?_; rintro e w' ⟨rfl, rfl⟩)
      go_ret
      exact ⟨rfl, Below.refl _ _⟩
  obtain ⟨m0, m1, m2, m3⟩ := hall
  by_cases hq : a0.size + a1.size + 2 * n2 + n3 ≤ 1048576
  · exact law_go a0 a1 A2 n2 c2 z2 A3 n3 c3 z3 a4 w w2 w3 w4 hT ht m0 m1 m2 m3 hq
  · omega
theorem of_laid {w : World} (hL : laidMetH Tryd.prog Rows.fnCookedAndRawTemplateContentsWholeRow.laid w) : Lib.Utf8Tabs 1 2 w := by
  have hL' : laidMet Tryd.prog Rows.fnCookedAndRawTemplateContentsWholeRow.laid w := hL
  have e1 : Rows.laid_unicode_utf8_first = Lib.firstData := by kernel_rfl
  have e2 : (Rows.laid_unicode_utf8_acceptRanges : DataW Unit) = Lib.acceptData := by kernel_rfl
  have m1 : ("unicode/utf8.first", Lib.firstData) ∈ Rows.fnCookedAndRawTemplateContentsWholeRow.laid := by rw [← e1]; exact .tail _ (.head _)
  have m2 : ("unicode/utf8.acceptRanges", Lib.acceptData) ∈ Rows.fnCookedAndRawTemplateContentsWholeRow.laid := by rw [← e2]; exact .head _
  exact utf8Tabs_of_reads (ρ := Tryd.lays260_ren) Tryd.lays260 ⟨by kernel_rfl, by kernel_rfl, by kernel_rfl, by kernel_rfl, by kernel_rfl, by kernel_rfl, by kernel_rfl⟩ (Lib.laidMet.reads hL' m1) (Lib.laidMet.reads hL' m2)
end Go.Proofs.YtalpfbbceggcaaaDoor.CwL
