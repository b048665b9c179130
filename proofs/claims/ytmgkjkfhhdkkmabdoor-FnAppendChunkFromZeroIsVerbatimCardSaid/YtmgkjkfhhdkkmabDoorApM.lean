/- FnAppendChunkFromZeroIsVerbatim: the law. -/
import Derived.Test.YtmgkjkfhhdkkmabDoorRows
import Derived.Test.YtmgkjkfhhdkkmabDoorMem
import Derived.Test.YtmgkjkfhhdkkmabDoorSl
import Derived.Test.YtmgkjkfhhdkkmabDoorApL
import Derived.LaidMore
import Derived.Deep.DeepCutAuto
import Derived.Deep.Cut
import Derived.Deep.RegionHeld3
import Derived.WalkKit
import Derived.ProofKit
import Derived.OpenShut
import Derived.Below
import Derived.WalkLawsBesides
import Derived.Lib.Hide
import Derived.Outline
import Derived.RegionTactic
import Derived.Deep.QuietTactic
import Derived.BigQuiet
import Derived.WalkSpells
import Derived.Deep.OwnRows
import Derived.IntWalk
import Derived.Deep.DeepMust
namespace Go.Proofs.YtmgkjkfhhdkkmabDoor.ApM
open Go.RowKit Mem Sl
set_option linter.unusedVariables false
open Own Vq ApA ApB ApJ ApC ApE ApF ApG ApH ApI ApK ApL Args Go.ChangeShapes Go.WideShapes Go.ChangeAt

theorem gB64 : Tryd.prog.globalNamed "github.com/evanw/esbuild/internal/sourcemap.base64" = some 0 := by kernel_rfl
theorem tB64 : (Tryd.prog.globals[0]?).map (·.type) = some 23 := by kernel_rfl
theorem b64_of_laid {W : World} (h : laidMetH Tryd.prog [("github.com/evanw/esbuild/internal/sourcemap.base64", Rows.laid_github_com_evanw_esbuild_internal_sourcemap_base64)] W) : B64 W.heap.size W := by
  rw [MakeChecks.laidMetH_plain _ _ _ (by kernel_rfl)] at h
  obtain ⟨ps, ⟨g, t, cs, fuel, p, q, hg, ht, hvar, hd, _, _⟩, _, _⟩ := h
  obtain rfl := Option.some.inj (gB64.symm.trans hg)
  obtain rfl := Option.some.inj (tB64.symm.trans ht)
  have hlaid : (Rows.laid_github_com_evanw_esbuild_internal_sourcemap_base64 : DataW Unit) = .slice (lits .u8 b64) [] := by rfl
  rw [hlaid] at hd
  obtain ⟨A, c, hcs, hi⟩ := Vars.ints_of_laid Tryd.underlying23 Tryd.underlying5 (by kernel_rfl) hd (by simp [b64])
  have hc := World.var?_cell hg hvar 0
  obtain ⟨l⟩ := cs
  simp only at hcs
  subst hcs
  have hlt := Vars.var_lt hg hvar
  obtain ⟨h1, h2, h3, h4, h5, h6⟩ := hi
  obtain ⟨b, off, rfl, hb, hcell⟩ := h6 (by rw [b64_len] at h1; omega)
  refine ⟨Nat.le_refl _, by omega, b, off, c, hb, by simpa [b64_len] using hc, fun i hi => hcell i (by rw [b64_len]; exact hi)⟩
theorem of_laid {W : World} (h : laidMetH Tryd.prog Rows.fnAppendChunkFromZeroIsVerbatimRow.laid W) : B64 W.heap.size W := b64_of_laid h
/-- A clone, nil or not: a slice that reads as the same numbers. -/
def Cl (k : IntKind) (w : World) (n : Nat) (zs : List Int) (e : Ending) (w' : World) : Prop := ∃ A' c', e = .returned (.slice A' n c') ∧ IsInts k w' A' n c' zs ∧ Below w.heap.size w w'
theorem cl_any {k : IntKind} {E : TypeId} {w : World} {A : Option Addr} {n c : Nat} {zs : List Int} {e : Ending} {w' : World} (h : IsInts k w A n c zs) (hc : Cloned k E w A n zs e w') : Cl k w n zs e w' := by
  obtain ⟨v, rfl, h1⟩ := hc
  obtain ⟨h2, h3, h4, h5, h6, h7⟩ := h
  rcases h1 with ⟨rfl, rfl, rfl⟩ | ⟨_, rfl, h8, h9, _⟩
  · have hc := h6 rfl
    obtain rfl : n = 0 := by omega
    subst hc
    exact ⟨none, 0, rfl, ⟨h2, h3, h4, h5, h6, h7⟩, Below.refl _ _⟩
  · subst h4
    exact ⟨_, _, rfl, ints_of_row h8 (by omega) h5, h9⟩
def Fin3 (w : World) (e : Ending) (w' : World) : Prop := e = .returned (.bool true) ∧ Below w.heap.size w w'
theorem chunk_pos {D : List Int} {o : Option Nat} (h : Chunk D o) : 0 < D.length := by
  obtain ⟨pre, g, a, b, c, rest, h1, h2, h3, h4, h5, h6, h7⟩ := h
  obtain ⟨d0, t0, _, hc⟩ := code_head (vlqOf g)
  rw [h6]
  unfold seg4
  rw [hc]
  simp only [List.length_append, List.length_cons]
  omega
theorem flat_wf {D : List Int} (ln : Nat) (h : ∀ z ∈ D, (Lit.int .u8 z).wf = true) : ∀ z ∈ List.replicate ln (59 : Int) ++ D, (Lit.int .u8 z).wf = true := by
  intro z hz
  rcases List.mem_append.1 hz with hz | hz
  · obtain rfl := List.eq_of_mem_replicate hz
    rfl
  · exact h z hz
theorem rep_get (ln i : Nat) (D : List Int) (h : i < ln) : (List.replicate ln (59 : Int) ++ D).getD i 0 = 59 := by
  rw [List.getD, List.getElem?_append_left (by simpa using h), List.getElem?_replicate, if_pos h]
  rfl
theorem jp_new (w : World) : Jp (w.alloc (.cells #[.slice none 0 0, .slice none 0 0, .int .u32 0, .int .u8 0] 35)) w.heap.size w.heap.size [] 0 :=
  ⟨⟨.slice none 0 0, Row.newArr w 35 _, World.ownsRow_nil _ _ _ _, Nat.le_refl _, by simp⟩, fun p hp => by cases hp⟩
set_option maxHeartbeats 16000000 in
set_option maxRecDepth 100000 in
theorem main (A0 : Option Addr) (n0 c0 : Nat) (z0 : List Int) (A1 : Option Addr) (n1 c1 : Nat) (z1 : List Int) (a2 : Int) (w : World) (w0 : Args.IsInts .i32 w A0 n0 c0 z0) (w1 : Args.IsInts .u8 w A1 n1 c1 z1) (hL : B64 w.heap.size w) :
    Calls Tryd.prog 3 #[.slice A0 n0 c0, .slice A1 n1 c1, .int .i64 a2] w (Fin3 w) := by
  have m0 : n0 ≤ maxLen := Nat.le_trans w0.1 w0.2.1
  have m1 : n1 ≤ maxLen := Nat.le_trans w1.1 w1.2.1
  have H4 := Lib.hid (bytes4 A0 n0 c0 A1 n1 c1 a2 w m0 m1)
  have HL := Lib.hid hL
  have W0 := Lib.hid w0
  have W1 := Lib.hid w1
  unfold maxLen at m0 m1
  clear w0 w1 hL
  by_cases b4 : n0 + n1 ≤ 1048576
  case neg =>
    have hd : decide (n0 + n1 ≤ 1048576) = false := by simp; omega
    rw [hd] at H4
    go_enter Tryd.func3, Tryd.ntmps3
    go_wp2_with (go_at_call 4; (with_reducible refine H4.out.mono ?_); rintro e w' ⟨rfl, rfl⟩)
    go_ret
    exact ⟨rfl, Below.refl _ _⟩
  have hd : decide (n0 + n1 ≤ 1048576) = true := by simp; omega
  rw [hd] at H4
  clear hd
  by_cases q0 : n0 ≤ 20480
  case neg =>
    go_enter Tryd.func3, Tryd.ntmps3
    go_wp2_with (go_at_call 4; (with_reducible refine H4.out.mono ?_); rintro e w' ⟨rfl, rfl⟩)
    all_goals first | (go_ret; exact ⟨rfl, Below.refl _ _⟩) | (exfalso; omega)
  by_cases q1 : n1 ≤ 65536
  case neg =>
    go_enter Tryd.func3, Tryd.ntmps3
    go_wp2_with (go_at_call 4; (with_reducible refine H4.out.mono ?_); rintro e w' ⟨rfl, rfl⟩)
    all_goals first | (go_ret; exact ⟨rfl, Below.refl _ _⟩) | (exfalso; omega)
  by_cases q3 : 5 ≤ n0
  case neg =>
    go_enter Tryd.func3, Tryd.ntmps3
    go_wp2_with (go_at_call 4; (with_reducible refine H4.out.mono ?_); rintro e w' ⟨rfl, rfl⟩)
    all_goals first | (go_ret; exact ⟨rfl, Below.refl _ _⟩) | (exfalso; omega)
  by_cases q4 : 0 ≤ a2
  case neg =>
    go_enter Tryd.func3, Tryd.ntmps3
    go_wp2_with (go_at_call 4; (with_reducible refine H4.out.mono ?_); rintro e w' ⟨rfl, rfl⟩)
    all_goals first | (go_ret; exact ⟨rfl, Below.refl _ _⟩) | (exfalso; omega)
  by_cases q5 : a2 ≤ 4096
  case neg =>
    go_enter Tryd.func3, Tryd.ntmps3
    go_wp2_with (go_at_call 4; (with_reducible refine H4.out.mono ?_); rintro e w' ⟨rfl, rfl⟩)
    all_goals first | (go_ret; exact ⟨rfl, Below.refl _ _⟩) | (exfalso; omega)
  obtain ⟨ln, rfl⟩ : ∃ ln : Nat, a2 = (ln : Int) := ⟨a2.toNat, by omega⟩
  have hln : ln ≤ 4096 := by omega
  have H5 := Lib.hid (ok5 A0 n0 c0 z0 w W0.out (by omega))
  go_enter Tryd.func3, Tryd.ntmps3
  go_upto_region 11 with (first | (go_at_call 4; (with_reducible refine H4.out.mono ?_); rintro e w' ⟨rfl, rfl⟩) | (go_at_call 5; (with_reducible refine H5.out.mono ?_); rintro e w' ⟨b, rfl, hz5, rfl⟩; have HZ5 := Lib.hid hz5; clear hz5))
  all_goals try (go_ret; exact ⟨rfl, Below.refl _ _⟩)
  have hbt : b = true := by first | assumption | simp_all
  have hsm : ∀ z ∈ z0, Sm z := HZ5.out hbt
  clear HZ5 hbt
  clear H4 H5 q4 q5
  have H6 := Lib.hid ((clone6 A0 n0 c0 z0 w W0.out (by omega)).mono fun e w' h => cl_any W0.out h)
  go_upto_region 12 with (go_at_call 6; (with_reducible refine H6.out.mono ?_); rintro e wa ⟨A3, c3, rfl, hi3, hb3⟩; have HI3 := Lib.hid hi3; have HB3 := Lib.hid hb3; clear hi3 hb3)
  have H7 := Lib.hid ((clone7 A1 n1 c1 z1 wa (W1.out.later HB3.out) (by omega)).mono fun e w' h => cl_any (W1.out.later HB3.out) h)
  go_upto_region 13 with (go_at_call 7; (with_reducible refine H7.out.mono ?_); rintro e wb ⟨A4, c4, rfl, hi4, hb4⟩; have HI4 := Lib.hid hi4; have HB4 := Lib.hid hb4; clear hi4 hb4)
  have H8 := Lib.hid (bld8 A3 n0 c3 z0 A4 n1 c4 z1 wb (HI3.out.later HB4.out) HI4.out q3 q0 q1 hsm)
  clear H6 H7 hsm
  have HBB := Lib.hid (HB3.out.trans (HB4.out.mono HB3.out.size))
  go_upto_region 14 with (go_at_call 8; (with_reducible refine H8.out.mono ?_); rintro e wc ⟨x, D, o, sg, rfl, hx, hch, hD, ho, hb8⟩; have HX := Lib.hid hx; have HCH := Lib.hid hch; have HO := Lib.hid ho; have HB8 := Lib.hid hb8; clear hx hch ho hb8)
  clear H8 HI3 HI4 W0 W1
  have HBC := Lib.hid (HBB.out.trans (HB8.out.mono HBB.out.size))
  clear HBB HB8 HB3 HB4
  have HTC := Lib.hid (HL.out.below HBC.out)
  clear HL
  go_upto_region 15 with fail
  obtain ⟨XA, XC, rfl, hxi⟩ := HX.out.ints
  have HJ0 := Lib.hid (jp_new wc)
  have HW0 := Lib.hid ((Below.refl wc.heap.size wc).alloc (Nat.le_refl _) (.cells #[.slice none 0 0, .slice none 0 0, .int .u32 0, .int .u8 0] 35))
  generalize hWD : wc.alloc (.cells #[.slice none 0 0, .slice none 0 0, .int .u32 0, .int .u8 0] 35) = wd at HJ0 HW0 ⊢
  clear hWD
  obtain ⟨nD, hnD⟩ : ∃ m, m = D.length := ⟨_, rfl⟩
  rw [← hnD] at hxi HX hD ⊢
  have HND := Lib.hid hnD
  have HXI := Lib.hid hxi
  clear hnD hxi
  have H10 := Lib.hid (buf10 XA nD XC o wd (fun v h => by have := HO.out v h; omega))
  have hcp : 0 < nD := by rw [HND.out]; exact chunk_pos HCH.out
  go_upto_region 16 with (first | (go_at_call 10; (with_reducible refine H10.out.mono ?_); rintro e we ⟨rfl, hb10⟩; have HWE := Lib.hid (HW0.out.trans (hb10.mono HW0.out.size)); have HJ1 := Lib.hid (jp_later HJ0.out hb10); clear hb10; have H9 := Lib.hid (chk9 wc.heap.size ln _ D o wc.heap.size w.heap.size we HJ1.out (HX.out.keep (keeps_below HWE.out)) (HTC.out.below (HWE.out.mono HBC.out.size)) HBC.out.size hln (by rw [← HND.out]; exact hD) HO.out HCH.out); unfold zst at H9) | (go_at_call 9; (with_reducible refine H9.out.mono ?_); rintro e wf ⟨rfl, ps, lb, hj9, h29, h109, hfl9, hb9⟩; have HJ9 := Lib.hid hj9; have HFL := Lib.hid hfl9; have HWF := Lib.hid (HWE.out.trans hb9); clear hj9 hfl9 hb9))
  clear H10 H9 HJ0 HJ1 HWE HW0
  have hlen : (flat ps).length = ln + nD := by rw [HFL.out, List.length_append, List.length_replicate, ← HND.out]
  have HLEN := Lib.hid hlen
  obtain ⟨L, hL2⟩ : ∃ m, m = ln + nD := ⟨_, rfl⟩
  have HL2 := Lib.hid hL2
  have H11 : Hid (Calls Tryd.prog 11 #[.pointer (some ⟨wc.heap.size, 0, none⟩)] wf fun e w' => e = .returned (.slice (some ⟨wf.heap.size, 0, none⟩) L L) ∧ Row w' wf.heap.size 5 (iv .u8 (flat ps)) ∧ Below wf.heap.size wf w') := Lib.hid ((done11 wc.heap.size wc.heap.size ps lb wf HJ9.out h29 (by omega) (by omega)).mono fun e w' h => ⟨by rw [h.1, HLEN.out, HL2.out], h.2⟩)
  have hL3 : ln + nD ≤ L ∧ L ≤ ln + nD := by omega
  clear hlen h29 h109 hL2
  go_upto_region 17 with (go_at_call 11; (with_reducible refine H11.out.mono ?_); rintro e wg ⟨rfl, hr11, hb11⟩; have HR := Lib.hid hr11; have HWG := Lib.hid (HBC.out.trans ((HWF.out.trans (hb11.mono HWF.out.size)).mono HBC.out.size)); have HXG := Lib.hid (HX.out.keep (keeps_below (HWF.out.trans (hb11.mono HWF.out.size)))); clear hr11 hb11)
  have tne : ((L : Int) != (ln : Int) + (nD : Int)) = false := by simp; omega
  obtain ⟨y, hy, hpy⟩ := tail_sl wf.heap.size 0 L L ln (by omega) (Nat.le_refl _)
  have hwfD : ∀ z ∈ D, (Lit.int .u8 z).wf = true := HXI.out.2.2.2.1
  have hpo : Pc wg (.slice (some ⟨wf.heap.size, 0, none⟩) L L) (flat ps) := by
    have e1 : (flat ps).length = L := by rw [HLEN.out, HL2.out]
    refine ⟨some ⟨wf.heap.size, 0, none⟩, L, by rw [e1], by omega, by unfold maxLen; omega, by rw [HFL.out]; exact flat_wf ln hwfD, (fun h => by cases h), fun _ => ⟨wf.heap.size, 0, _, rfl, HR.out, fun i hi => ?_⟩⟩
    rw [Nat.zero_add]
    have h9 := iv_at .u8 (flat ps) i hi
    simpa using h9
  have hp2 := hpy wg (flat ps) hpo (by rw [HLEN.out, HL2.out])
  have e3 : (flat ps).drop ln = D := by
    rw [HFL.out, List.drop_left' (by simp)]
  rw [e3] at hp2
  obtain ⟨YA, YC, rfl, hyi⟩ := hp2.ints
  rw [← HND.out] at hyi hy
  have H12 := Lib.hid (same12 YA XA nD YC XC D wg hyi (by obtain ⟨A', c', q1, q2⟩ := HXG.out.ints; rw [← HND.out] at q1 q2; injection q1 with q1 q3 q4; subst q1 q4; exact q2) (by omega))
  have HCO := Lib.hid (fun k (hk : k < ln) => (HR.out.at_ (i := k) (by rw [iv_at .u8 (flat ps) k (by rw [HLEN.out]; omega), HFL.out, rep_get ln k D hk]) : wg.cell? ⟨wf.heap.size, k, none⟩ = some (.int .u8 59)))
  clear hpy hwfD hpo hp2 e3 hyi H11
  have hlnL : ln ≤ L := by omega
  go_wp2_with fail
  go_loop [12] (fun x => ∃ k : Nat, k ≤ ln ∧ x = .int .i64 (k : Int)) (fun x => ln - (intOf x).toNat)
  case atStart => exact ⟨0, Nat.zero_le _, rfl⟩
  case round =>
    obtain ⟨k, hk, rfl⟩ := hrel
    by_cases hlt : k < ln
    · have ck := HCO.out k hlt
      have hkL : (k : Int) < (L : Int) := by omega
      go_wp2_with fail
      go_round
      case rel => exact ⟨k + 1, by omega, by go_num⟩
      case measure => simp [intOf]; omega
    · obtain rfl : k = ln := by omega
      go_wp2_with (go_at_call 12; (with_reducible refine H12.out.mono ?_); rintro e wh ⟨rfl, m, rfl⟩)
      go_ret
      exact ⟨rfl, below_drewN HWG.out _⟩
theorem law (A0 : Option Addr) (n0 c0 : Nat) (z0 : List Int) (A1 : Option Addr) (n1 c1 : Nat) (z1 : List Int) (a2 : Int) (w : World) (w0 : Args.IsInts .i32 w A0 n0 c0 z0) (w1 : Args.IsInts .u8 w A1 n1 c1 z1) (w2 : (Lit.int .i64 a2).wf = true) (hL : B64 w.heap.size w) :
    Calls Tryd.prog 3 #[.slice A0 n0 c0, .slice A1 n1 c1, .int .i64 a2] w fun e w' => e = .returned (.bool true) ∧ Below w.heap.size w w' := main A0 n0 c0 z0 A1 n1 c1 z1 a2 w w0 w1 hL
end Go.Proofs.YtmgkjkfhhdkkmabDoor.ApM
