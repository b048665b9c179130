/- FnAdvanceImportTrackerTypeScriptOnlyExcusesNoMatch: for all settings of the import and of the file it leads to, the step answers alike for both kinds of file, but for no match, which a TypeScript file excuses. -/
import Derived.Test.YtelcjpmaegacoaaDoorRows
import Derived.Test.YtelcjpmaegacoaaDoorMem
import Derived.Test.YtelcjpmaegacoaaDoorSl
import Derived.Test.YtelcjpmaegacoaaDoorAiZ
import Derived.Test.YtelcjpmaegacoaaDoorAiM
import Derived.Test.YtelcjpmaegacoaaDoorAiB
import Derived.Test.YtelcjpmaegacoaaDoorVars
import Derived.Deep.RegionHeld3
import Derived.Deep.RegionLaw
import Derived.Carry
import Derived.Deep.DeepCutAuto
import Derived.Laws.Rows
import Derived.ChangeSame
import Derived.WalkKit
import Derived.ProofKit
import Derived.OpenShut
import Derived.Below
import Derived.WalkLawsBesides
import Derived.Lib.Hide
import Derived.Outline
import Derived.RegionTactic
import Derived.Deep.QuietTactic
import Derived.BigQuiet
import Derived.WalkSpells
import Derived.Deep.OwnRows
import Derived.IntWalk
import Derived.Deep.DeepMust
namespace Go.Proofs.YtelcjpmaegacoaaDoor.AiL
open Go.RowKit Mem Sl
set_option linter.unusedVariables false
open Args Fvs AiP AiA AiC AiJ AiS AiB AiD AiZ AiM MapK Go.Maps Go.ChangeShapes Go.WideShapes Go.ChangeAt

theorem gInv : Tryd.prog.globalNamed "github.com/evanw/esbuild/internal/ast.InvalidRef" = some 0 := by kernel_rfl
theorem tInv : (Tryd.prog.globals[0]?).map (·.type) = some 31 := by kernel_rfl
theorem trod_u32 {w : World} {base : Nat} {spare : Nat → Bool} {held : Bool} {fuel : Nat} {cs : List Value} {x : Int} {q : List MemPlace} (h : DataW.trod (fun _ => ()) Tryd.prog w base spare held fuel 29 cs = some (.lit (.int .u32 x), q)) : cs = [.int .u32 x] := by
  obtain ⟨n, h1, h2, _⟩ := DataW.trod_int Tryd.underlying29 h
  simp only [Prod.mk.injEq, DataW.lit.injEq, Lit.int.injEq, true_and] at h2
  rw [h1, h2.1]
theorem of_laid {w : World} (hL : laidMetH Tryd.prog Rows.fnAdvanceImportTrackerTypeScriptOnlyExcusesNoMatchRow.laid w) : Gi w := by
  change laidMetH Tryd.prog [("github.com/evanw/esbuild/internal/ast.InvalidRef", Rows.laid_github_com_evanw_esbuild_internal_ast_InvalidRef)] w at hL
  rw [MakeChecks.laidMetH_plain _ _ _ (by kernel_rfl)] at hL
  obtain ⟨ps, ⟨g, t, cs, fuel, p, q, hg, ht, hvar, hd, _, _⟩, _, _⟩ := hL
  obtain rfl := Option.some.inj (gInv.symm.trans hg)
  obtain rfl := Option.some.inj (tInv.symm.trans ht)
  have hlt := Vars.var_lt hg hvar
  obtain ⟨y0, y1, n, hx, hl, h0, h1⟩ := trod_struct2 Tryd.underlying31 hd
  have k2 : Tryd.prog.cellsOf 31 = 2 := by kernel_rfl
  have k1 : Tryd.prog.cellsOf 29 = 1 := by kernel_rfl
  obtain ⟨l⟩ := cs
  rw [k2] at hl
  simp only [k1] at h0 h1
  obtain ⟨a, b, rfl⟩ : ∃ a b, l = [a, b] := by
    match l, hl with
    | [a, b], _ => exact ⟨a, b, rfl⟩
  obtain ⟨y0a, y0b⟩ := y0
  obtain ⟨y1a, y1b⟩ := y1
  simp only [Rows.laid_github_com_evanw_esbuild_internal_ast_InvalidRef, Prod.mk.injEq, DataW.agg.injEq, List.cons.injEq, and_true] at hx
  obtain ⟨⟨rfl, rfl⟩, _⟩ := hx
  have e0 := trod_u32 h0
  have e1 := trod_u32 h1
  simp at e0 e1
  subst e0 e1
  exact ⟨by simpa using World.var?_cell gInv hvar 0, by simpa using World.var?_cell gInv hvar 1, hlt⟩
theorem rs_strs {w : World} {A : Option Addr} {n c : Nat} {zs : List ByteArray} (h : Args.IsStrs w A n c zs) : Rs w A n (fun i => .string (zs.getD i ByteArray.empty)) := fun i hi => by
  obtain ⟨h1, h2, h3, h4, h5, h6⟩ := h
  obtain ⟨b, off, rfl, hb, hc⟩ := h6 (by omega)
  exact ⟨b, off, rfl, hb, hc i hi⟩
theorem out_le (p : Pa) (ts : Bool) : p.out ts ≤ 7 := by
  unfold Pa.out
  repeat (first | split | omega)
theorem st_of {p : Pa} {o : Nat} {a b c d st : Int} (h : Pa.ans p o = (a, b, c, d, st)) (h6 : o ≠ 6) (h7 : o ≠ 7) (hle : o ≤ 7) : st ≠ 7 ∧ st ≠ 0 := by
  have e : o = 0 ∨ o = 1 ∨ o = 2 ∨ o = 3 ∨ o = 4 ∨ o = 5 := by omega
  rcases e with rfl | rfl | rfl | rfl | rfl | rfl <;> (simp only [Pa.ans, Prod.mk.injEq] at h; omega)
theorem amb_same {p : Pa} {w : World} {v v' : Value} {o : Nat} (h : Am p w v o) (h' : Am p w v' o) : Calls Tryd.prog 9 #[v, v'] w fun e w' => e = .returned (.bool true) ∧ Below w.heap.size w w' := by
  unfold Am at h h'
  split at h
  · obtain ⟨b, rfl, h1, h2⟩ := h
    obtain ⟨b', rfl, h3, h4⟩ := h'
    refine amb9 2 (by decide) b b' (fun j => if j = 0 then 4 else 6) w (fun j hj => ?_) (fun j hj => ?_)
    · rcases (show j = 0 ∨ j = 1 by omega) with rfl | rfl
      · exact h1
      · exact h2
    · rcases (show j = 0 ∨ j = 1 by omega) with rfl | rfl
      · exact h3
      · exact h4
  · obtain ⟨b, rfl, h1⟩ := h
    obtain ⟨b', rfl, h3⟩ := h'
    refine amb9 1 (by decide) b b' (fun j => lastK p.g p.al p.n + 7) w (fun j hj => ?_) (fun j hj => ?_)
    · obtain rfl : j = 0 := by omega
      exact h1
    · obtain rfl : j = 0 := by omega
      exact h3
  · simp only at h'
    subst h
    subst h'
    exact amb9nil w
set_option maxRecDepth 100000 in
set_option maxHeartbeats 4000000 in
theorem law0 (p : Pa) (A9 : Option Addr) (c9 : Nat) (w : World) (h0 : p.al.size ≤ maxLen) (hn : p.n ≤ maxLen) (hg : ∀ i, (p.g i).size ≤ maxLen) (h : Rs w A9 p.n (fun i => .string (p.g i))) (gi : Gi w) :
    Calls Tryd.prog 3 #[.string p.al, .bool p.star, .bool p.exp, .bool p.valid, .bool p.lazy, .int .i32 p.kw, .bool p.ue, .bool p.um, .int .u8 p.kd, .slice A9 p.n c9, .bool p.hs] w fun e w' => e = .returned (.bool true) ∧ Below w.heap.size w w' := by
  have HB := Lib.hid (Below.refl w.heap.size w)
  have R := Lib.hid h
  have G := Lib.hid gi
  have HG := Lib.hid hg
  have HAL := Lib.hid h0
  have H4 := Lib.hid (bytes4 p.al p.star p.exp p.valid p.lazy p.kw p.ue p.um p.kd A9 p.n c9 p.g p.hs w h0 hn hg h)
  clear h0 hn hg h gi
  have heq := fun (W : World) (X : Option Addr) (l cc : Nat) => Lib.run_eql_slice_nil (P := Tryd.prog) W 32 103 X l cc 0 0 Tryd.underlying32
  go_enter Tryd.func3, Tryd.ntmps3
  go_wp2_with fail
  refine H4.out.mono ?_
  rintro e w1 ⟨b, rfl, hb, rfl⟩
  clear H4
  cases b
  case false =>
    go_wp2_with fail
    go_ret
    exact ⟨rfl, HB.out⟩
  case true =>
  obtain ⟨k0, k1, k2⟩ := hb rfl
  have H5 := Lib.hid (fit5 p.al A9 p.n c9 p.g w k0 k1 k2 R.out)
  clear hb k0 k1 k2
  go_wp2_with fail
  refine H5.out.mono ?_
  rintro e w1 ⟨b, rfl, hb, rfl⟩
  clear H5
  cases b
  case false =>
    go_wp2_with fail
    go_ret
    exact ⟨rfl, HB.out⟩
  case true =>
  have HN := Lib.hid (hb rfl).2
  clear hb
  go_wp2_with fail
  refine (bld6 p false A9 c9 w R.out HN.out (fun i _ => HG.out i)).mono ?_
  rintro e w1 ⟨F, I, O, rfl, hlf, hb1⟩
  have LF := Lib.hid hlf
  have B1 := Lib.hid hb1
  clear hlf hb1
  go_wp2_with fail
  refine (link7 F w1).mono ?_
  rintro e w2 ⟨⟨c, rfl, hc10, hclt⟩, hb2⟩
  have B2 := Lib.hid (B1.out.trans (hb2.mono B1.out.size))
  have CL := Lib.hid (⟨LF.out.later hb2, hc10, hclt, G.out.below B2.out G.out.lt⟩ : Cl p false c F I O w2)
  clear hc10 hclt hb2 LF B1
  go_wp2_with fail
  refine (adv8 p false c F I O w2 CL.out HAL.out).mono ?_
  rintro e w3 ⟨a, b, c', d, st, v, rfl, ha, hm, hb3⟩
  have b4 : Below w3.heap.size w3 (w3.alloc (.cells #[.int .u32 c', .int .u32 d] 31)) := (Below.refl _ _).alloc (Nat.le_refl _) _
  have B3 := Lib.hid (B2.out.trans (hb3.mono B2.out.size))
  have re := Row.newArr w3 31 #[.int .u32 c', .int .u32 d]
  have HA := Lib.hid ha
  have HM := Lib.hid (am_below hm b4)
  clear ha hm hb3 B2 CL
  go_upto_region 8 with fail
  obtain ⟨w4, hw4⟩ : ∃ w4, w4 = w3.alloc (.cells #[.int .u32 c', .int .u32 d] 31) := ⟨_, rfl⟩
  rw [← hw4] at re b4 HM ⊢
  have B4 := Lib.hid (B3.out.trans (b4.mono B3.out.size))
  have RE := Lib.hid re
  obtain ⟨X, hX⟩ : ∃ X, X = w3.heap.size := ⟨_, rfl⟩
  rw [← hX] at RE ⊢
  clear hw4 b4 B3 re hX
  go_wp2_with fail
  refine (bld6 p true A9 c9 w4 (R.out.later B4.out) HN.out (fun i _ => HG.out i)).mono ?_
  rintro e w5 ⟨F', I', O', rfl, hlf, hb5⟩
  have LF := Lib.hid hlf
  have HM5 := Lib.hid (am_below HM.out hb5)
  have RE5 := Lib.hid (RE.out.below hb5 RE.out.lt)
  have B5 := Lib.hid (B4.out.trans (hb5.mono B4.out.size))
  clear hlf hb5 HM RE B4
  go_wp2_with fail
  refine (link7 F' w5).mono ?_
  rintro e w6 ⟨⟨k, rfl, hc10, hclt⟩, hb6⟩
  have HM6 := Lib.hid (am_below HM5.out hb6)
  have RE6 := Lib.hid (RE5.out.below hb6 RE5.out.lt)
  have B6 := Lib.hid (B5.out.trans (hb6.mono B5.out.size))
  have CL := Lib.hid (⟨LF.out.later hb6, hc10, hclt, G.out.below B6.out G.out.lt⟩ : Cl p true k F' I' O' w6)
  clear hc10 hclt hb6 LF HM5 RE5 B5
  go_wp2_with fail
  refine (adv8 p true k F' I' O' w6 CL.out HAL.out).mono ?_
  rintro e w7 ⟨a', b', e', d', st', v', rfl, ha, hm, hb7⟩
  have b8 : Below w7.heap.size w7 (w7.alloc (.cells #[.int .u32 e', .int .u32 d'] 31)) := (Below.refl _ _).alloc (Nat.le_refl _) _
  have re' := Row.newArr w7 31 #[.int .u32 e', .int .u32 d']
  have HA' := Lib.hid ha
  have HM8' := Lib.hid (am_below hm b8)
  have HM7 := am_below HM6.out hb7
  have HM8 := Lib.hid (am_below HM7 b8)
  have B7 := B6.out.trans (hb7.mono B6.out.size)
  have B8 := Lib.hid (B7.trans (b8.mono B7.size))
  have RE7 := RE6.out.below hb7 RE6.out.lt
  have RE8 := Lib.hid (RE7.below b8 RE7.lt)
  clear ha hm hb7 b8 HM7 HM6 B7 B6 RE7 RE6 CL
  go_upto_region 11 with fail
  obtain ⟨w8, hw8⟩ : ∃ w8, w8 = w7.alloc (.cells #[.int .u32 e', .int .u32 d'] 31) := ⟨_, rfl⟩
  rw [← hw8] at re' HM8' HM8 B8 RE8 ⊢
  obtain ⟨Y, hY⟩ : ∃ Y, Y = w7.heap.size := ⟨_, rfl⟩
  rw [← hY] at re' ⊢
  have x0 := RE8.out.at_ (i := 0) rfl
  have x1 := RE8.out.at_ (i := 1) rfl
  have y0 := re'.at_ (i := 0) rfl
  have y1 := re'.at_ (i := 1) rfl
  clear hw8 hY re' RE8
  by_cases h7 : p.out false = 7
  · have hA := HA.out
    rw [h7] at hA
    simp only [Pa.ans, Prod.mk.injEq] at hA
    obtain ⟨rfl, rfl, rfl, rfl, rfl⟩ := hA
    by_cases he : p.exp = true
    · have h6 := out_ts h7 he
      have hA := HA'.out
      have hv := HM8'.out
      rw [h6] at hA hv
      simp only [Pa.ans, Prod.mk.injEq] at hA
      obtain ⟨rfl, rfl, rfl, rfl, rfl⟩ := hA
      obtain rfl : v' = .slice none 0 0 := hv
      clear h6 h7 HM8 HM8' HA HA'
      rw [he]
      go_wp2_with (rw [heq])
      go_ret
      exact ⟨rfl, B8.out⟩
    · have he' : p.exp = false := by simpa using he
      have hs := out_same (p := p) (.inr he')
      have hA := HA'.out
      have HS := Lib.hid (amb_same HM8.out (hs ▸ HM8'.out))
      rw [hs, h7] at hA
      simp only [Pa.ans, Prod.mk.injEq] at hA
      obtain ⟨rfl, rfl, rfl, rfl, rfl⟩ := hA
      clear h7 he hs HM8 HM8' HA HA'
      rw [he']
      go_wp2_with fail
      refine HS.out.mono ?_
      rintro e w9 ⟨rfl, hb9⟩
      have HF := Lib.hid (B8.out.trans (hb9.mono B8.out.size))
      clear hb9
      go_wp2_with fail
      go_ret
      exact ⟨rfl, HF.out⟩
  · have hs := out_same (p := p) (.inl h7)
    have h67 := st_of HA.out out_js h7 (out_le p false)
    have hA := HA'.out
    have HS := Lib.hid (amb_same HM8.out (hs ▸ HM8'.out))
    rw [hs, HA.out] at hA
    simp only [Prod.mk.injEq] at hA
    obtain ⟨rfl, rfl, rfl, rfl, rfl⟩ := hA
    have t7 : (st == 7) = false := by simpa using h67.1
    have t0 : (st == 0) = false := by simpa using h67.2
    have ta : (a == a) = true := by simp
    have tb : (b == b) = true := by simp
    have tc : (c' == c') = true := by simp
    have td : (d == d) = true := by simp
    have ts' : (st == st) = true := by simp
    clear h7 hs h67 HM8 HM8' HA HA'
    go_wp2_with fail
    refine HS.out.mono ?_
    rintro e w9 ⟨rfl, hb9⟩
    have HF := Lib.hid (B8.out.trans (hb9.mono B8.out.size))
    clear hb9
    go_wp2_with fail
    go_ret
    exact ⟨rfl, HF.out⟩
theorem law (a0 : ByteArray) (a1 a2 a3 a4 : Bool) (a5 : Int) (a6 a7 : Bool) (a8 : Int) (A9 : Option Addr) (n9 c9 : Nat) (z9 : List ByteArray) (a10 : Bool) (w : World) (w0 : a0.size ≤ maxLen) (w5 : (Lit.int .i32 a5).wf = true) (w8 : (Lit.int .u8 a8).wf = true) (w9 : Args.IsStrs w A9 n9 c9 z9) (gi : Gi w) :
    Calls Tryd.prog 3 #[.string a0, .bool a1, .bool a2, .bool a3, .bool a4, .int .i32 a5, .bool a6, .bool a7, .int .u8 a8, .slice A9 n9 c9, .bool a10] w fun e w' => e = .returned (.bool true) ∧ Below w.heap.size w w' := by
  have r := rs_strs w9
  obtain ⟨h1, h2, h3, h4, _, _⟩ := w9
  refine law0 ⟨a0, a1, a2, a3, a4, a5, a6, a7, a8, fun i => z9.getD i ByteArray.empty, n9, a10⟩ A9 c9 w w0 (Nat.le_trans h1 h2) (fun i => ?_) r gi
  by_cases hi : i < z9.length
  · have e : z9.getD i ByteArray.empty = z9[i] := by simp [List.getD, hi]
    show (z9.getD i ByteArray.empty).size ≤ maxLen
    rw [e]
    exact h4 _ (List.getElem_mem hi)
  · have e : z9.getD i ByteArray.empty = ByteArray.empty := by simp [List.getD, hi]
    show (z9.getD i ByteArray.empty).size ≤ maxLen
    rw [e]
    exact Nat.zero_le _
end Go.Proofs.YtelcjpmaegacoaaDoor.AiL
