/- FnPrintIdentifierUTF16AgreesWithPrintIdentifier: the printers. -/
import Derived.Test.YtdplbdfaeighlabFmtRows
import Derived.Test.YtdplbdfaeighlabFmtMem
import Derived.Test.YtdplbdfaeighlabFmtSl
import Derived.Test.YtdplbdfaeighlabFmtPiG
import Derived.Great.BuildSlice
import Derived.Deep.RegionLaw
import Derived.Deep.RegionHeld3
import Derived.WideMake
import Derived.WalkKit
import Derived.ProofKit
import Derived.OpenShut
import Derived.Below
import Derived.WalkLawsBesides
import Derived.Lib.Hide
import Derived.Outline
import Derived.RegionTactic
import Derived.Deep.QuietTactic
import Derived.BigQuiet
import Derived.WalkSpells
import Derived.Deep.OwnRows
import Derived.IntWalk
import Derived.Deep.DeepMust
namespace Go.Proofs.YtdplbdfaeighlabFmt.PiH
open Go.RowKit Mem Sl
set_option linter.unusedVariables false
open Prn Pru Own Owg Args PiA PiB PiC PiD PiE PiF PiG

set_option maxRecDepth 100000 in
set_option maxHeartbeats 400000 in
theorem print23 (p : Nat) (cs : List Value) (v : Value) (zs : List Int) (s : ByteArray) (w : World) (h : Pr w p 84 9 5 cs v zs) (hb : zs.length + s.size ≤ 1000000000) :
    Calls Tryf.prog 23 #[.pointer (some ⟨p, 0, none⟩), .string s] w fun e w' => e = .returned (.tuple #[]) ∧ Printed w p 84 9 5 cs v (zs ++ nums s) w' := by
  obtain ⟨i0, hi, hz0, hz1, hz2⟩ := info_parts info5
  obtain ⟨A0, c0, rfl⟩ := h.buf.form
  have c1 := h.row.at_ h.at_
  have H := Lib.hid h
  clear h
  go_enter Tryf.func23, Tryf.ntmps23
  go_wp2_with (at_builtin; refine wpList_append_str _ rfl (.tmp 8) (.tmp 9) 27 9 rfl 5 i0 Tryf.underlying27 Tryf.underlying9 hi hz0 hz1 hz2 (.slice A0 zs.length c0) zs rfl H.out.buf s rfl hb ?_; intro A1 n1 cp1 w1 hbuf hgr hat; obtain ⟨k1, k2, k3, k4⟩ := H.out.store (by decide) hbuf (.of_grown hgr hat) hgr; have K1 := Lib.hid k1; have K2 := Lib.hid k2; clear k1 k2 hbuf hgr hat)
  go_end0
  exact ⟨rfl, _, K1.out, K2.out⟩

noncomputable def zo : Array Value := match (Tryf.prog.info? 53).bind (fun i => i.zero) with | some (.agg cs) => cs | _ => #[]
noncomputable def zp : Array Value := match (Tryf.prog.info? 84).bind (fun i => i.zero) with | some (.agg cs) => cs | _ => #[]
/-- The cells of a fresh printer. -/
noncomputable def prn (a : Bool) (m1 m2 : Value) : Array Value := ((((((((((zp.setIfInBounds 31 (.bool a)).setIfInBounds 5 m1).setIfInBounds 6 m2).setIfInBounds 60 (.int .i64 (-1))).setIfInBounds 61 (.int .i64 (-1))).setIfInBounds 62 (.int .i64 (-1))).setIfInBounds 63 (.int .i64 (-1))).setIfInBounds 65 (.int .i64 (-1))).setIfInBounds 66 (.int .i64 (-1))).setIfInBounds 67 (.int .i64 (-1))).setIfInBounds 68 (.int .i64 (-1))
theorem prn9 (a : Bool) (m1 m2 : Value) : (prn a m1 m2).toList[9]? = some (.slice none 0 0) := by kernel_rfl
theorem prn24 (a : Bool) (m1 m2 : Value) : (prn a m1 m2).toList[24]? = some (.int .u64 0) := by kernel_rfl
theorem prn31 (a : Bool) (m1 m2 : Value) : (prn a m1 m2).toList[31]? = some (.bool a) := by kernel_rfl
/-- A fresh printer at p. -/
structure Fresh (a : Bool) (w : World) (p : Nat) (cs : List Value) (w' : World) : Prop where
  pr : Pr w' p 84 9 5 cs (.slice none 0 0) []
  a31 : cs[31]? = some (.bool a)
  a24 : cs[24]? = some (.int .u64 0)
  bel : Below w.heap.size w w'
  le : w.heap.size ≤ p
def New (a : Bool) (w : World) (e : Ending) (w' : World) : Prop := ∃ p cs, e = .returned (.pointer (some ⟨p, 0, none⟩)) ∧ Fresh a w p cs w'
theorem opwp_buildTo {P : Program} {o : Oper} {a : Act} {w : World} {K : Act → World → Prop} {Q : Exit → Act → World → Prop} (t : TypeId) (parts : Array (Nat × Operand)) (ho : o.op = .build t parts) (d : Option Tmp) (hd : o.dst = d)
    (cells : Array Value) (hf : P.built t (parts.map fun (i, x) => (i, a.eval x)).toList = some cells) (h : K (a.put d (.agg cells)) w) : o.wp P a w K Q := by
  subst hd
  refine wp_build t parts ho (by rw [hf]; rfl) ?_
  rw [hf]
  exact h
set_option maxRecDepth 100000 in
set_option maxHeartbeats 8000000 in
theorem new9 (a : Bool) (w : World) : Calls Tryf.prog 9 #[.bool a, .bool false, .bool false, .int .i64 0, .slice none 0 0] w (New a w) := by
  have hmm := @run_makeMap Tryf.prog
  have HN := Lib.hid (show ∀ (M1 M2 : Value) (w2 : World) (s : Nat), w2.heap.size = s → Below w.heap.size w w2 → Fresh a w s (prn a M1 M2).toList (w2.alloc (.cells (prn a M1 M2) 84)) from fun M1 M2 w2 s hs hb => by subst hs; exact ⟨⟨Row.newArr w2 84 _, prn9 a M1 M2, buf_nil _ _⟩, prn31 a M1 M2, prn24 a M1 M2, hb.alloc hb.size _, hb.size⟩)
  have HB := Lib.hid ((((Below.refl w.heap.size w).alloc (Nat.le_refl _) (.map #[] 0)).alloc (by simp) (.map #[] 0)))
  go_enter Tryf.func9, Tryf.ntmps9
  go_wp2_with (first | (refine wpList_buildTo rfl 53 _ rfl (some 14) rfl (zo.setIfInBounds 19 (.bool a)) (by kernel_rfl) ?_) | (refine opwp_buildTo 84 _ rfl (some 19) rfl (prn a (.map (some w.heap.size)) (.map (some (w.heap.size + 1)))) (by kernel_rfl) ?_) | (refine opwp_buildTo 84 _ rfl (some 19) rfl (prn a (.map (some (w.heap.size + 1))) (.map (some w.heap.size))) (by kernel_rfl) ?_) | (refine wpList_buildTo rfl 84 _ rfl (some 19) rfl (prn a (.map (some w.heap.size)) (.map (some (w.heap.size + 1)))) (by kernel_rfl) ?_) | (refine wpList_buildTo rfl 84 _ rfl (some 19) rfl (prn a (.map (some (w.heap.size + 1))) (.map (some w.heap.size))) (by kernel_rfl) ?_))
  all_goals
    go_ret
    exact ⟨_, _, rfl, HN.out _ _ _ _ (by simp) HB.out⟩
theorem js13 (p : Nat) (v : Value) (w : World) (h : w.cell? ⟨p, 9, none⟩ = some v) :
    Calls Tryf.prog 13 #[.pointer (some ⟨p, 0, none⟩)] w fun e w' => e = .returned v ∧ w = w' := by
  go_enter Tryf.func13, Tryf.ntmps13
  go_wp2
  go_ret
  exact ⟨rfl, rfl⟩
/-- What printIdentifier leaves. -/
def Prid (w : World) (B p : Nat) (cs : List Value) (zs : List Int) (e : Ending) (w' : World) : Prop := e = .returned (.tuple #[]) ∧ ∃ v', Pr w' p 84 9 5 (cs.set 9 v') v' zs ∧ Below B w w'
theorem prid_ret {w w' : World} {B p : Nat} {cs : List Value} {zs : List Int} {e : Ending} (h : Prid w B p cs zs e w') : e = .returned (.tuple #[]) := h.1

theorem prid_fin {a : Bool} {C : List Int} {w w2 : World} {B p : Nat} {cs : List Value} {v v2 : Value} {zs Z : List Int} (h : Pr w p 84 9 5 cs v Z) (hp : B ≤ p) (hB : B ≤ w.heap.size) (hb : BufB w2 w.heap.size v2 zs) (hl : Below w.heap.size w w2) :
    Prid w B p cs zs (.returned (.tuple #[])) (w2.setCell ⟨p, 9, none⟩ v2) := by
  have hr := h.row.below hl h.row.lt
  have hlt : 9 < cs.length := (List.getElem?_eq_some_iff.1 h.at_).1
  have hne : v2.ownBlock ≠ some p := fun e => by have := hb.2 p e; have := h.row.lt; omega
  exact ⟨rfl, v2, ⟨hr.set 9 v2, by simp [hlt], hb.1.set_ hne 9 v2⟩, (hl.mono hB).setCell hp _⟩
set_option maxRecDepth 100000 in
set_option maxHeartbeats 4000000 in
theorem prid18f (C : List Int) (B p : Nat) (cs : List Value) (w : World) (hs : ∀ z ∈ C, Scalar z) (hn : C.length ≤ 1048576)
    (h : Pr w p 84 9 5 cs (.slice none 0 0) []) (h31 : cs[31]? = some (.bool false)) (hp : B ≤ p) (hB : B ≤ w.heap.size) :
    Calls Tryf.prog 18 #[.pointer (some ⟨p, 0, none⟩), .string (txt C)] w (Prid w B p cs (outA false C)) := by
  have c31 := h.row.at_ h31
  have HP := Lib.hid (print23 p cs (.slice none 0 0) [] (txt C) w h (by unfold txt; rw [Str.bytesOf_size]; have := bytes8_len C; simp; omega))
  have HB := Lib.hid (show B ≤ p ∧ B ≤ w.heap.size from ⟨hp, hB⟩)
  have HO := Lib.hid (show outA false C = [] ++ nums (txt C) by rw [outA_false, txt_nums C hs]; rfl)
  clear hs h h31
  go_enter Tryf.func18, Tryf.ntmps18
  go_wp2_with fail
  refine HP.out.mono ?_
  rintro e w2 ⟨rfl, v', hpr, hst⟩
  have HQ := Lib.hid (show Prid w B p cs (outA false C) (.returned (.tuple #[])) w2 from ⟨rfl, v', by rw [HO.out]; exact hpr, hst.below HB.out.1 (fun g e => by simp [Value.ownBlock] at e) HB.out.2⟩)
  clear hpr hst
  go_wp2_with fail
  go_end0
  exact HQ.out
set_option maxRecDepth 100000 in
set_option maxHeartbeats 8000000 in
theorem prid18t (C : List Int) (B p : Nat) (cs : List Value) (w : World) (hs : ∀ z ∈ C, Scalar z) (hr : ∀ z ∈ C, 32 ≤ z ∧ z ≤ 65535) (hn : C.length ≤ 1048576)
    (h : Pr w p 84 9 5 cs (.slice none 0 0) []) (h31 : cs[31]? = some (.bool true)) (h24 : cs[24]? = some (.int .u64 0)) (hp : B ≤ p) (hB : B ≤ w.heap.size) :
    Calls Tryf.prog 18 #[.pointer (some ⟨p, 0, none⟩), .string (txt C)] w (Prid w B p cs (outA true C)) := by
  have c31 := h.row.at_ h31
  have c24 := h.row.at_ h24
  have c9a := h.row.at_ h.at_
  have H := Lib.hid h
  have HS := Lib.hid hs
  have HR := Lib.hid hr
  have HBW := Lib.hid (Nat.le_refl w.heap.size)
  have HFIN := Lib.hid (show ∀ (w2 : World) (v2 : Value), BufB w2 w.heap.size v2 (outA true C) → Below w.heap.size w.drew w2 → Prid w B p cs (outA true C) (.returned (.tuple #[])) (w2.setCell ⟨p, 9, none⟩ v2) from fun w2 v2 h1 h2 => prid_fin (a := true) (C := C) h hp hB h1 ⟨h2.os, h2.tape, h2.output, h2.size, h2.block⟩)
  clear hs h h31 hr h24
  go_enter Tryf.func18, Tryf.ntmps18
  go_wp2_with fail
  refine wp_region_held_drew (S := fun _ => True) (by kernel_rfl) trivial (fun hHeld => ?_)
  refine wpAnyH_take (i := 0) (v := .pointer (some ⟨p, 0, none⟩)) rfl (by kernel_rfl) (by kernel_rfl) (by kernel_rfl) (fun _ _ _ h => h) (Or.inl ⟨by rfl, fun W _ => by go_simp⟩) trivial ?_
  simp only [Act.put, List.setIfInBounds_toArray]
  refine wpAnyH_take (i := 1) (v := .pointer (some ⟨p, 0, none⟩)) rfl (by kernel_rfl) (by kernel_rfl) (by kernel_rfl) (fun _ _ _ h => h) (Or.inl ⟨by rfl, fun W _ => by go_simp⟩) trivial ?_
  simp only [Act.put]
  refine wpAnyH_take (i := 2) (v := .pointer (some ⟨p, 0, none⟩)) rfl (by kernel_rfl) (by kernel_rfl) (by kernel_rfl) (fun _ _ _ h => h) (Or.inl ⟨by rfl, fun W _ => by go_simp⟩) trivial ?_
  simp only [Act.put]
  refine wpAnyH_take (i := 3) (v := .pointer (some ⟨p, 9, none⟩)) rfl (by kernel_rfl) (by kernel_rfl) (by kernel_rfl) (fun _ _ _ h => h) (Or.inl ⟨by rfl, fun W _ => by go_simp⟩) trivial ?_
  simp only [Act.put]
  refine wpAnyH_take (i := 5) (v := .string (txt C)) rfl (by kernel_rfl) (by kernel_rfl) (by kernel_rfl) (fun _ _ _ h => h) (Or.inl ⟨by rfl, fun W _ => by go_simp⟩) trivial ?_
  simp only [Act.put]
  refine wpAnyH_take (i := 6) (v := .pointer (some ⟨p, 0, none⟩)) rfl (by kernel_rfl) (by kernel_rfl) (by kernel_rfl) (fun _ _ _ h => h) (Or.inl ⟨by rfl, fun W _ => by go_simp⟩) trivial ?_
  simp only [Act.put]
  refine wpAnyH_take (i := 7) (v := .pointer (some ⟨p, 0, none⟩)) rfl (by kernel_rfl) (by kernel_rfl) (by kernel_rfl) (fun _ _ _ h => h) (Or.inl ⟨by rfl, fun W _ => by go_simp⟩) trivial ?_
  simp only [Act.put]
  refine wpAnyH_take (i := 8) (v := .pointer (some ⟨p, 12, none⟩)) rfl (by kernel_rfl) (by kernel_rfl) (by kernel_rfl) (fun _ _ _ h => h) (Or.inl ⟨by rfl, fun W _ => by go_simp⟩) trivial ?_
  simp only [Act.put]
  refine wpAnyH_take (i := 9) (v := .pointer (some ⟨p, 24, none⟩)) rfl (by kernel_rfl) (by kernel_rfl) (by kernel_rfl) (fun _ _ _ h => h) (Or.inl ⟨by rfl, fun W _ => by go_simp⟩) trivial ?_
  simp only [Act.put]
  refine wpAnyH_ready (rs := [4, 10]) (by kernel_rfl) (by simp) ?_
  refine AllReadyH.cons rfl (fun K hK => ?_) (AllReadyH.cons rfl (fun K hK => ?_) AllReadyH.nil)
  · go_simp
    refine hK.out _ _ trivial (fun _ => ?_)
    clear hK K
    refine wpAnyH_ready (rs := [10]) (by kernel_rfl) (by simp) ?_
    refine AllReadyH.cons rfl (fun K hK => ?_) AllReadyH.nil
    go_simp
    refine hK.out _ _ trivial (fun _ => ?_)
    clear hK K
    refine wpAnyH_ready (rs := [11]) (by kernel_rfl) (by simp) ?_
    refine AllReadyH.cons rfl (fun K hK => ?_) AllReadyH.nil
    go_simp
    refine (quote22 C _ HS.out HR.out hn).mono ?_
    rintro e w2 ⟨v2, rfl, hbf2, hbl2⟩
    obtain ⟨A2, c2, hv2⟩ := hbf2.1.form
    generalize (outA true C).length = n2 at hv2
    subst hv2
    have HBF := Lib.hid hbf2
    have HBL := Lib.hid ((show Below w.heap.size w.drew w2 from hbl2).mono HBW.out)
    have c9 := (H.out.row.below (show Below w.heap.size w w2 from ⟨hbl2.os, hbl2.tape, hbl2.output, hbl2.size, hbl2.block⟩) H.out.row.lt).at_ H.out.at_
    have f9 := (H.out.row.below (show Below w.heap.size w w2 from ⟨hbl2.os, hbl2.tape, hbl2.output, hbl2.size, hbl2.block⟩) H.out.row.lt).frozen 9
    clear hbf2 hbl2
    go_wp2_with fail
    refine hK.out _ _ trivial (fun _ => ?_)
    clear hK K
    try simp only [Act.put]
    refine wpAnyH_take (i := 12) (v := .pointer (some ⟨p, 0, none⟩)) rfl (by kernel_rfl) (by kernel_rfl) (by kernel_rfl) (fun _ _ _ h => h) (Or.inl ⟨by rfl, fun W _ => by go_simp⟩) trivial ?_
    simp only [Act.put]
    refine wpAnyH_take (i := 13) (v := .pointer (some ⟨p, 9, none⟩)) rfl (by kernel_rfl) (by kernel_rfl) (by kernel_rfl) (fun _ _ _ h => h) (Or.inl ⟨by rfl, fun W _ => by go_simp⟩) trivial ?_
    simp only [Act.put]
    refine wpAnyH_ready (rs := [14]) (by kernel_rfl) (by simp) ?_
    refine AllReadyH.cons rfl (fun K hK => ?_) AllReadyH.nil
    go_simp
    refine hK.out _ _ trivial (fun _ => ?_)
    clear hK K
    refine wpAnyH_done (by kernel_rfl) ?_ _
    go_wp2_with fail
    go_end0
    exact HFIN.out _ _ HBF.out HBL.out
  · go_simp
    refine hK.out _ _ trivial (fun _ => ?_)
    clear hK K
    refine wpAnyH_ready (rs := [4]) (by kernel_rfl) (by simp) ?_
    refine AllReadyH.cons rfl (fun K hK => ?_) AllReadyH.nil
    go_simp
    refine hK.out _ _ trivial (fun _ => ?_)
    clear hK K
    refine wpAnyH_ready (rs := [11]) (by kernel_rfl) (by simp) ?_
    refine AllReadyH.cons rfl (fun K hK => ?_) AllReadyH.nil
    go_simp
    refine (quote22 C _ HS.out HR.out hn).mono ?_
    rintro e w2 ⟨v2, rfl, hbf2, hbl2⟩
    obtain ⟨A2, c2, hv2⟩ := hbf2.1.form
    generalize (outA true C).length = n2 at hv2
    subst hv2
    have HBF := Lib.hid hbf2
    have HBL := Lib.hid ((show Below w.heap.size w.drew w2 from hbl2).mono HBW.out)
    have c9 := (H.out.row.below (show Below w.heap.size w w2 from ⟨hbl2.os, hbl2.tape, hbl2.output, hbl2.size, hbl2.block⟩) H.out.row.lt).at_ H.out.at_
    have f9 := (H.out.row.below (show Below w.heap.size w w2 from ⟨hbl2.os, hbl2.tape, hbl2.output, hbl2.size, hbl2.block⟩) H.out.row.lt).frozen 9
    clear hbf2 hbl2
    go_wp2_with fail
    refine hK.out _ _ trivial (fun _ => ?_)
    clear hK K
    try simp only [Act.put]
    refine wpAnyH_take (i := 12) (v := .pointer (some ⟨p, 0, none⟩)) rfl (by kernel_rfl) (by kernel_rfl) (by kernel_rfl) (fun _ _ _ h => h) (Or.inl ⟨by rfl, fun W _ => by go_simp⟩) trivial ?_
    simp only [Act.put]
    refine wpAnyH_take (i := 13) (v := .pointer (some ⟨p, 9, none⟩)) rfl (by kernel_rfl) (by kernel_rfl) (by kernel_rfl) (fun _ _ _ h => h) (Or.inl ⟨by rfl, fun W _ => by go_simp⟩) trivial ?_
    simp only [Act.put]
    refine wpAnyH_ready (rs := [14]) (by kernel_rfl) (by simp) ?_
    refine AllReadyH.cons rfl (fun K hK => ?_) AllReadyH.nil
    go_simp
    refine hK.out _ _ trivial (fun _ => ?_)
    clear hK K
    refine wpAnyH_done (by kernel_rfl) ?_ _
    go_wp2_with fail
    go_end0
    exact HFIN.out _ _ HBF.out HBL.out

theorem prid11 (a : Bool) (C : List Int) (B p : Nat) (cs : List Value) (w : World) (hs : ∀ z ∈ C, Scalar z) (hr : a = true → ∀ z ∈ C, 32 ≤ z ∧ z ≤ 65535) (hn : C.length ≤ 1048576)
    (h : Pr w p 84 9 5 cs (.slice none 0 0) []) (h31 : cs[31]? = some (.bool a)) (h24 : cs[24]? = some (.int .u64 0)) (hp : B ≤ p) (hB : B ≤ w.heap.size) :
    Calls Tryf.prog 11 #[.pointer (some ⟨p, 0, none⟩), .string (txt C)] w (Prid w B p cs (outA a C)) := by
  have H := Lib.hid (show Calls Tryf.prog 18 #[.pointer (some ⟨p, 0, none⟩), .string (txt C)] w (Prid w B p cs (outA a C)) by
    cases a with
    | false => exact prid18f C B p cs w hs hn h h31 hp hB
    | true => exact prid18t C B p cs w hs (hr rfl) hn h h31 h24 hp hB)
  clear hs hr h h31 h24
  go_enter Tryf.func11, Tryf.ntmps11
  go_wp2_with fail
  refine H.out.mono ?_
  intro e w2 hq
  have HQ := Lib.hid hq
  obtain rfl := prid_ret hq
  clear hq
  go_wp2_with fail
  go_end0
  exact HQ.out
theorem piu10 (B p : Nat) (a : Bool) (A : Option Addr) (n c : Nat) (U : List Int) (cs : List Value) (w : World) (h : IsInts .u16 w A n c U) (hA : ∀ b off, A = some ⟨b, off, none⟩ → b < B) (hn : n ≤ 1048576)
    (hw : Wf U) (hno : a = true → NoPair U) (hpr : Pr w p 84 9 5 cs (.slice none 0 0) []) (h31 : cs[31]? = some (.bool a)) (hp : B ≤ p) (hB : B ≤ w.heap.size) :
    Calls Tryf.prog 10 #[.pointer (some ⟨p, 0, none⟩), .slice A n c] w (Prid w B p cs (outA a (cps U))) := by
  have H := Lib.hid (piu17 B p a A n c U cs (.slice none 0 0) [] w h hA hn (by simp) hw hno hpr h31 hp (fun g e => by simp [Value.ownBlock] at e) hB)
  have HB := Lib.hid (show B ≤ p ∧ B ≤ w.heap.size from ⟨hp, hB⟩)
  clear h hA hw hno hpr h31
  go_enter Tryf.func10, Tryf.ntmps10
  go_wp2_with fail
  refine H.out.mono ?_
  rintro e w2 ⟨rfl, v', hpr, hst⟩
  have HQ := Lib.hid (show Prid w B p cs (outA a (cps U)) (.returned (.tuple #[])) w2 from ⟨rfl, v', hpr, hst.below HB.out.1 (fun g e => by simp [Value.ownBlock] at e) HB.out.2⟩)
  clear hpr hst
  go_wp2_with fail
  go_end0
  exact HQ.out
end Go.Proofs.YtdplbdfaeighlabFmt.PiH
