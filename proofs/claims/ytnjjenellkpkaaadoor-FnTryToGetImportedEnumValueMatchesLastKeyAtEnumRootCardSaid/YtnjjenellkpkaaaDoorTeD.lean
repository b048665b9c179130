/- FnTryToGetImportedEnumValueMatchesLastKeyAtEnumRoot: the tables. -/
import Derived.Test.YtnjjenellkpkaaaDoorRows
import Derived.Test.YtnjjenellkpkaaaDoorMem
import Derived.Test.YtnjjenellkpkaaaDoorSl
import Derived.Test.YtnjjenellkpkaaaDoorTeF
import Derived.Test.YtnjjenellkpkaaaDoorMapK
import Derived.Deep.RegionHeld3
import Derived.Great.BuildSlice
import Derived.Deep.RegionLaw
import Derived.Carry
import Derived.WalkKit
import Derived.ProofKit
import Derived.OpenShut
import Derived.Below
import Derived.WalkLawsBesides
import Derived.Lib.Hide
import Derived.Outline
import Derived.RegionTactic
import Derived.Deep.QuietTactic
import Derived.BigQuiet
import Derived.WalkSpells
import Derived.Deep.OwnRows
import Derived.IntWalk
import Derived.Deep.DeepMust
namespace Go.Proofs.YtnjjenellkpkaaaDoor.TeD
open Go.RowKit Mem Sl
set_option linter.unusedVariables false
open Args Argw Fvs TeA TeB TeC TeF MapK Go.Maps
theorem step_mapUpdate_run {P : Program} {ops : Array Oper} {o : Oper} {a : Act} {w : World} {K : Act → World → Prop} {Q : Exit → Act → World → Prop} {E : Prop}
    (hg : o.guard = none) (m x v : Operand) (t : TypeId) (hop : o.op = Op.mapUpdate t m x v) (vm vx vv : Value) (W : World) (hm : a.eval m = vm) (hx : a.eval x = vx) (hv : a.eval v = vv)
    (hrun : (Instr.mapUpdate t vm vx vv).run P w = .ok () W) (hK : K (a.put o.dst undef) W) : if Region.wanted o (yielded ops a.tmps) = true then Oper.wp P o a w K Q else E := by
  have hw : Region.wanted o (yielded ops a.tmps) = true := by simp [Region.wanted, hg]
  rw [if_pos hw]
  unfold Oper.wp
  simp [execOp, hop, hm, hx, hv, hrun, Result.andThen]
  exact hK

theorem take_to {P : Program} {md : Region.Mode} {ops : Array Oper} {Q : Exit → Act → World → Prop} {S : World → Prop} {i : Nat} {oi : Oper} {d : Option Tmp} {v : Value} {fuel : Nat} {listed : Array Bool} {a : Act} {w : World} (hi : ops[i]? = some oi) (hd : oi.dst = d)
    (hs : Region.noSelect ops = true) (hf : Region.free md ops listed i = true) (hr : (Region.ready md ops listed).contains i = true)
    (hQ : ∀ c a w, Q (.panic c) (a.put d v) w → Q (.panic c) a w) (hy : YieldsIf P ops S oi v a) (hS : S w)
    (h : wpAnyH P md ops Q S fuel (listed.setIfInBounds i true) (a.put d v) w) : wpAnyH P md ops Q S (fuel + 1) listed a w := by
  subst hd
  exact wpAnyH_take hi hs hf hr hQ hy hS h
theorem keyed50 : Keyed Tryd.prog 50 := Keyed.of_law (deep_law_laid (by kernel_rfl) (m := 5) (by decide) (by decide +kernel) (by kernel_rfl) (by kernel_rfl))
theorem keyed9 : Keyed Tryd.prog 9 := string_keyed Tryd.underlying9
theorem key_str (x : ByteArray) (h : x.size ≤ maxLen) : KeyV Tryd.prog 9 (.string x) := by
  unfold KeyV keyOf
  simp [Tryd.underlying9, mapKey]
  exact h
theorem key_ref (x : Int) (hx : 0 ≤ x ∧ x ≤ 4294967295) : KeyV Tryd.prog 50 (.agg #[.int .u32 0, .int .u32 x]) := by
  have hw : (Lit.int .u32 x).wf = true := WalkArith.wf_u32 (by omega)
  have hw0 : (Lit.int .u32 0).wf = true := by decide
  have k1 : Tryd.prog.keyType 50 = true := by kernel_rfl
  have k2 : (Value.agg #[.int .u32 0, .int .u32 x]).formed Tryd.prog 50 = true := by kernel_rfl
  have k3 : Tryd.prog.cellsOf 50 = 2 := by kernel_rfl
  have k4 : Tryd.prog.cellsOf 27 = 1 := by kernel_rfl
  have k5 : 1 ≤ Tryd.prog.types.size := Nat.le_of_ble_eq_true (by kernel_rfl)
  obtain ⟨m, hm⟩ : ∃ m, Tryd.prog.types.size + 1 = m + 1 + 1 := ⟨Tryd.prog.types.size - 1, by omega⟩
  unfold KeyV keyOf
  rw [k1, k2, hm]
  simp [Tryd.underlying50, Program.keyLits, Tryd.underlying27, k3, k4, Value.cells, hw, hw0]
theorem zero46 (w : World) : (zeroValue 46).run Tryd.prog w = .ok (.agg #[.slice none 0 0, .float .f64 0]) w := by kernel_rfl
theorem zero67 (w : World) : (zeroValue 67).run Tryd.prog w = .ok (.map none) w := by kernel_rfl
/-- The table after n keys. -/
noncomputable def tabF (g : Nat → ByteArray) (V : Nat → Value) : Nat → Value → Option Value
  | 0 => fun _ => none
  | k + 1 => put (tabF g V k) (.string (g k)) (V k)
theorem tabF_at (g : Nat → ByteArray) (V : Nat → Value) (x : ByteArray) : ∀ n, tabF g V n (.string x) = if lastK g x n < 0 then none else some (V (lastK g x n).toNat)
  | 0 => by unfold tabF lastK; rfl
  | n + 1 => by
    have ih := tabF_at g V x n
    unfold tabF lastK
    by_cases e : g n = x
    · subst e
      rw [put_self, if_pos rfl, if_neg (by omega)]
      simp
    · rw [put_other _ _ (fun h => e (by injection h with h; exact h.symm)), ih, if_neg e]
theorem lastK_lt (g : Nat → ByteArray) (x : ByteArray) : ∀ n, lastK g x n < n
  | 0 => by unfold lastK; decide
  | n + 1 => by
    have := lastK_lt g x n
    unfold lastK
    split <;> omega
def Eb (w : World) (ta : Int) (g : Nat → ByteArray) (V : Nat → Value) (n : Nat) (e : Ending) (w' : World) : Prop := ∃ mb cnt fo, e = .returned (.map (some mb)) ∧ MapF Tryd.prog w' mb 50 cnt fo ∧ Below w.heap.size w w' ∧
  ((ta < 0 ∧ fo = fun _ => none) ∨ (0 ≤ ta ∧ ∃ tb c2, fo = put (fun _ => none) (.agg #[.int .u32 0, .int .u32 ta]) (.map (some tb)) ∧ MapF Tryd.prog w' tb 9 c2 (tabF g V n)))

set_option maxRecDepth 100000 in
set_option maxHeartbeats 1000000 in
theorem enums14 (ta : Int) (A3 A4 A5 : Option Addr) (n c3 c4 c5 : Nat) (g : Nat → ByteArray) (fl : Nat → Nat) (Ar : Nat → Option Addr) (L C : Nat → Nat) (w : World) (h3 : Rs w A3 n (fun i => .string (g i))) (h4 : Rs w A4 n (fun i => .float .f64 (fl i))) (h5 : Rs w A5 n (fun i => .slice (Ar i) (L i) (C i))) (hn : n ≤ 65536) (ht : -2147483648 ≤ ta ∧ ta ≤ 2147483647) (hg : ∀ i, i < n → (g i).size ≤ maxLen) :
    Calls Tryd.prog 14 #[.int .i32 ta, .slice A3 n c3, .slice A4 n c4, .slice A5 n c5] w (Eb w ta g (fun i => .agg #[.slice (Ar i) (L i) (C i), .float .f64 (fl i)]) n) := by
  have H3 := Lib.hid h3
  have H4 := Lib.hid h4
  have H5 := Lib.hid h5
  have HG := Lib.hid hg
  have hm1 := @run_makeMap Tryd.prog 41 w
  have hm2 := @run_makeMap Tryd.prog 67 (w.alloc (.map #[] 0))
  clear h3 h4 h5 hg
  by_cases hneg : ta < 0
  · have t1 : decide ((0 : Int) ≤ ta) = false := by simp; omega
    have HB := Lib.hid ((Below.refl w.heap.size w).alloc (Nat.le_refl _) (.map #[] 0))
    have HM := Lib.hid (mapF_made (P := Tryd.prog) w 50)
    have HN := Lib.hid hneg
    clear hneg
    go_enter Tryd.func14, Tryd.ntmps14
    go_wp2_with fail
    go_ret
    exact ⟨w.heap.size, 0, _, rfl, HM.out, HB.out, .inl ⟨HN.out, rfl⟩⟩
  · have t1 : decide ((0 : Int) ≤ ta) = true := by simp; omega
    have wt : IntKind.u32.wrap ta = ta := IntWalk.u32_in _ (by omega)
    have HT := Lib.hid (show 0 ≤ ta from by omega)
    have HM1 := Lib.hid ((mapF_made (P := Tryd.prog) w 50).alloc (.map #[] 0))
    have hm2' := mapF_made (P := Tryd.prog) (w.alloc (.map #[] 0)) 9
    rw [show (w.alloc (.map #[] 0)).heap.size = w.heap.size + 1 by simp] at hm2'
    have HM2 := Lib.hid hm2'
    have HB0 := Lib.hid (((Below.refl w.heap.size w).alloc (Nat.le_refl _) (.map #[] 0)).alloc (by simp) (.map #[] 0))
    clear hneg hm2'
    go_enter Tryd.func14, Tryd.ntmps14
    go_wp2_with fail
    go_loopw [11] (fun i wr => ∃ (k c2 : Nat), k ≤ n ∧ i = .int .i64 k ∧ MapF Tryd.prog wr w.heap.size 50 0 (fun _ => none) ∧ MapF Tryd.prog wr (w.heap.size + 1) 9 c2 (tabF g (fun i => .agg #[.slice (Ar i) (L i) (C i), .float .f64 (fl i)]) k) ∧ Below w.heap.size w wr) (fun i _ => n - (intOf i).toNat)
    case atStart => exact ⟨0, 0, Nat.zero_le _, rfl, HM1.out, HM2.out, HB0.out⟩
    case round =>
      clear HM1 HM2 HB0 hm1 hm2
      obtain ⟨k, c2, hk, rfl, hmo, hmi, hbel⟩ := hrel
      by_cases hlt : k < n
      · obtain ⟨b3, o3, ha3, hb3, hc3⟩ := H3.out k hlt
        obtain ⟨b4, o4, ha4, hb4, hc4⟩ := H4.out k hlt
        obtain ⟨b5, o5, ha5, hb5, hc5⟩ := H5.out k hlt
        subst ha3 ha4 ha5
        obtain ⟨u, hu⟩ : ∃ x, x = g k := ⟨_, rfl⟩
        obtain ⟨f, hf⟩ : ∃ x, x = fl k := ⟨_, rfl⟩
        obtain ⟨A, hA⟩ : ∃ x, x = Ar k := ⟨_, rfl⟩
        obtain ⟨L0, hL⟩ : ∃ x, x = L k := ⟨_, rfl⟩
        obtain ⟨C0, hC⟩ : ∃ x, x = C k := ⟨_, rfl⟩
        have d3 := cell_later hbel hc3
        have d4 := cell_later hbel hc4
        have d5 := cell_later hbel hc5
        simp only [← hu] at d3
        simp only [← hf] at d4
        simp only [← hA, ← hL, ← hC] at d5
        have hus : u.size ≤ maxLen := by rw [hu]; exact HG.out k hlt
        obtain ⟨w7, hrun, hm7, hgr7, hsz7⟩ := MapF.update hmi.drew Tryd.underlying67 keyed9 (key_str u hus) (.agg #[.slice A L0 C0, .float .f64 f])
        have hgr7' : wr.grownBy w7 (some (w.heap.size + 1)) := ⟨hgr7.os, hgr7.tape, hgr7.output, hgr7.size, hgr7.block⟩
        have hbel7 : Below w.heap.size wr w7 := ⟨hgr7'.os, hgr7'.tape, hgr7'.output, hgr7'.size, fun j hj => hgr7'.block j (Nat.lt_of_lt_of_le hj hbel.size) (fun e => by injection e with e; omega)⟩
        have HM7 := Lib.hid (show MapF Tryd.prog w7 (w.heap.size + 1) 9 _ (tabF g (fun i => .agg #[.slice (Ar i) (L i) (C i), .float .f64 (fl i)]) (k + 1)) from by
          have h9 := hm7
          rw [hu, hf, hA, hL, hC] at h9
          exact h9)
        have HMO := Lib.hid (hmo.kept hgr7' (fun e => by injection e with e; omega))
        have HB7 := Lib.hid (hbel.trans hbel7)
        have HS7 := Lib.hid (show w7.cell? ⟨b3, o3 + k, none⟩ = some (.string u) ∧ w7.cell? ⟨b5, o5 + k, none⟩ = some (.slice A L0 C0) ∧ w7.cell? ⟨b4, o4 + k, none⟩ = some (.float .f64 f) from ⟨(hbel7.cell (p := ⟨b3, o3 + k, none⟩) hb3).trans d3, (hbel7.cell (p := ⟨b5, o5 + k, none⟩) hb5).trans d5, (hbel7.cell (p := ⟨b4, o4 + k, none⟩) hb4).trans d4⟩)
        have HRUN := Lib.hid hrun
        have i1 : (k : Int) < (n : Int) := by omega
        have i0 : (0 : Int) ≤ (k : Int) := by omega
        clear hmo hmi hbel hb3 hb4 hb5 hc3 hc4 hc5 hrun hm7 hgr7 hgr7' hbel7 hsz7 hu hf hA hL hC hus
        go_wp2_with fail
        refine wp_region_held_drew (S := (fun W => W.cell? ⟨b3, o3 + k, none⟩ = some (.string u) ∧ W.cell? ⟨b5, o5 + k, none⟩ = some (.slice A L0 C0) ∧ W.cell? ⟨b4, o4 + k, none⟩ = some (.float .f64 f))) (by kernel_rfl) ⟨d3, d5, d4⟩ (fun hHeld => ?_)
        refine take_to (i := 0) (d := some 22) (v := .map (some (w.heap.size + 1))) rfl rfl (by kernel_rfl) (by kernel_rfl) (by kernel_rfl) (fun _ _ _ h => h) (Or.inl ⟨by rfl, fun W _ => by go_simp⟩) ⟨d3, d5, d4⟩ ?_
        simp only [Act.put, List.setIfInBounds_toArray, List.set_cons_zero, List.set_cons_succ]
        refine take_to (i := 1) (d := some 23) (v := .slice (some ⟨b3, o3, none⟩) n c3) rfl rfl (by kernel_rfl) (by kernel_rfl) (by kernel_rfl) (fun _ _ _ h => h) (Or.inl ⟨by rfl, fun W _ => by go_simp⟩) ⟨d3, d5, d4⟩ ?_
        simp only [Act.put, List.setIfInBounds_toArray, List.set_cons_zero, List.set_cons_succ]
        refine take_to (i := 2) (d := some 24) (v := .int .i64 (k : Int)) rfl rfl (by kernel_rfl) (by kernel_rfl) (by kernel_rfl) (fun _ _ _ h => h) (Or.inl ⟨by rfl, fun W _ => by go_simp⟩) ⟨d3, d5, d4⟩ ?_
        simp only [Act.put, List.setIfInBounds_toArray, List.set_cons_zero, List.set_cons_succ]
        refine take_to (i := 3) (d := some 25) (v := .pointer (some ⟨b3, o3 + k, none⟩)) rfl rfl (by kernel_rfl) (by kernel_rfl) (by kernel_rfl) (fun _ _ _ h => h) (Or.inl ⟨by rfl, fun W _ => by go_simp⟩) ⟨d3, d5, d4⟩ ?_
        simp only [Act.put, List.setIfInBounds_toArray, List.set_cons_zero, List.set_cons_succ]
        refine take_to (i := 4) (d := some 26) (v := .string u) rfl rfl (by kernel_rfl) (by kernel_rfl) (by kernel_rfl) (fun _ _ _ h => h) (Or.inl ⟨by rfl, fun W hS => by obtain ⟨hS1, hS2, hS3⟩ := hS; go_simp⟩) ⟨d3, d5, d4⟩ ?_
        simp only [Act.put, List.setIfInBounds_toArray, List.set_cons_zero, List.set_cons_succ]
        refine take_to (i := 5) (d := some 27) (v := .slice (some ⟨b5, o5, none⟩) n c5) rfl rfl (by kernel_rfl) (by kernel_rfl) (by kernel_rfl) (fun _ _ _ h => h) (Or.inl ⟨by rfl, fun W _ => by go_simp⟩) ⟨d3, d5, d4⟩ ?_
        simp only [Act.put, List.setIfInBounds_toArray, List.set_cons_zero, List.set_cons_succ]
        refine take_to (i := 6) (d := some 28) (v := .int .i64 (k : Int)) rfl rfl (by kernel_rfl) (by kernel_rfl) (by kernel_rfl) (fun _ _ _ h => h) (Or.inl ⟨by rfl, fun W _ => by go_simp⟩) ⟨d3, d5, d4⟩ ?_
        simp only [Act.put, List.setIfInBounds_toArray, List.set_cons_zero, List.set_cons_succ]
        refine take_to (i := 7) (d := some 29) (v := .pointer (some ⟨b5, o5 + k, none⟩)) rfl rfl (by kernel_rfl) (by kernel_rfl) (by kernel_rfl) (fun _ _ _ h => h) (Or.inl ⟨by rfl, fun W _ => by go_simp⟩) ⟨d3, d5, d4⟩ ?_
        simp only [Act.put, List.setIfInBounds_toArray, List.set_cons_zero, List.set_cons_succ]
        refine take_to (i := 8) (d := some 30) (v := .slice A L0 C0) rfl rfl (by kernel_rfl) (by kernel_rfl) (by kernel_rfl) (fun _ _ _ h => h) (Or.inl ⟨by rfl, fun W hS => by obtain ⟨hS1, hS2, hS3⟩ := hS; go_simp⟩) ⟨d3, d5, d4⟩ ?_
        simp only [Act.put, List.setIfInBounds_toArray, List.set_cons_zero, List.set_cons_succ]
        refine take_to (i := 9) (d := some 31) (v := .slice (some ⟨b4, o4, none⟩) n c4) rfl rfl (by kernel_rfl) (by kernel_rfl) (by kernel_rfl) (fun _ _ _ h => h) (Or.inl ⟨by rfl, fun W _ => by go_simp⟩) ⟨d3, d5, d4⟩ ?_
        simp only [Act.put, List.setIfInBounds_toArray, List.set_cons_zero, List.set_cons_succ]
        refine take_to (i := 10) (d := some 32) (v := .int .i64 (k : Int)) rfl rfl (by kernel_rfl) (by kernel_rfl) (by kernel_rfl) (fun _ _ _ h => h) (Or.inl ⟨by rfl, fun W _ => by go_simp⟩) ⟨d3, d5, d4⟩ ?_
        simp only [Act.put, List.setIfInBounds_toArray, List.set_cons_zero, List.set_cons_succ]
        refine take_to (i := 11) (d := some 33) (v := .pointer (some ⟨b4, o4 + k, none⟩)) rfl rfl (by kernel_rfl) (by kernel_rfl) (by kernel_rfl) (fun _ _ _ h => h) (Or.inl ⟨by rfl, fun W _ => by go_simp⟩) ⟨d3, d5, d4⟩ ?_
        simp only [Act.put, List.setIfInBounds_toArray, List.set_cons_zero, List.set_cons_succ]
        refine take_to (i := 12) (d := some 34) (v := .float .f64 f) rfl rfl (by kernel_rfl) (by kernel_rfl) (by kernel_rfl) (fun _ _ _ h => h) (Or.inl ⟨by rfl, fun W hS => by obtain ⟨hS1, hS2, hS3⟩ := hS; go_simp⟩) ⟨d3, d5, d4⟩ ?_
        simp only [Act.put, List.setIfInBounds_toArray, List.set_cons_zero, List.set_cons_succ]
        refine take_to (i := 13) (d := some 35) (v := .agg #[.slice A L0 C0, .float .f64 f]) rfl rfl (by kernel_rfl) (by kernel_rfl) (by kernel_rfl) (fun _ _ _ h => h) (Or.inl ⟨by rfl, fun W _ => by go_simp⟩) ⟨d3, d5, d4⟩ ?_
        simp only [Act.put, List.setIfInBounds_toArray, List.set_cons_zero, List.set_cons_succ]
        refine wpAnyH_ready (rs := [14]) (by kernel_rfl) (by simp) ?_
        refine AllReadyH.cons rfl (fun K hK => ?_) AllReadyH.nil
        refine step_mapUpdate_run rfl _ _ _ 67 rfl _ _ _ w7 (by kernel_rfl) (by kernel_rfl) (by kernel_rfl) HRUN.out ?_
        refine hK.out _ _ HS7.out (fun _ => ?_)
        clear hK K
        try simp only [Act.put]
        refine wpAnyH_done (by kernel_rfl) ?_ _
        go_wp2_with fail
        go_roundw
        case rel => exact ⟨k + 1, _, by omega, by go_num, HMO.out, HM7.out, HB7.out⟩
        case measure => simp [intOf]; omega
      · obtain rfl : k = n := by omega
        have HMO := Lib.hid hmo
        have HMI := Lib.hid hmi
        have HBE := Lib.hid hbel
        have h16 := ref16 ta wr
        have H16 := Lib.hid h16
        clear hmo hmi hbel h16
        go_wp2_with fail
        refine H16.out.mono ?_
        rintro e w2 ⟨rfl, hb2⟩
        have hmo2 := HMO.out.below hb2 HMO.out.lt
        obtain ⟨w7, hrun, hm7, hgr7, hsz7⟩ := MapF.update hmo2 Tryd.underlying41 keyed50 (key_ref ta ⟨HT.out, Int.le_trans ht.2 (by decide)⟩) (.map (some (w.heap.size + 1)))
        have hbel7 : Below w.heap.size w2 w7 := ⟨hgr7.os, hgr7.tape, hgr7.output, hgr7.size, fun j hj => hgr7.block j (Nat.lt_of_lt_of_le hj (Nat.le_trans HBE.out.size hb2.size)) (fun e => by injection e with e; omega)⟩
        have HFIN := Lib.hid (show Eb w ta g (fun i => .agg #[.slice (Ar i) (L i) (C i), .float .f64 (fl i)]) k (.returned (.map (some w.heap.size))) w7 from ⟨w.heap.size, _, _, rfl, hm7, (HBE.out.trans (hb2.mono HBE.out.size)).trans hbel7, .inr ⟨HT.out, w.heap.size + 1, _, rfl, (HMI.out.below hb2 HMI.out.lt).kept hgr7 (fun e => by injection e with e; omega)⟩⟩)
        clear hmo2 hm7 hgr7 hsz7 hbel7 hb2 HMO HMI
        go_wp2_with fail
        go_ret
        exact HFIN.out
end Go.Proofs.YtnjjenellkpkaaaDoor.TeD
