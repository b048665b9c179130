/- FnTryToGetImportedEnumValueMatchesLastKeyAtEnumRoot: for all symbols, links, tables and names the imported enum value is the one stored last under the name at the root of the alias chain. -/
import Derived.Test.YtnjjenellkpkaaaDoorRows
import Derived.Test.YtnjjenellkpkaaaDoorMem
import Derived.Test.YtnjjenellkpkaaaDoorSl
import Derived.Test.YtnjjenellkpkaaaDoorTeH
import Derived.Test.YtnjjenellkpkaaaDoorVars
import Derived.Deep.RegionHeld3
import Derived.Great.BuildSlice
import Derived.Deep.RegionLaw
import Derived.Carry
import Derived.ChangeSame
import Derived.WalkKit
import Derived.ProofKit
import Derived.OpenShut
import Derived.Below
import Derived.WalkLawsBesides
import Derived.Lib.Hide
import Derived.Outline
import Derived.RegionTactic
import Derived.Deep.QuietTactic
import Derived.BigQuiet
import Derived.WalkSpells
import Derived.Deep.OwnRows
import Derived.IntWalk
import Derived.Deep.DeepMust
namespace Go.Proofs.YtnjjenellkpkaaaDoor.TeL
open Go.RowKit Mem Sl
set_option linter.unusedVariables false
open Args Argw Fvs TeA TeB TeC TeF TeD TeG TeH MapK Go.Maps Go.ChangeShapes Go.WideShapes Go.ChangeAt

theorem gInv : Tryd.prog.globalNamed "github.com/evanw/esbuild/internal/ast.InvalidRef" = some 0 := by kernel_rfl
theorem tInv : (Tryd.prog.globals[0]?).map (·.type) = some 50 := by kernel_rfl
theorem trod_u32 {w : World} {base : Nat} {spare : Nat → Bool} {held : Bool} {fuel : Nat} {cs : List Value} {x : Int} {q : List MemPlace} (h : DataW.trod (fun _ => ()) Tryd.prog w base spare held fuel 27 cs = some (.lit (.int .u32 x), q)) : cs = [.int .u32 x] := by
  obtain ⟨n, h1, h2, _⟩ := DataW.trod_int Tryd.underlying27 h
  simp only [Prod.mk.injEq, DataW.lit.injEq, Lit.int.injEq, true_and] at h2
  rw [h1, h2.1]
theorem of_laid {w : World} (hL : laidMetH Tryd.prog Rows.fnTryToGetImportedEnumValueMatchesLastKeyAtEnumRootRow.laid w) : Gi w := by
  change laidMetH Tryd.prog [("github.com/evanw/esbuild/internal/ast.InvalidRef", Rows.laid_github_com_evanw_esbuild_internal_ast_InvalidRef)] w at hL
  rw [MakeChecks.laidMetH_plain _ _ _ (by kernel_rfl)] at hL
  obtain ⟨ps, ⟨g, t, cs, fuel, p, q, hg, ht, hvar, hd, _, _⟩, _, _⟩ := hL
  obtain rfl := Option.some.inj (gInv.symm.trans hg)
  obtain rfl := Option.some.inj (tInv.symm.trans ht)
  have hlt := Vars.var_lt hg hvar
  obtain ⟨y0, y1, n, hx, hl, h0, h1⟩ := trod_struct2 Tryd.underlying50 hd
  have k2 : Tryd.prog.cellsOf 50 = 2 := by kernel_rfl
  have k1 : Tryd.prog.cellsOf 27 = 1 := by kernel_rfl
  obtain ⟨l⟩ := cs
  rw [k2] at hl
  simp only [k1] at h0 h1
  obtain ⟨a, b, rfl⟩ : ∃ a b, l = [a, b] := by
    match l, hl with
    | [a, b], _ => exact ⟨a, b, rfl⟩
  obtain ⟨y0a, y0b⟩ := y0
  obtain ⟨y1a, y1b⟩ := y1
  simp only [Rows.laid_github_com_evanw_esbuild_internal_ast_InvalidRef, Prod.mk.injEq, DataW.agg.injEq, List.cons.injEq, and_true] at hx
  obtain ⟨⟨rfl, rfl⟩, _⟩ := hx
  have e0 := trod_u32 h0
  have e1 := trod_u32 h1
  simp at e0 e1
  subst e0 e1
  exact ⟨by simpa using World.var?_cell gInv hvar 0, by simpa using World.var?_cell gInv hvar 1, hlt⟩
def Io2 (w : World) (e : Ending) (w' : World) : Prop := ∃ x, e = .returned (.int .i64 x) ∧ w = w'
theorem i32b {z : List Int} (h : ∀ x ∈ z, (Lit.int .i32 x).wf = true) (i : Nat) : -2147483648 ≤ z.getD i 0 ∧ z.getD i 0 ≤ 2147483647 := by
  by_cases hi : i < z.length
  · have := h _ (List.getElem_mem hi)
    have e : z.getD i 0 = z[i] := by simp [List.getD, hi]
    rw [e]
    generalize z[i] = y at *
    have hm := this
    simp [Lit.wf, IntKind.min, IntKind.max, IntKind.bits, IntKind.signed] at hm
    omega
  · have e : z.getD i 0 = 0 := by simp [List.getD, hi]
    omega
theorem strb {z : List ByteArray} (h : ∀ x ∈ z, x.size ≤ maxLen) (i : Nat) (hi : i < z.length) : (z.getD i ByteArray.empty).size ≤ maxLen := by
  have e : z.getD i ByteArray.empty = z[i] := by simp [List.getD, hi]
  rw [e]
  exact h _ (List.getElem_mem hi)
theorem fg_below {w0 w w' : World} {g : Nat} (h0 : Below w0.heap.size w0 w) (h : Fg g w w') (hg : w0.heap.size ≤ g) : Below w0.heap.size w0 w' :=
  ⟨h.os.trans h0.os, h.tape.trans h0.tape, h.output.trans h0.output, Nat.le_trans h0.size h.size, fun k hk => (h.block k (Nat.lt_of_lt_of_le hk h0.size) (by omega)).trans (h0.block k hk)⟩
theorem below_setRow' {w0 w : World} (h0 : Below w0.heap.size w0 w) {k : Nat} (hk : w0.heap.size ≤ k) (cs : Array Value) : Below w0.heap.size w0 (w.setRow k cs) :=
  h0.trans ⟨rfl, rfl, rfl, by simp [World.setRow], fun j hj => setRow_other _ _ _ _ (by omega)⟩
theorem map_ne_sy {w : World} {mb g n c : Nat} {t : TypeId} {X Y K : Nat → Int} {f : Value → Option Value} (hm : MapF Tryd.prog w mb t c f) (hs : Sy w g n X Y K) (hn : 0 < n) : mb ≠ g := by
  obtain ⟨es, k, h1, _⟩ := hm
  rintro rfl
  have := hs.cx 0 hn
  simp [World.cell?, h1] at this
theorem ch_of_root {n : Nat} {l : Nat → Int} (hl : Lok n l) : ∀ s i, i < n → 0 ≤ rootF l s i → n ≤ 65536 → ∃ d, Ch (lx l) (ly l) n (rootF l s i).toNat d i
  | 0, i, _, h, _ => by unfold rootF at h; omega
  | s + 1, i, hi, h, hn => by
    unfold rootF at h ⊢
    by_cases e : l i = -1
    · rw [if_pos e]
      exact ⟨0, hi, by unfold lx; rw [if_pos e], by unfold ly; rw [if_pos e], by simp⟩
    · rw [if_neg e] at h ⊢
      rcases hl i hi with h1 | h1
      · exact absurd h1 e
      · obtain ⟨d, hd⟩ := ch_of_root hl s (l i).toNat (by omega) h hn
        have hw : IntKind.u32.wrap (l i) = l i := IntWalk.u32_in _ (by omega)
        exact ⟨d + 1, hi, by unfold lx; rw [if_neg e], (l i).toNat, by unfold ly; rw [if_neg e, hw]; omega, hd⟩
/-- What the entry answers, and what is wanted of it. -/
theorem ans_ex {w : World} {gg mb n m cnt r0 : Nat} {ta : Int} {l K : Nat → Int} {g : Nat → ByteArray} {x : ByteArray} {Y : Nat → Option Addr} {L C fl : Nat → Nat} {fo : Value → Option Value} {X' Y' : Nat → Int}
    (hmo : MapF Tryd.prog w mb 50 cnt fo) (hsy : Sy w gg n X' Y' (lk K n)) (hrt : 0 ≤ rootF l (n + 1) r0) (hrn : (rootF l (n + 1) r0).toNat < n)
    (hcase : (ta < 0 ∧ fo = fun _ => none) ∨ (0 ≤ ta ∧ ∃ tb c2, fo = put (fun _ => none) (.agg #[.int .u32 0, .int .u32 ta]) (.map (some tb)) ∧ MapF Tryd.prog w tb 9 c2 (tabF g (fun i => .agg #[.slice (Y i) (L i) (C i), .float .f64 (fl i)]) m))) :
    ∃ A L0 C0 f b, Ans w gg mb (lk K n) (rootF l (n + 1) r0).toNat x (.agg #[.slice A L0 C0, .float .f64 f]) b ∧
      ((want l K n ta g m true r0 x < 0 ∧ b = false ∧ A = none ∧ L0 = 0 ∧ C0 = 0 ∧ f = 0) ∨ (0 ≤ want l K n ta g m true r0 x ∧ b = true ∧ want l K n ta g m true r0 x < m ∧ A = Y (want l K n ta g m true r0 x).toNat ∧ L0 = L (want l K n ta g m true r0 x).toNat ∧ C0 = C (want l K n ta g m true r0 x).toNat ∧ f = fl (want l K n ta g m true r0 x).toNat)) := by
  obtain ⟨rt, hrt'⟩ : ∃ rt : Nat, rootF l (n + 1) r0 = (rt : Int) := ⟨(rootF l (n + 1) r0).toNat, by omega⟩
  have hq : qual l K n ta r0 = (K rt == 19 && ta == (rt : Int)) := by unfold qual; rw [hrt']; simp
  rw [hrt'] at hrn
  simp only [Int.toNat_natCast] at hrn
  rw [hrt']
  simp only [Int.toNat_natCast]
  have hlk : lk K n rt = K rt := by unfold lk; rw [if_pos hrn]
  have hmg := map_ne_sy hmo hsy (by omega)
  have hneg : (qual l K n ta r0 = false) → want l K n ta g m true r0 x = -1 := fun h => by unfold want; rw [h]; rfl
  by_cases hk : K rt = 19
  · rcases hcase with ⟨ht, hfo⟩ | ⟨ht, tb, c2, hfo, hmt⟩
    · have hw := hneg (by rw [hq]; simp; intro _; omega)
      refine ⟨none, 0, 0, 0, false, .inl ⟨rfl, rfl, .inr ⟨cnt, fo, hmo, hmg, by rw [hfo]⟩⟩, .inl ⟨by rw [hw]; decide, rfl, rfl, rfl, rfl, rfl⟩⟩
    · by_cases he : ta = (rt : Int)
      · have hw : want l K n ta g m true r0 x = lastK g x m := by unfold want; rw [hq, hk, he]; simp
        have hf : fo (.agg #[.int .u32 0, .int .u32 (rt : Int)]) = some (.map (some tb)) := by rw [hfo, he, put_self]
        have htg := map_ne_sy hmt hsy (by omega)
        have hft := tabF_at g (fun i => .agg #[.slice (Y i) (L i) (C i), .float .f64 (fl i)]) x m
        by_cases hl : lastK g x m < 0
        · rw [if_pos hl] at hft
          exact ⟨none, 0, 0, 0, false, .inr ⟨by rw [hlk, hk], cnt, fo, tb, c2, _, hmo, hmg, htg, hf, hmt, .inl ⟨rfl, rfl, hft⟩⟩, .inl ⟨by rw [hw]; exact hl, rfl, rfl, rfl, rfl, rfl⟩⟩
        · rw [if_neg hl] at hft
          exact ⟨_, _, _, _, true, .inr ⟨by rw [hlk, hk], cnt, fo, tb, c2, _, hmo, hmg, htg, hf, hmt, .inr ⟨_, _, _, _, rfl, rfl, hft⟩⟩, .inr ⟨by rw [hw]; omega, rfl, by rw [hw]; exact lastK_lt g x m, by rw [hw], by rw [hw], by rw [hw], by rw [hw]⟩⟩
      · have hw := hneg (by rw [hq]; simp; intro _; exact he)
        have hf : fo (.agg #[.int .u32 0, .int .u32 (rt : Int)]) = none := by
          rw [hfo, put_other _ _ (fun h => he (by simpa using h.symm))]
        exact ⟨none, 0, 0, 0, false, .inl ⟨rfl, rfl, .inr ⟨cnt, fo, hmo, hmg, hf⟩⟩, .inl ⟨by rw [hw]; decide, rfl, rfl, rfl, rfl, rfl⟩⟩
  · have hw := hneg (by rw [hq]; simp [hk])
    exact ⟨none, 0, 0, 0, false, .inl ⟨rfl, rfl, .inl (by rw [hlk]; exact hk)⟩, .inl ⟨by rw [hw]; decide, rfl, rfl, rfl, rfl, rfl⟩⟩
theorem ans_later {w w' : World} {g mb r : Nat} {K : Nat → Int} {x : ByteArray} {v : Value} {b : Bool} (h : Ans w g mb K r x v b) (hb : Below w.heap.size w w') : Ans w' g mb K r x v b := by
  rcases h with ⟨h1, h2, h3⟩ | ⟨h1, c, fo, tb, c2, ft, h2, h3, h4, h5, h6, h7⟩
  · exact .inl ⟨h1, h2, h3.imp id (fun ⟨c, fo, k1, k2, k3⟩ => ⟨c, fo, k1.below hb k1.lt, k2, k3⟩)⟩
  · exact .inr ⟨h1, c, fo, tb, c2, ft, h2.below hb h2.lt, h3, h4, h5, h6.below hb h6.lt, h7⟩
theorem is19n (j : Int) (hj : j < 0) (a4 a5 : Value) (w : World) : Calls Tryd.prog 19 #[.agg #[.slice none 0 0, .float .f64 0], .int .i64 j, a4, a5] w fun e w' => e = .returned (.bool true) ∧ Below w.heap.size w w' := by
  have hal : Below w.heap.size w (w.alloc (.cells #[.slice none 0 0, .float .f64 0] 46)) := (Below.refl _ _).alloc (Nat.le_refl _) _
  have HB := Lib.hid hal
  have t1 : decide (j < 0) = true := by simpa using hj
  clear hal hj
  go_enter Tryd.func19, Tryd.ntmps19
  go_wp2_with fail
  refine (zero26 _).mono ?_
  rintro e w2 ⟨rfl, hb2⟩
  have HB2 := Lib.hid (HB.out.trans (hb2.mono HB.out.size))
  clear hb2
  go_wp2_with fail
  go_ret
  exact ⟨rfl, HB2.out⟩
theorem step_store_row {P : Program} {ops : Array Oper} {o : Oper} {a : Act} {w : World} {K : Act → World → Prop} {Q : Exit → Act → World → Prop} {E : Prop} (hgd : o.guard = none) (ty : TypeId) (x y : Operand) (hop : o.op = .store ty x y) (g : Nat) (cells : Array Value)
    (hx : a.eval x = .pointer (some ⟨g, 0, none⟩)) (hy : a.eval y = .agg cells) (t : TypeId) (old : Array Value) (hg : w.heap[g]? = some (.cells old t (0, 0))) (hi : (P.info? ty).map (·.size) = some cells.size) (hold : old.size = cells.size) (h1 : cells.all (·.oneCell') = true) (hd : o.dst = none)
    (hK : K a (w.setRow g cells)) : if Region.wanted o (yielded ops a.tmps) = true then Oper.wp P o a w K Q else E := by
  have hw : Region.wanted o (yielded ops a.tmps) = true := by simp [Region.wanted, hgd]
  rw [if_pos hw]
  unfold Oper.wp execOp
  simp only [hop, hx, hy, Instr.storeAt, Instr.sureAddr, Sem.run_bind, Sem.run_pure, Result.andThen_ok, run_storeVar_row w g t ty old cells hg hi hold h1]
  show K (a.put o.dst undef) _
  rw [hd]
  exact hK
set_option maxRecDepth 100000 in
set_option maxHeartbeats 4000000 in
theorem law (A0 : Option Addr) (n0 c0 : Nat) (z0 : List Int) (A1 : Option Addr) (n1 c1 : Nat) (z1 : List Int) (a2 : Int) (A3 : Option Addr) (n3 c3 : Nat) (z3 : List ByteArray) (A4 : Option Addr) (n4 c4 : Nat) (z4 : List Nat) (A5 : Option Addr) (n5 c5 : Nat) (Y5 : Nat → Option Addr) (L5 C5 : Nat → Nat) (Z5 : Nat → List Int) (a6 : Bool) (a7 : Int) (a8 : ByteArray) (w : World) (w0 : Args.IsInts .u8 w A0 n0 c0 z0) (w1 : Args.IsInts .i32 w A1 n1 c1 z1) (w2 : (Lit.int .i32 a2).wf = true) (w3 : Args.IsStrs w A3 n3 c3 z3) (w4 : Argw.IsFloats .f64 w A4 n4 c4 z4) (w5 : Argw.IsRows .u16 w A5 n5 c5 Y5 L5 C5 Z5) (w7 : (Lit.int .u32 a7).wf = true) (w8 : a8.size ≤ maxLen) (wg : Gi w) :
    Calls Tryd.prog 3 #[.slice A0 n0 c0, .slice A1 n1 c1, .int .i32 a2, .slice A3 n3 c3, .slice A4 n4 c4, .slice A5 n5 c5, .bool a6, .int .u32 a7, .string a8] w fun e w' => e = .returned (.bool true) ∧ Below w.heap.size w w' := by
  have m0 : n0 ≤ maxLen := Nat.le_trans w0.1 w0.2.1
  have m1 : n1 ≤ maxLen := Nat.le_trans w1.1 w1.2.1
  have m3 : n3 ≤ maxLen := Nat.le_trans w3.1 w3.2.1
  have m4 : n4 ≤ maxLen := Nat.le_trans w4.1 w4.2.1
  have m5 : n5 ≤ maxLen := Nat.le_trans w5.le w5.cm
  have b2 : -2147483648 ≤ a2 ∧ a2 ≤ 2147483647 := by
    have hm := w2
    simp [Lit.wf, IntKind.min, IntKind.max, IntKind.bits, IntKind.signed] at hm
    omega
  have b7 : 0 ≤ a7 ∧ a7 ≤ 4294967295 := by
    have hm := w7
    simp [Lit.wf, IntKind.min, IntKind.max, IntKind.bits, IntKind.signed] at hm
    omega
  obtain ⟨r0, rfl⟩ := Int.eq_ofNat_of_zero_le b7.1
  obtain ⟨K, hK⟩ : ∃ f : Nat → Int, f = fun i => z0.getD i 0 := ⟨_, rfl⟩
  obtain ⟨l, hl⟩ : ∃ f : Nat → Int, f = fun i => z1.getD i 0 := ⟨_, rfl⟩
  obtain ⟨g, hg⟩ : ∃ f : Nat → ByteArray, f = fun i => z3.getD i ByteArray.empty := ⟨_, rfl⟩
  obtain ⟨fl, hfl⟩ : ∃ f : Nat → Nat, f = fun i => z4.getD i 0 := ⟨_, rfl⟩
  obtain ⟨Z, hZ⟩ : ∃ f : Nat → Nat → Int, f = fun i j => (Z5 i).getD j 0 := ⟨_, rfl⟩
  have R0 := Lib.hid (show Rs w A0 n0 (fun i => .int .u8 (K i)) from by rw [hK]; exact Rs.of_ints w0)
  have R1 := Lib.hid (show Rs w A1 n1 (fun i => .int .i32 (l i)) from by rw [hl]; exact Rs.of_ints w1)
  have R3 := Lib.hid (show Rs w A3 n3 (fun i => .string (g i)) from by rw [hg]; exact rs_strs w3)
  have R4 := Lib.hid (show Rs w A4 n4 (fun i => .float .f64 (fl i)) from by rw [hfl]; exact rs_floats w4)
  have R5 := Lib.hid (show Rw w A5 n5 Y5 L5 C5 Z from by rw [hZ]; exact rw_of w5)
  have N0 := Lib.hid (show A0 = none → n0 = 0 ∧ c0 = 0 from fun e => by have h1 := w0.1; have h2 := w0.2.2.2.2.1 e; omega)
  have N1 := Lib.hid (show A1 = none → n1 = 0 ∧ c1 = 0 from fun e => by have h1 := w1.1; have h2 := w1.2.2.2.2.1 e; omega)
  have N3 := Lib.hid (show A3 = none → n3 = 0 ∧ c3 = 0 from fun e => by have h1 := w3.1; have h2 := w3.2.2.2.2.1 e; omega)
  have N4 := Lib.hid (show A4 = none → n4 = 0 ∧ c4 = 0 from fun e => by have h1 := w4.1; have h2 := w4.2.2.2.2.1 e; omega)
  have N5 := Lib.hid (show A5 = none → n5 = 0 ∧ c5 = 0 from fun e => by have h1 := w5.le; have h2 := w5.nil e; omega)
  have NR := Lib.hid (show ∀ i, i < n5 → Y5 i = none → L5 i = 0 ∧ C5 i = 0 from fun i hi e => by have h1 := (w5.row i hi).1; have h2 := (w5.row i hi).2.2.2.2.1 e; omega)
  have LB := Lib.hid (show ∀ i, -2147483648 ≤ l i ∧ l i ≤ 2147483647 from by rw [hl]; exact i32b w1.2.2.2.1)
  have GB := Lib.hid (show ∀ i, i < n3 → (g i).size ≤ maxLen from by rw [hg]; exact fun i hi => strb w3.2.2.2.1 i (by rw [w3.2.2.1]; exact hi))
  have BY := Lib.hid (bytes4 A0 n0 c0 A1 n1 c1 a2 A3 n3 c3 g A4 n4 c4 A5 n5 c5 Y5 L5 C5 a6 (r0 : Int) a8 w R3.out R5.out.hd m0 m1 m3 m4 m5 w8)
  have W8 := Lib.hid w8
  have WG := Lib.hid wg
  unfold maxLen at m0 m1 m3 m4 m5
  clear w0 w1 w2 w3 w4 w5 w7 wg hK hl hg hfl hZ
  go_enter Tryd.func3, Tryd.ntmps3
  go_wp2_with fail
  refine BY.out.mono ?_
  rintro e wx ⟨q0, rfl, hLB, rfl⟩
  clear BY
  cases q0
  · clear hLB
    go_wp2_with fail
    go_ret
    exact ⟨rfl, Below.refl _ _⟩
  have HLB := Lib.hid (hLB rfl)
  clear hLB
  by_cases p0 : 65536 < n0
  · have g0 : decide ((65536 : Int) < (n0 : Int)) = true := by simp; omega
    go_wp2_with fail
    go_ret
    exact ⟨rfl, Below.refl _ _⟩
  have g0 : decide ((65536 : Int) < (n0 : Int)) = false := by simp; omega
  by_cases p1 : 65536 < n1
  · have g1 : decide ((65536 : Int) < (n1 : Int)) = true := by simp; omega
    go_wp2_with fail
    go_ret
    exact ⟨rfl, Below.refl _ _⟩
  have g1 : decide ((65536 : Int) < (n1 : Int)) = false := by simp; omega
  by_cases p2 : 65536 < n3
  · have g2 : decide ((65536 : Int) < (n3 : Int)) = true := by simp; omega
    go_wp2_with fail
    go_ret
    exact ⟨rfl, Below.refl _ _⟩
  have g2 : decide ((65536 : Int) < (n3 : Int)) = false := by simp; omega
  by_cases p3 : 65536 < n4
  · have g3 : decide ((65536 : Int) < (n4 : Int)) = true := by simp; omega
    go_wp2_with fail
    go_ret
    exact ⟨rfl, Below.refl _ _⟩
  have g3 : decide ((65536 : Int) < (n4 : Int)) = false := by simp; omega
  by_cases p4 : 65536 < n5
  · have g4 : decide ((65536 : Int) < (n5 : Int)) = true := by simp; omega
    go_wp2_with fail
    go_ret
    exact ⟨rfl, Below.refl _ _⟩
  have g4 : decide ((65536 : Int) < (n5 : Int)) = false := by simp; omega
  obtain ⟨sz, hsz⟩ : ∃ x, a8.size = x := ⟨_, rfl⟩
  by_cases p5 : 1048576 < sz
  · have g5 : decide ((1048576 : Int) < (sz : Int)) = true := by simp; omega
    go_wp2_with fail
    go_ret
    exact ⟨rfl, Below.refl _ _⟩
  have g5 : decide ((1048576 : Int) < (sz : Int)) = false := by simp; omega
  go_wp2_with fail
  refine (size5 A3 n3 c3 g w R3.out (by omega)).mono ?_
  rintro e wx ⟨x5, rfl, rfl⟩
  obtain ⟨y3, hy3⟩ : ∃ y, IntKind.i64.wrap ((n0 : Int) + 4 * (n1 : Int) + x5) = y := ⟨_, rfl⟩
  obtain ⟨y4, hy4⟩ : ∃ y, IntKind.i64.wrap (y3 + 8 * (n4 : Int)) = y := ⟨_, rfl⟩
  go_wp2_with fail
  refine (size6 A5 n5 c5 Y5 L5 C5 w R5.out.hd (by omega)).mono ?_
  rintro e wx ⟨x6, rfl, rfl⟩
  obtain ⟨y5, hy5⟩ : ∃ y, IntKind.i64.wrap (y4 + x6) = y := ⟨_, rfl⟩
  obtain ⟨y6, hy6⟩ : ∃ y, IntKind.i64.wrap (y5 + (sz : Int)) = y := ⟨_, rfl⟩
  by_cases p6 : (1048576 : Int) < y6
  · have g6 : decide ((1048576 : Int) < y6) = true := by simpa using p6
    clear p6
    go_wp2_with fail
    go_ret
    exact ⟨rfl, Below.refl _ _⟩
  have g6 : decide ((1048576 : Int) < y6) = false := by simpa using p6
  clear p6
  go_wp2_with fail
  clear g0 g1 g2 g3 g4 g5 g6 hy3 hy4 hy5 hy6
  refine (shape7 A0 A1 A3 A4 A5 n0 c0 n1 c1 n3 c3 n4 c4 n5 c5 r0 l a6 w R1.out (by omega) (by omega) (by omega) (by omega) (by omega) (by omega) LB.out).mono ?_
  rintro e wx ⟨q, rfl, hq, rfl⟩
  cases q with
  | false =>
    clear hq
    go_wp2_with fail
    go_ret
    exact ⟨rfl, Below.refl _ _⟩
  | true =>
    obtain ⟨e4, e5, himp⟩ := hq rfl
    subst e4 e5
    have HIMP := Lib.hid himp
    clear hq himp
    go_wp2_with fail
    refine (copy8 A0 n0 c0 K w R0.out (by omega) N0.out).mono ?_
    rintro e u1 ⟨D0, d0, rfl, hr, hb, _, _⟩
    have S0 := Lib.hid hr
    have B1 := Lib.hid hb
    have G1 := Lib.hid (WG.out.below hb WG.out.lt)
    clear hr hb R0 N0
    go_wp2_with fail
    refine (copy9 A1 n1 c1 l u1 (R1.out.later B1.out) (by omega) N1.out).mono ?_
    rintro e u2 ⟨D1, d1, rfl, hr, hb, _, _⟩
    replace S0 := Lib.hid (S0.out.later hb)
    have S1 := Lib.hid hr
    have B2 := Lib.hid (B1.out.trans (hb.mono B1.out.size))
    clear hr hb R1 N1 B1 G1
    go_wp2_with fail
    refine (copy10 A3 n5 c3 g u2 (R3.out.later B2.out) (by omega) N3.out).mono ?_
    rintro e u3 ⟨D3, d3, rfl, hr, hb, _, _⟩
    replace S0 := Lib.hid (S0.out.later hb)
    replace S1 := Lib.hid (S1.out.later hb)
    have S3 := Lib.hid hr
    have B3 := Lib.hid (B2.out.trans (hb.mono B2.out.size))
    clear hr hb R3 N3 B2
    go_wp2_with fail
    refine (copy11 A4 n5 c4 fl u3 (R4.out.later B3.out) (by omega) N4.out).mono ?_
    rintro e u4 ⟨D4, d4, rfl, hr, hb, _, _⟩
    replace S0 := Lib.hid (S0.out.later hb)
    replace S1 := Lib.hid (S1.out.later hb)
    replace S3 := Lib.hid (S3.out.later hb)
    have S4 := Lib.hid hr
    have B4 := Lib.hid (B3.out.trans (hb.mono B3.out.size))
    clear hr hb R4 N4 B3
    go_wp2_with fail
    refine (copy12 A5 n5 c5 Y5 L5 C5 Z u4 (R5.out.later B4.out) (by omega) N5.out HLB.out NR.out).mono ?_
    rintro e u5 ⟨D5, d5, Y, C, rfl, hr, hb, hYN⟩
    replace S0 := Lib.hid (S0.out.later hb)
    replace S1 := Lib.hid (S1.out.later hb)
    replace S3 := Lib.hid (S3.out.later hb)
    replace S4 := Lib.hid (S4.out.later hb)
    have S5 := Lib.hid hr
    have HYN := Lib.hid hYN
    have B5 := Lib.hid (B4.out.trans (hb.mono B4.out.size))
    clear hr hb R5 N5 NR B4 hYN
    go_wp2_with fail
    have SY0 := Lib.hid (build13 D1 D0 n1 d1 n0 d0 l K u5 S1.out S0.out (by omega) (by omega))
    refine SY0.out.mono ?_
    rintro e u6 ⟨q, gg, rfl, hrow, hsy, hb, hq1, hg1, hqg⟩
    clear SY0
    have HSY := Lib.hid hsy
    have HROW := Lib.hid hrow
    have C6 := Lib.hid hb
    have HG := Lib.hid (show u5.heap.size ≤ gg ∧ u5.heap.size ≤ q ∧ q ≠ gg from ⟨hg1, hq1, hqg⟩)
    clear hb hrow hsy hq1 hg1 hqg
    go_wp2_with fail
    have hb7 : Below u6.heap.size u6 (u6.alloc (.cells #[.slice (some ⟨q, 0, none⟩) 1 1] 39)) := (Below.refl _ _).alloc (Nat.le_refl _) _
    have hr7 := Row.newArr u6 39 #[.slice (some ⟨q, 0, none⟩) 1 1]
    obtain ⟨u7, hu7⟩ : ∃ x, x = u6.alloc (.cells #[.slice (some ⟨q, 0, none⟩) 1 1] 39) := ⟨_, rfl⟩
    obtain ⟨bs, hbs⟩ : ∃ x, x = u6.heap.size := ⟨_, rfl⟩
    rw [← hu7] at hb7 hr7
    rw [← hbs] at hr7
    have HSY7 := Lib.hid (HSY.out.below hb7 HSY.out.lt)
    have HROW7 := Lib.hid (HROW.out.below hb7 HROW.out.lt)
    have HR7 := Lib.hid hr7
    have C7 := Lib.hid (C6.out.trans (hb7.mono C6.out.size))
    have HBS := Lib.hid (show u5.heap.size ≤ bs ∧ gg < bs from ⟨by rw [hbs]; exact C6.out.size, by rw [hbs]; exact HSY.out.lt⟩)
    rw [← hu7, ← hbs]
    clear hu7 hbs hr7 hb7 HSY HROW C6
    refine (enums14 a2 D3 D4 D5 n5 d3 d4 d5 g fl Y L5 C u7 (S3.out.later C7.out) (S4.out.later C7.out) (S5.out.hd.later C7.out) (by omega) b2 GB.out).mono ?_
    rintro e u8 ⟨mb, cnt, fo, rfl, hmo, hb8, hcase⟩
    have HSY8 := Lib.hid (HSY7.out.below hb8 HSY7.out.lt)
    have HROW8 := Lib.hid (HROW7.out.below hb8 HROW7.out.lt)
    have HR8 := Lib.hid (HR7.out.below hb8 HR7.out.lt)
    have C8 := Lib.hid (C7.out.trans (hb8.mono C7.out.size))
    have HMO := Lib.hid hmo
    have HCASE := Lib.hid hcase
    clear hmo hb8 hcase HSY7 HROW7 HR7 C7
    have hr9 := Row.newArr u8 46 #[.slice none 0 0, .float .f64 0]
    have hb9 : Below u8.heap.size u8 (u8.alloc (.cells #[.slice none 0 0, .float .f64 0] 46)) := (Below.refl _ _).alloc (Nat.le_refl _) _
    obtain ⟨u9, hu9⟩ : ∃ x, x = u8.alloc (.cells #[.slice none 0 0, .float .f64 0] 46) := ⟨_, rfl⟩
    obtain ⟨b21, hb21⟩ : ∃ x, x = u8.heap.size := ⟨_, rfl⟩
    rw [← hu9] at hr9 hb9
    rw [← hb21] at hr9
    have HR21 := Lib.hid hr9
    have HSY9 := Lib.hid (HSY8.out.below hb9 HSY8.out.lt)
    have HROW9 := Lib.hid (HROW8.out.below hb9 HROW8.out.lt)
    have HMO9 := Lib.hid (HMO.out.below hb9 HMO.out.lt)
    have s0 := (HR8.out.below hb9 HR8.out.lt).at_ (i := 0) rfl
    have C9 := Lib.hid (C8.out.trans (hb9.mono C8.out.size))
    have HB21 := Lib.hid (show bs < b21 ∧ gg < b21 from ⟨by rw [hb21]; exact HR8.out.lt, by rw [hb21]; exact HSY8.out.lt⟩)
    have HCASE9 := Lib.hid (show (a2 < 0 ∧ fo = fun _ => none) ∨ (0 ≤ a2 ∧ ∃ tb c2, fo = put (fun _ => none) (.agg #[.int .u32 0, .int .u32 a2]) (.map (some tb)) ∧ MapF Tryd.prog u9 tb 9 c2 (tabF g (fun i => .agg #[.slice (Y i) (L5 i) (C i), .float .f64 (fl i)]) n5)) from
      HCASE.out.imp id (fun ⟨h1, tb, c2, h2, h3⟩ => ⟨h1, tb, c2, h2, h3.below hb9 h3.lt⟩))
    clear hr9 hb9 HSY8 HROW8 HMO HR8 C8 HCASE
    have HBW := Lib.hid (show w.heap.size ≤ u5.heap.size from B5.out.size)
    have WG9 := Lib.hid (show Gi u9 from (WG.out.below B5.out WG.out.lt).below C9.out (Nat.lt_of_lt_of_le WG.out.lt B5.out.size))
    cases a6 with
    | true =>
      obtain ⟨e1, hr0, hlok, hrt⟩ := HIMP.out rfl
      subst e1
      have hlt := rootF_lt hlok (n1 + 1) r0 hr0
      have HRN := Lib.hid (show (rootF l (n1 + 1) r0).toNat < n1 from by omega)
      obtain ⟨dd, hch⟩ := ch_of_root hlok (n1 + 1) r0 hr0 hrt (by omega)
      have HCH := Lib.hid hch
      have HG0 := Lib.hid (show 0 ≠ gg from by have := WG.out.lt; have := HG.out.1; have := HBW.out; omega)
      obtain ⟨VA, VL, VC, VF, vb, hans, hwant⟩ := ans_ex (x := a8) HMO9.out HSY9.out hrt HRN.out HCASE9.out
      have HANS := Lib.hid hans
      obtain ⟨jw, hjw⟩ : ∃ x, x = want l K n1 a2 g n5 true r0 a8 := ⟨_, rfl⟩
      rw [← hjw] at hwant
      have HJW := Lib.hid hjw
      have HLOK := Lib.hid hlok
      have HRT := Lib.hid hrt
      have HI15 := Lib.hid (fun (W : World) (hs : St W q gg n1 (lx l) (ly l) (lk K n1)) (ha : Ans W gg mb (lk K n1) (rootF l (n1 + 1) r0).toNat a8 (.agg #[.slice VA VL VC, .float .f64 VF]) vb) => imp15 q gg n1 (rootF l (n1 + 1) r0).toNat dd r0 mb (lx l) (ly l) (lk K n1) a8 VA VL VC VF vb W hs HCH.out (by omega) HRN.out HG0.out HG.out.2.2 W8.out ha)
      clear hch hans hjw hlok hrt hlt HIMP
      go_wp2_with fail
      rw [← hu9, ← hb21]
      clear hu9 hb21
      refine wp_region_held_drew (S := (fun W => W.cell? ⟨bs, 0, none⟩ = some (.slice (some ⟨q, 0, none⟩) 1 1))) (by kernel_rfl) s0 (fun hHeld => ?_)
      refine take_to (i := 0) (d := some 112) (v := .agg #[.slice (some ⟨q, 0, none⟩) 1 1]) rfl rfl (by kernel_rfl) (by kernel_rfl) (by kernel_rfl) (fun _ _ _ h => h) (Or.inl ⟨by rfl, fun W hS => by go_simp⟩) s0 ?_
      simp only [Act.put, List.setIfInBounds_toArray, List.set_cons_zero, List.set_cons_succ]
      refine take_to (i := 1) (d := some 113) (v := .map (some mb)) rfl rfl (by kernel_rfl) (by kernel_rfl) (by kernel_rfl) (fun _ _ _ h => h) (Or.inl ⟨by rfl, fun W _ => by go_simp⟩) s0 ?_
      simp only [Act.put, List.setIfInBounds_toArray, List.set_cons_zero, List.set_cons_succ]
      refine take_to (i := 2) (d := some 114) (v := .int .u32 (r0 : Int)) rfl rfl (by kernel_rfl) (by kernel_rfl) (by kernel_rfl) (fun _ _ _ h => h) (Or.inl ⟨by rfl, fun W _ => by go_simp⟩) s0 ?_
      simp only [Act.put, List.setIfInBounds_toArray, List.set_cons_zero, List.set_cons_succ]
      refine take_to (i := 4) (d := some 116) (v := .string a8) rfl rfl (by kernel_rfl) (by kernel_rfl) (by kernel_rfl) (fun _ _ _ h => h) (Or.inl ⟨by rfl, fun W _ => by go_simp⟩) s0 ?_
      simp only [Act.put, List.setIfInBounds_toArray, List.set_cons_zero, List.set_cons_succ]
      refine wpAnyH_ready (rs := [3]) (by kernel_rfl) (by simp) ?_
      refine AllReadyH.cons rfl (fun K hK => ?_) AllReadyH.nil
      go_simp
      with_reducible refine (ref16 (r0 : Int) _).mono ?_
      rintro e v1 ⟨rfl, hb1⟩
      have hbv1 : Below u9.heap.size u9 v1 := ⟨hb1.os, hb1.tape, hb1.output, hb1.size, hb1.block⟩
      have s1 := cell_later hbv1 s0
      have HBV1 := Lib.hid hbv1
      clear hb1 hbv1
      try go_simp
      refine hK.out _ _ s1 (fun _ => ?_)
      clear hK K
      try simp only [Act.put]
      refine wpAnyH_ready (rs := [5]) (by kernel_rfl) (by simp) ?_
      refine AllReadyH.cons rfl (fun K hK => ?_) AllReadyH.nil
      go_simp
      with_reducible refine (HI15.out _ ⟨HSY9.out.below HBV1.out HSY9.out.lt, HROW9.out.below HBV1.out HROW9.out.lt, (WG9.out.below HBV1.out WG9.out.lt)⟩ (ans_later HANS.out HBV1.out)).mono ?_
      rintro e v2 ⟨rfl, hf2⟩
      have s2 := cell_fg hf2 (by show bs ≠ gg; have := HBS.out; omega) s1
      have HRR := Lib.hid (TeC.Row.fg (HR21.out.below HBV1.out HR21.out.lt) hf2 (by have := HB21.out; omega))
      have HCV := Lib.hid (fg_below (C9.out.trans (HBV1.out.mono C9.out.size)) hf2 HG.out.1)
      clear hf2
      try go_simp
      refine hK.out _ _ s2 (fun _ => ?_)
      clear hK K
      try simp only [Act.put]
      refine take_to (i := 6) (d := some 111) (v := .tuple #[.agg #[.slice VA VL VC, .float .f64 VF], .bool vb]) rfl rfl (by kernel_rfl) (by kernel_rfl) (by kernel_rfl) (fun _ _ _ h => h) (Or.inl ⟨by rfl, fun W _ => by go_simp⟩) s2 ?_
      simp only [Act.put, List.setIfInBounds_toArray, List.set_cons_zero, List.set_cons_succ]
      refine take_to (i := 7) (d := some 118) (v := .agg #[.slice VA VL VC, .float .f64 VF]) rfl rfl (by kernel_rfl) (by kernel_rfl) (by kernel_rfl) (fun _ _ _ h => h) (Or.inl ⟨by rfl, fun W _ => by go_simp⟩) s2 ?_
      simp only [Act.put, List.setIfInBounds_toArray, List.set_cons_zero, List.set_cons_succ]
      refine take_to (i := 8) (d := some 119) (v := .bool vb) rfl rfl (by kernel_rfl) (by kernel_rfl) (by kernel_rfl) (fun _ _ _ h => h) (Or.inl ⟨by rfl, fun W _ => by go_simp⟩) s2 ?_
      simp only [Act.put, List.setIfInBounds_toArray, List.set_cons_zero, List.set_cons_succ]
      have s3 : (v2.setRow b21 #[.slice VA VL VC, .float .f64 VF]).cell? ⟨bs, 0, none⟩ = some (.slice (some ⟨q, 0, none⟩) 1 1) := (World.cell?_of_block (a := ⟨bs, 0, none⟩) (setRow_other v2 b21 bs _ (by have := HB21.out; omega))).trans s2
      have HR3 := Lib.hid (row_setRow HRR.out #[.slice VA VL VC, .float .f64 VF])
      have HC3 := Lib.hid (below_setRow' HCV.out (show u5.heap.size ≤ b21 from by have := HB21.out; have := HBS.out; omega) #[.slice VA VL VC, .float .f64 VF])
      refine wpAnyH_ready (rs := [9]) (by kernel_rfl) (by simp) ?_
      refine AllReadyH.cons rfl (fun K hK => ?_) AllReadyH.nil
      refine step_store_row rfl 46 _ _ rfl b21 #[.slice VA VL VC, .float .f64 VF] (by kernel_rfl) (by kernel_rfl) 46 _ HRR.out (by kernel_rfl) rfl (by kernel_rfl) rfl ?_
      refine hK.out _ _ s3 (fun _ => ?_)
      clear hK K
      try simp only [Act.put]
      refine take_to (i := 10) (d := some 22) (v := .bool vb) rfl rfl (by kernel_rfl) (by kernel_rfl) (by kernel_rfl) (fun _ _ _ h => h) (Or.inl ⟨by rfl, fun W _ => by go_simp⟩) s3 ?_
      simp only [Act.put, List.setIfInBounds_toArray, List.set_cons_zero, List.set_cons_succ]
      refine wpAnyH_done (by kernel_rfl) ?_ _
      obtain ⟨v3, hv3⟩ : ∃ x, x = v2.setRow b21 #[.slice VA VL VC, .float .f64 VF] := ⟨_, rfl⟩
      rw [← hv3] at HR3 HC3
      rw [← hv3]
      clear hv3 s0 s1 s2 s3 HRR HCV
      have x0 := HR3.out.at_ (i := 0) rfl
      have x1 := HR3.out.at_ (i := 1) rfl
      go_wp2_with fail
      refine (want18 D0 D1 D3 n1 d0 d1 r0 n5 d3 l K g a2 a8 v3 (S0.out.later HC3.out) (S1.out.later HC3.out) (S3.out.later HC3.out) (by omega) (by omega) HLOK.out hr0 b2 HRT.out).mono ?_
      rintro e v4 ⟨rfl, rfl⟩
      rw [← HJW.out]
      rcases hwant with ⟨hj, rfl, rfl, rfl, rfl, rfl⟩ | ⟨hj, rfl, hjm, hA, hL, hC, hF⟩
      · have t1 : decide ((0 : Int) ≤ jw) = false := by simp; omega
        go_wp2_with fail
        refine (is19n jw hj _ _ _).mono ?_
        rintro e v5 ⟨rfl, hb5⟩
        have HFIN := Lib.hid ((B5.out.trans (HC3.out.mono B5.out.size)).trans (hb5.mono (B5.out.trans (HC3.out.mono B5.out.size)).size))
        clear hb5
        go_wp2_with fail
        go_ret
        exact ⟨rfl, HFIN.out⟩
      · have t1 : decide ((0 : Int) ≤ jw) = true := by simpa using hj
        obtain ⟨jn, rfl⟩ : ∃ jn : Nat, jw = (jn : Int) := ⟨jw.toNat, by omega⟩
        simp only [Int.toNat_natCast] at hA hL hC hF
        have hjn : jn < n5 := by omega
        have HI := Lib.hid (is19 VA D5 VL VC n5 jn d4 d5 VF D4 fl Y L5 C Z v3 (S4.out.later HC3.out) (S5.out.later HC3.out) hjn hA hL hC hF (by omega) (by rw [hL]; exact HLB.out jn hjn))
        clear hA hL hC hF hjm
        go_wp2_with fail
        refine HI.out.mono ?_
        rintro e v5 ⟨rfl, hb5⟩
        have HFIN := Lib.hid ((B5.out.trans (HC3.out.mono B5.out.size)).trans (hb5.mono (B5.out.trans (HC3.out.mono B5.out.size)).size))
        clear hb5
        go_wp2_with fail
        go_ret
        exact ⟨rfl, HFIN.out⟩
    | false =>
      clear HIMP
      go_wp2_with fail
      rw [← hu9, ← hb21]
      clear hu9 hb21
      refine wp_region_held_drew (S := (fun W => W.cell? ⟨bs, 0, none⟩ = some (.slice (some ⟨q, 0, none⟩) 1 1))) (by kernel_rfl) s0 (fun hHeld => ?_)
      refine take_to (i := 0) (d := some 121) (v := .agg #[.slice (some ⟨q, 0, none⟩) 1 1]) rfl rfl (by kernel_rfl) (by kernel_rfl) (by kernel_rfl) (fun _ _ _ h => h) (Or.inl ⟨by rfl, fun W hS => by go_simp⟩) s0 ?_
      simp only [Act.put, List.setIfInBounds_toArray, List.set_cons_zero, List.set_cons_succ]
      refine take_to (i := 1) (d := some 122) (v := .map (some mb)) rfl rfl (by kernel_rfl) (by kernel_rfl) (by kernel_rfl) (fun _ _ _ h => h) (Or.inl ⟨by rfl, fun W _ => by go_simp⟩) s0 ?_
      simp only [Act.put, List.setIfInBounds_toArray, List.set_cons_zero, List.set_cons_succ]
      refine take_to (i := 2) (d := some 123) (v := .int .u32 (r0 : Int)) rfl rfl (by kernel_rfl) (by kernel_rfl) (by kernel_rfl) (fun _ _ _ h => h) (Or.inl ⟨by rfl, fun W _ => by go_simp⟩) s0 ?_
      simp only [Act.put, List.setIfInBounds_toArray, List.set_cons_zero, List.set_cons_succ]
      refine take_to (i := 4) (d := some 125) (v := .string a8) rfl rfl (by kernel_rfl) (by kernel_rfl) (by kernel_rfl) (fun _ _ _ h => h) (Or.inl ⟨by rfl, fun W _ => by go_simp⟩) s0 ?_
      simp only [Act.put, List.setIfInBounds_toArray, List.set_cons_zero, List.set_cons_succ]
      refine wpAnyH_ready (rs := [3]) (by kernel_rfl) (by simp) ?_
      refine AllReadyH.cons rfl (fun K hK => ?_) AllReadyH.nil
      go_simp
      with_reducible refine (ref16 (r0 : Int) _).mono ?_
      rintro e v1 ⟨rfl, hb1⟩
      have hbv1 : Below u9.heap.size u9 v1 := ⟨hb1.os, hb1.tape, hb1.output, hb1.size, hb1.block⟩
      have s1 := cell_later hbv1 s0
      have HBV1 := Lib.hid hbv1
      clear hb1 hbv1
      try go_simp
      refine hK.out _ _ s1 (fun _ => ?_)
      clear hK K
      try simp only [Act.put]
      refine wpAnyH_ready (rs := [5]) (by kernel_rfl) (by simp) ?_
      refine AllReadyH.cons rfl (fun K hK => ?_) AllReadyH.nil
      go_simp
      with_reducible refine (idn17 q mb (r0 : Int) a8 _).mono ?_
      rintro e v2 ⟨rfl, hf2⟩
      have s2 := cell_later hf2 s1
      have HRR := Lib.hid ((HR21.out.below HBV1.out HR21.out.lt).below hf2 (Nat.lt_of_lt_of_le HR21.out.lt HBV1.out.size))
      have HCV := Lib.hid ((C9.out.trans (HBV1.out.mono C9.out.size)).trans (hf2.mono (C9.out.trans (HBV1.out.mono C9.out.size)).size))
      clear hf2
      try go_simp
      refine hK.out _ _ s2 (fun _ => ?_)
      clear hK K
      try simp only [Act.put]
      refine take_to (i := 6) (d := some 120) (v := .tuple #[.agg #[.slice none 0 0, .float .f64 0], .bool false]) rfl rfl (by kernel_rfl) (by kernel_rfl) (by kernel_rfl) (fun _ _ _ h => h) (Or.inl ⟨by rfl, fun W _ => by go_simp⟩) s2 ?_
      simp only [Act.put, List.setIfInBounds_toArray, List.set_cons_zero, List.set_cons_succ]
      refine take_to (i := 7) (d := some 127) (v := .agg #[.slice none 0 0, .float .f64 0]) rfl rfl (by kernel_rfl) (by kernel_rfl) (by kernel_rfl) (fun _ _ _ h => h) (Or.inl ⟨by rfl, fun W _ => by go_simp⟩) s2 ?_
      simp only [Act.put, List.setIfInBounds_toArray, List.set_cons_zero, List.set_cons_succ]
      refine take_to (i := 8) (d := some 128) (v := .bool false) rfl rfl (by kernel_rfl) (by kernel_rfl) (by kernel_rfl) (fun _ _ _ h => h) (Or.inl ⟨by rfl, fun W _ => by go_simp⟩) s2 ?_
      simp only [Act.put, List.setIfInBounds_toArray, List.set_cons_zero, List.set_cons_succ]
      have s3 : (v2.setRow b21 #[.slice none 0 0, .float .f64 0]).cell? ⟨bs, 0, none⟩ = some (.slice (some ⟨q, 0, none⟩) 1 1) := (World.cell?_of_block (a := ⟨bs, 0, none⟩) (setRow_other v2 b21 bs _ (by have := HB21.out; omega))).trans s2
      have HR3 := Lib.hid (row_setRow HRR.out #[.slice none 0 0, .float .f64 0])
      have HC3 := Lib.hid (below_setRow' HCV.out (show u5.heap.size ≤ b21 from by have := HB21.out; have := HBS.out; omega) #[.slice none 0 0, .float .f64 0])
      refine wpAnyH_ready (rs := [9]) (by kernel_rfl) (by simp) ?_
      refine AllReadyH.cons rfl (fun K hK => ?_) AllReadyH.nil
      refine step_store_row rfl 46 _ _ rfl b21 #[.slice none 0 0, .float .f64 0] (by kernel_rfl) (by kernel_rfl) 46 _ HRR.out (by kernel_rfl) rfl (by kernel_rfl) rfl ?_
      refine hK.out _ _ s3 (fun _ => ?_)
      clear hK K
      try simp only [Act.put]
      refine take_to (i := 10) (d := some 22) (v := .bool false) rfl rfl (by kernel_rfl) (by kernel_rfl) (by kernel_rfl) (fun _ _ _ h => h) (Or.inl ⟨by rfl, fun W _ => by go_simp⟩) s3 ?_
      simp only [Act.put, List.setIfInBounds_toArray, List.set_cons_zero, List.set_cons_succ]
      refine wpAnyH_done (by kernel_rfl) ?_ _
      obtain ⟨v3, hv3⟩ : ∃ x, x = v2.setRow b21 #[.slice none 0 0, .float .f64 0] := ⟨_, rfl⟩
      rw [← hv3] at HR3 HC3
      rw [← hv3]
      clear hv3 s0 s1 s2 s3 HRR HCV
      have x0 := HR3.out.at_ (i := 0) rfl
      have x1 := HR3.out.at_ (i := 1) rfl
      go_wp2_with fail
      refine (want18n _ _ _ a2 (r0 : Int) a8 v3).mono ?_
      rintro e v4 ⟨rfl, rfl⟩
      go_wp2_with fail
      refine (is19n (-1) (by decide) _ _ _).mono ?_
      rintro e v5 ⟨rfl, hb5⟩
      have HFIN := Lib.hid ((B5.out.trans (HC3.out.mono B5.out.size)).trans (hb5.mono (B5.out.trans (HC3.out.mono B5.out.size)).size))
      clear hb5
      go_wp2_with fail
      go_ret
      exact ⟨rfl, HFIN.out⟩
end Go.Proofs.YtnjjenellkpkaaaDoor.TeL
