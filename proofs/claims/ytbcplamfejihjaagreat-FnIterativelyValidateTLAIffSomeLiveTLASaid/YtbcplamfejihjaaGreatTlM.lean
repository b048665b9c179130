/- FnIterativelyValidateTLAIffSomeLiveTLA: the graph is built, the walk. -/
import Derived.Test.YtbcplamfejihjaaGreatRows
import Derived.Test.YtbcplamfejihjaaGreatMem
import Derived.Test.YtbcplamfejihjaaGreatSl
import Derived.Test.YtbcplamfejihjaaGreatTlN
import Derived.Test.YtbcplamfejihjaaGreatTlI
import Derived.Great.BuildSlice
import Derived.Deep.RegionLaw
import Derived.Deep.RegionHeld3
import Derived.Laws.EntriesVeiled
import Derived.Maps.AppendAt
import Derived.Carry
import Derived.WalkKit
import Derived.ProofKit
import Derived.OpenShut
import Derived.Below
import Derived.WalkLawsBesides
import Derived.Lib.Hide
import Derived.Outline
import Derived.RegionTactic
import Derived.Deep.QuietTactic
import Derived.BigQuiet
import Derived.WalkSpells
import Derived.Deep.OwnRows
import Derived.IntWalk
import Derived.Deep.DeepMust
namespace Go.Proofs.YtbcplamfejihjaaGreat.TlM
open Go.RowKit Mem Sl
set_option linter.unusedVariables false
open Args Fvs TlA TlP TlD TlF TlB TlN TlI

/-- What the building gives. -/
def New (n : Nat) (ok tla : Nat → Bool) (w : World) (e : Ending) (w' : World) : Prop := ∃ g : Sh, g.n = n ∧ g.ok = ok ∧ g.tla = tla ∧ e = .returned (.pointer (some ⟨g.S, 0, none⟩)) ∧ Fine g ∧ Ps g w'.heap.size w' 1 false w' ∧ w.heap.size ≤ g.R ∧ Below w.heap.size w w'
theorem new_of {w wr w5 : World} {S n m rb : Nat} {ok tla : Nat → Bool} {ri : Nat → Nat} {V : Nat → Value} {fr t kk : Nat → Int} (hn : n ≤ 256) (hm : m ≤ 4096) (ht : ∀ i, i < m → 0 ≤ t i ∧ t i < n) (hk : ∀ i, i < m → 1 ≤ kk i ∧ kk i ≤ 3) (hf : Fam wr w.heap.size 58 rb n V (Ls fr t kk m))
    (hb0 : Below w.heap.size w wr) (hb : Below wr.heap.size wr w5) (hres : Res w5 wr.heap.size n ok n ri) (hrep : ∀ j, j < n → wr.heap.size < ri j ∧ Rep w5 (ri j) (V j) (awl (tla j))) (hS : w5.cell? ⟨S, 11, none⟩ = some (.slice (some ⟨wr.heap.size, 0, none⟩) n n)) (hSR : S ≠ wr.heap.size) (hSl : S < w5.heap.size) :
    New n ok tla w (.returned (.pointer (some ⟨S, 0, none⟩))) w5 := by
  have hg := gr_of hf hb hres hrep hS hSR hSl
  obtain ⟨hr, hfz⟩ := rows_of hres
  refine ⟨shOf S wr.heap.size n ok tla ri V (Ls fr t kk m), rfl, rfl, rfl, rfl, fine_of hn hm ht hk, ⟨by unfold U; omega, fun _ => ⟨0, 0, 0, 0⟩, ⟨hg, fun i hi => (hr i hi).1, fun i hi => (hr i hi).2.1, fun i hi => (hr i hi).2.2.1, fun i hi => (hr i hi).2.2.2, hfz, Nat.le_refl _⟩, fun i hi => ?_, Fm.refl _ _ _, .inl ⟨rfl, rfl, fun _ _ => rfl⟩⟩, hb0.size, hb0.trans (hb.mono hb0.size)⟩
  refine ⟨by unfold U; show (0 : Int) ≤ 0 ∧ (0 : Int) ≤ 4294967295; omega, by show (0 : Int) ≤ 0 ∧ (0 : Int) ≤ 4294967294; omega, by unfold U; show (0 : Int) ≤ 0 ∧ (0 : Int) ≤ 4294967295; omega, by unfold U; show (0 : Int) ≤ 0 ∧ (0 : Int) ≤ 4294967295; omega, fun _ h => ?_⟩
  have hi' : i < n := hi
  have h' : (4294967295 - 0 : Int) = (i : Int) := h
  omega
theorem res_later {w w' : World} {R n i : Nat} {ok : Nat → Bool} {ri : Nat → Nat} (h : Res w R n ok i ri) (hb : Below w.heap.size w w') : Res w' R n ok i ri := by
  obtain ⟨cur, h1, h2, h3⟩ := h
  exact ⟨cur, (hb.block R (Array.getElem?_eq_some_iff.1 h1).1).trans h1, h2, h3⟩
theorem rep_later {w w' : World} {b : Nat} {v : Value} {aw : Int} (h : Rep w b v aw) (hb : Below w.heap.size w w') : Rep w' b v aw :=
  ⟨Nat.lt_of_lt_of_le h.lt hb.size, (hb.cell (p := ⟨b, 35, none⟩) h.lt).trans h.c35, (hb.cell (p := ⟨b, 47, none⟩) h.lt).trans h.c47⟩
noncomputable def c183 (a b c d : Array Value) (R n p : Nat) : Array Value := (Tryz.prog.built 183 [(0, .agg #[.func (.func 15) #[] a, .func (.func 18) #[] b, .func (.func 19) #[] c, .func (.func 20) #[] d, .int .i8 3, .map none]), (6, .slice (some ⟨R, 0, none⟩) n n), (7, .map (some p))]).getD #[]
theorem c183_11 (a b c d : Array Value) (R n p : Nat) : (c183 a b c d R n p)[11]? = some (.slice (some ⟨R, 0, none⟩) n n) := by kernel_rfl
set_option maxRecDepth 100000 in
set_option maxHeartbeats 4000000 in
theorem new9 (n m : Nat) (ok tla : Nat → Bool) (fr t kk : Nat → Int) (A1 A2 A3 A4 A5 A6 A7 : Option Addr) (c1 c2 c3 c4 c5 c6 c7 : Nat) (w : World) (h : Ar w n m ok tla fr t kk A1 A2 A3 A4 A5 A6 A7) (hn : n ≤ 256) (hm : m ≤ 4096)
    (hfr : ∀ i, i < m → 0 ≤ fr i ∧ fr i < n) (ht : ∀ i, i < m → 0 ≤ t i ∧ t i < n) (hk : ∀ i, i < m → 1 ≤ kk i ∧ kk i ≤ 3) :
    Calls Tryz.prog 9 #[.slice A1 n c1, .slice A2 n c2, .slice A3 m c3, .slice A4 m c4, .slice A5 m c5, .slice A6 n c6, .slice A7 n c7] w (New n ok tla w) := by
  have hmk := fun W => run_make_row' (P := Tryz.prog) 37 38 (.slice none 0 0) 24 Tryz.underlying37 info38 rfl .i64 .i64 n (by omega) (by omega) W
  have H := Lib.hid h
  have HFR := Lib.hid hfr
  have HT := Lib.hid ht
  have HK := Lib.hid hk
  clear h hfr ht hk
  go_enter Tryz.func9, Tryz.ntmps9
  go_wp2
  go_loopw [17, 18] (fun t17 t18 wr => ∃ (k : Nat) (V : Nat → Value), k ≤ m ∧ t17 = .int .i64 k ∧ Fam wr w.heap.size 58 w.heap.size n V (Ls fr t kk k) ∧ Below w.heap.size w wr) (fun t17 _ _ => m - (intOf t17).toNat)
  case atStart => exact ⟨0, _, Nat.zero_le _, rfl, fam_made w w.heap.size 58 38 n, (Below.refl _ _).alloc (Nat.le_refl _) _⟩
  case round =>
    obtain ⟨k, V, hk, rfl, hfam, hbel⟩ := hrel
    by_cases hlt : k < m
    · obtain ⟨b3, o3, ha3, hb3, hc3⟩ := H.out.a3 k hlt
      obtain ⟨b4, o4, ha4, hb4, hc4⟩ := H.out.a4 k hlt
      obtain ⟨b5, o5, ha5, hb5, hc5⟩ := H.out.a5 k hlt
      subst ha3 ha4 ha5
      obtain ⟨f0, f1⟩ := HFR.out k hlt
      obtain ⟨x0, x1⟩ := HT.out k hlt
      obtain ⟨f, hf⟩ := Int.eq_ofNat_of_zero_le f0
      rw [hf] at f1
      have hfn : f < n := by omega
      have d3 := cell_later hbel hc3
      have d4 := cell_later hbel hc4
      have d5 := cell_later hbel hc5
      simp only [hf] at d3
      obtain ⟨x, hx⟩ : ∃ x, x = t k := ⟨_, rfl⟩
      obtain ⟨y, hy⟩ : ∃ y, y = kk k := ⟨_, rfl⟩
      simp only [← hx] at d4 x0 x1
      simp only [← hy] at d5
      obtain ⟨A0, c0, hV⟩ := hfam.form hfn
      have dV : wr.cell? ⟨w.heap.size, f, none⟩ = some (.slice A0 _ c0) := hfam.fv.at_ hfn hV
      obtain ⟨len, hlen⟩ : ∃ l, l = (Ls fr t kk k f).length := ⟨_, rfl⟩
      have hll : (Ls fr t kk k f).length ≤ 4096 := by have := ls_len fr t kk k f; omega
      rw [← hlen] at dV hV
      have HF := Lib.hid hf
      have HX := Lib.hid hx
      have HY := Lib.hid hy
      have HV := Lib.hid hV
      have HLL := Lib.hid hll
      have HFAM := Lib.hid hfam
      have HBEL := Lib.hid hbel
      have i1 : (f : Int) < (n : Int) := by omega
      have i0 : (0 : Int) ≤ (f : Int) := by omega
      have h12 := fun W => make12 x W (by omega)
      have H12 := Lib.hid h12
      have N4 : b4 < w.heap.size := hb4
      have N5 : b5 < w.heap.size := hb5
      clear hfam hbel hb3 hb4 hb5 hc3 hc4 hc5 hf hx hy hV hlen hll h12 f0 f1
      go_wp2
      refine wp_region_held_drew (S := (fun W => W.cell? ⟨b4, o4 + k, none⟩ = some (.int .u32 x) ∧ W.cell? ⟨b5, o5 + k, none⟩ = some (.int .u8 y))) (by kernel_rfl) ⟨d4, d5⟩ (fun hHeld => ?_)
      refine wpAnyH_take (i := 0) (v := .slice (some ⟨w.heap.size, 0, none⟩) n n) rfl (by kernel_rfl) (by kernel_rfl) (by kernel_rfl) (fun _ _ _ h => h) (Or.inl ⟨by rfl, fun W _ => by go_simp⟩) ⟨d4, d5⟩ ?_
      simp only [Act.put, List.setIfInBounds_toArray]
      refine wpAnyH_take (i := 1) (v := .int .u32 (f : Int)) rfl (by kernel_rfl) (by kernel_rfl) (by kernel_rfl) (fun _ _ _ h => h) (Or.inl ⟨by rfl, fun W _ => by go_simp⟩) ⟨d4, d5⟩ ?_
      simp only [Act.put]
      refine wpAnyH_take (i := 2) (v := .slice (some ⟨w.heap.size, 0, none⟩) n n) rfl (by kernel_rfl) (by kernel_rfl) (by kernel_rfl) (fun _ _ _ h => h) (Or.inl ⟨by rfl, fun W _ => by go_simp⟩) ⟨d4, d5⟩ ?_
      simp only [Act.put]
      refine wpAnyH_take (i := 3) (v := .int .u32 (f : Int)) rfl (by kernel_rfl) (by kernel_rfl) (by kernel_rfl) (fun _ _ _ h => h) (Or.inl ⟨by rfl, fun W _ => by go_simp⟩) ⟨d4, d5⟩ ?_
      simp only [Act.put]
      refine wpAnyH_take (i := 4) (v := .pointer (some ⟨w.heap.size, f, none⟩)) rfl (by kernel_rfl) (by kernel_rfl) (by kernel_rfl) (fun _ _ _ h => h) (Or.inl ⟨by rfl, fun W _ => by go_simp⟩) ⟨d4, d5⟩ ?_
      simp only [Act.put]
      refine wpAnyH_take (i := 6) (v := .slice (some ⟨b4, o4, none⟩) m c4) rfl (by kernel_rfl) (by kernel_rfl) (by kernel_rfl) (fun _ _ _ h => h) (Or.inl ⟨by rfl, fun W _ => by go_simp⟩) ⟨d4, d5⟩ ?_
      simp only [Act.put]
      refine wpAnyH_take (i := 7) (v := .int .i64 (k : Int)) rfl (by kernel_rfl) (by kernel_rfl) (by kernel_rfl) (fun _ _ _ h => h) (Or.inl ⟨by rfl, fun W _ => by go_simp⟩) ⟨d4, d5⟩ ?_
      simp only [Act.put]
      refine wpAnyH_take (i := 8) (v := .pointer (some ⟨b4, o4 + k, none⟩)) rfl (by kernel_rfl) (by kernel_rfl) (by kernel_rfl) (fun _ _ _ h => h) (Or.inl ⟨by rfl, fun W _ => by go_simp⟩) ⟨d4, d5⟩ ?_
      simp only [Act.put]
      refine wpAnyH_take (i := 9) (v := .int .u32 x) rfl (by kernel_rfl) (by kernel_rfl) (by kernel_rfl) (fun _ _ _ h => h) (Or.inl ⟨by rfl, fun W hS => by obtain ⟨hS1, hS2⟩ := hS; go_simp⟩) ⟨d4, d5⟩ ?_
      simp only [Act.put]
      refine wpAnyH_take (i := 11) (v := .slice (some ⟨b5, o5, none⟩) m c5) rfl (by kernel_rfl) (by kernel_rfl) (by kernel_rfl) (fun _ _ _ h => h) (Or.inl ⟨by rfl, fun W _ => by go_simp⟩) ⟨d4, d5⟩ ?_
      simp only [Act.put]
      refine wpAnyH_take (i := 12) (v := .int .i64 (k : Int)) rfl (by kernel_rfl) (by kernel_rfl) (by kernel_rfl) (fun _ _ _ h => h) (Or.inl ⟨by rfl, fun W _ => by go_simp⟩) ⟨d4, d5⟩ ?_
      simp only [Act.put]
      refine wpAnyH_take (i := 13) (v := .pointer (some ⟨b5, o5 + k, none⟩)) rfl (by kernel_rfl) (by kernel_rfl) (by kernel_rfl) (fun _ _ _ h => h) (Or.inl ⟨by rfl, fun W _ => by go_simp⟩) ⟨d4, d5⟩ ?_
      simp only [Act.put]
      refine wpAnyH_take (i := 14) (v := .int .u8 y) rfl (by kernel_rfl) (by kernel_rfl) (by kernel_rfl) (fun _ _ _ h => h) (Or.inl ⟨by rfl, fun W hS => by obtain ⟨hS1, hS2⟩ := hS; go_simp⟩) ⟨d4, d5⟩ ?_
      simp only [Act.put]
      refine wpAnyH_ready (rs := [5, 10]) (by kernel_rfl) (by simp) ?_
      refine AllReadyH.cons rfl (fun K hK => ?_) (AllReadyH.cons rfl (fun K hK => ?_) AllReadyH.nil)
      · go_simp
        refine hK.out _ _ ⟨d4, d5⟩ (fun _ => ?_)
        clear hK K
        try simp only [Act.put]
        refine wpAnyH_ready (rs := [10]) (by kernel_rfl) (by simp) ?_
        refine AllReadyH.cons rfl (fun K hK => ?_) AllReadyH.nil
        go_simp
        with_reducible refine (H12.out _).mono ?_
        rintro e w2 ⟨rfl, hb2⟩
        have HB2 := Lib.hid (show Below wr.heap.size wr w2 from ⟨hb2.os, hb2.tape, hb2.output, hb2.size, hb2.block⟩)
        have e4 := cell_later HB2.out d4
        have e5 := cell_later HB2.out d5
        have eV := cell_later HB2.out dV
        obtain ⟨A', n', c', w5, hrun, ⟨A9, n9, c9, e9⟩, hfz, hfam5, hbel5⟩ := app1 (HFAM.out.later HB2.out) hfn HLL.out (Nat.le_refl _) (4294967295 - x) y
        rw [HV.out] at hrun
        have HS5 := Lib.hid (show (w5.setCell ⟨w.heap.size, f, none⟩ (.slice A' n' c')).cell? ⟨b4, o4 + k, none⟩ = some (.int .u32 x) ∧ (w5.setCell ⟨w.heap.size, f, none⟩ (.slice A' n' c')).cell? ⟨b5, o5 + k, none⟩ = some (.int .u8 y) from ⟨below_cellv hbel5 N4 e4, below_cellv hbel5 N5 e5⟩)
        have HS4 := Lib.hid (show w5.cell? ⟨b4, o4 + k, none⟩ = some (.int .u32 x) ∧ w5.cell? ⟨b5, o5 + k, none⟩ = some (.int .u8 y) from ⟨(cell_far (Nat.ne_of_lt N4)).symm.trans HS5.out.1, (cell_far (Nat.ne_of_lt N5)).symm.trans HS5.out.2⟩)
        have HRUN := Lib.hid hrun
        have HFAM5 := Lib.hid hfam5
        have HBEL5 := Lib.hid hbel5
        have e4' := cell_later ((Below.refl w2.heap.size w2).alloc (Nat.le_refl _) (.cells #[.pointer none, .pointer none, .string ByteArray.empty, .string ByteArray.empty, .string ByteArray.empty, .string ByteArray.empty, .int .u8 0, .int .i32 0, .int .i32 0, .int .i32 0, .int .u32 (4294967295 - x), .int .u32 0, .int .u16 0, .int .u8 0, .int .u8 y] 58)) e4
        have e5' := cell_later ((Below.refl w2.heap.size w2).alloc (Nat.le_refl _) (.cells #[.pointer none, .pointer none, .string ByteArray.empty, .string ByteArray.empty, .string ByteArray.empty, .string ByteArray.empty, .int .u8 0, .int .i32 0, .int .i32 0, .int .i32 0, .int .u32 (4294967295 - x), .int .u32 0, .int .u16 0, .int .u8 0, .int .u8 y] 58)) e5
        have eV' := cell_later ((Below.refl w2.heap.size w2).alloc (Nat.le_refl _) (.cells #[.pointer none, .pointer none, .string ByteArray.empty, .string ByteArray.empty, .string ByteArray.empty, .string ByteArray.empty, .int .u8 0, .int .i32 0, .int .i32 0, .int .i32 0, .int .u32 (4294967295 - x), .int .u32 0, .int .u16 0, .int .u8 0, .int .u8 y] 58)) eV
        clear hrun hfam5 hbel5 hb2
        try go_simp
        refine hK.out _ _ ⟨e4, e5⟩ (fun _ => ?_)
        clear hK K
        try simp only [Act.put]
        refine wpAnyH_take (i := 15) (v := .agg #[.pointer none, .pointer none, .string ByteArray.empty, .string ByteArray.empty, .string ByteArray.empty, .string ByteArray.empty, .int .u8 0, .int .i32 0, .int .i32 0, .int .i32 0, .int .u32 (4294967295 - x), .int .u32 0, .int .u16 0, .int .u8 0, .int .u8 y]) rfl (by kernel_rfl) (by kernel_rfl) (by kernel_rfl) (fun _ _ _ h => h) (Or.inl ⟨by rfl, fun W _ => by go_simp; rfl⟩) ⟨e4, e5⟩ ?_
        simp only [Act.put]
        refine wpAnyH_ready (rs := [16]) (by kernel_rfl) (by simp) ?_
        refine AllReadyH.cons rfl (fun K hK => ?_) AllReadyH.nil
        go_simp
        refine hK.out _ _ ⟨e4', e5'⟩ (fun _ => ?_)
        clear hK K
        try simp only [Act.put]
        refine wpAnyH_ready (rs := [17]) (by kernel_rfl) (by simp) ?_
        refine AllReadyH.cons rfl (fun K hK => ?_) AllReadyH.nil
        refine step_append_run rfl _ _ 38 rfl _ _ _ w5 rfl rfl HRUN.out ?_
        refine hK.out _ _ HS4.out (fun _ => ?_)
        clear hK K
        try simp only [Act.put]
        refine wpAnyH_take (i := 18) (v := .pointer (some ⟨w.heap.size, f, none⟩)) rfl (by kernel_rfl) (by kernel_rfl) (by kernel_rfl) (fun _ _ _ h => h) (Or.inl ⟨by rfl, fun W _ => by go_simp⟩) HS4.out ?_
        simp only [Act.put]
        refine wpAnyH_ready (rs := [19]) (by kernel_rfl) (by simp) ?_
        refine AllReadyH.cons rfl (fun K hK => ?_) AllReadyH.nil
        go_simp
        refine hK.out _ _ HS5.out (fun _ => ?_)
        clear hK K
        try simp only [Act.put]
        refine wpAnyH_done (by kernel_rfl) ?_ _
        have HL := Lib.hid (show Fam (w5.setCell ⟨w.heap.size, f, none⟩ (.slice A' n' c')) w.heap.size 58 w.heap.size n (up V f (.slice A' n' c')) (Ls fr t kk (k + 1)) from by
          have h9 := HFAM5.out
          rw [HX.out, HY.out, ls_step HF.out] at h9
          exact h9)
        clear HFAM5 HRUN HS4 HS5 e4 e5 eV e4' e5' eV' e9 hfz d3 d4 d5 dV HLL HV HX HY HF H12
        go_wp2
        go_roundw
        case rel => exact ⟨k + 1, _, by omega, by go_num, HL.out, HBEL.out.trans ((HB2.out.mono HBEL.out.size).trans HBEL5.out)⟩
        case measure => simp [intOf]; omega
      · go_simp
        with_reducible refine (H12.out _).mono ?_
        rintro e w2 ⟨rfl, hb2⟩
        have HB2 := Lib.hid (show Below wr.heap.size wr w2 from ⟨hb2.os, hb2.tape, hb2.output, hb2.size, hb2.block⟩)
        have e4 := cell_later HB2.out d4
        have e5 := cell_later HB2.out d5
        have eV := cell_later HB2.out dV
        obtain ⟨A', n', c', w5, hrun, ⟨A9, n9, c9, e9⟩, hfz, hfam5, hbel5⟩ := app1 (HFAM.out.later HB2.out) hfn HLL.out (Nat.le_refl _) (4294967295 - x) y
        rw [HV.out] at hrun
        have HS5 := Lib.hid (show (w5.setCell ⟨w.heap.size, f, none⟩ (.slice A' n' c')).cell? ⟨b4, o4 + k, none⟩ = some (.int .u32 x) ∧ (w5.setCell ⟨w.heap.size, f, none⟩ (.slice A' n' c')).cell? ⟨b5, o5 + k, none⟩ = some (.int .u8 y) from ⟨below_cellv hbel5 N4 e4, below_cellv hbel5 N5 e5⟩)
        have HS4 := Lib.hid (show w5.cell? ⟨b4, o4 + k, none⟩ = some (.int .u32 x) ∧ w5.cell? ⟨b5, o5 + k, none⟩ = some (.int .u8 y) from ⟨(cell_far (Nat.ne_of_lt N4)).symm.trans HS5.out.1, (cell_far (Nat.ne_of_lt N5)).symm.trans HS5.out.2⟩)
        have HRUN := Lib.hid hrun
        have HFAM5 := Lib.hid hfam5
        have HBEL5 := Lib.hid hbel5
        have e4' := cell_later ((Below.refl w2.heap.size w2).alloc (Nat.le_refl _) (.cells #[.pointer none, .pointer none, .string ByteArray.empty, .string ByteArray.empty, .string ByteArray.empty, .string ByteArray.empty, .int .u8 0, .int .i32 0, .int .i32 0, .int .i32 0, .int .u32 (4294967295 - x), .int .u32 0, .int .u16 0, .int .u8 0, .int .u8 y] 58)) e4
        have e5' := cell_later ((Below.refl w2.heap.size w2).alloc (Nat.le_refl _) (.cells #[.pointer none, .pointer none, .string ByteArray.empty, .string ByteArray.empty, .string ByteArray.empty, .string ByteArray.empty, .int .u8 0, .int .i32 0, .int .i32 0, .int .i32 0, .int .u32 (4294967295 - x), .int .u32 0, .int .u16 0, .int .u8 0, .int .u8 y] 58)) e5
        have eV' := cell_later ((Below.refl w2.heap.size w2).alloc (Nat.le_refl _) (.cells #[.pointer none, .pointer none, .string ByteArray.empty, .string ByteArray.empty, .string ByteArray.empty, .string ByteArray.empty, .int .u8 0, .int .i32 0, .int .i32 0, .int .i32 0, .int .u32 (4294967295 - x), .int .u32 0, .int .u16 0, .int .u8 0, .int .u8 y] 58)) eV
        clear hrun hfam5 hbel5 hb2
        try go_simp
        refine hK.out _ _ ⟨e4, e5⟩ (fun _ => ?_)
        clear hK K
        try simp only [Act.put]
        refine wpAnyH_take (i := 15) (v := .agg #[.pointer none, .pointer none, .string ByteArray.empty, .string ByteArray.empty, .string ByteArray.empty, .string ByteArray.empty, .int .u8 0, .int .i32 0, .int .i32 0, .int .i32 0, .int .u32 (4294967295 - x), .int .u32 0, .int .u16 0, .int .u8 0, .int .u8 y]) rfl (by kernel_rfl) (by kernel_rfl) (by kernel_rfl) (fun _ _ _ h => h) (Or.inl ⟨by rfl, fun W _ => by go_simp; rfl⟩) ⟨e4, e5⟩ ?_
        simp only [Act.put]
        refine wpAnyH_ready (rs := [5, 16]) (by kernel_rfl) (by simp) ?_
        refine AllReadyH.cons rfl (fun K hK => ?_) (AllReadyH.cons rfl (fun K hK => ?_) AllReadyH.nil)
        · go_simp
          refine hK.out _ _ ⟨e4, e5⟩ (fun _ => ?_)
          clear hK K
          try simp only [Act.put]
          refine wpAnyH_ready (rs := [16]) (by kernel_rfl) (by simp) ?_
          refine AllReadyH.cons rfl (fun K hK => ?_) AllReadyH.nil
          go_simp
          refine hK.out _ _ ⟨e4', e5'⟩ (fun _ => ?_)
          clear hK K
          try simp only [Act.put]
          refine wpAnyH_ready (rs := [17]) (by kernel_rfl) (by simp) ?_
          refine AllReadyH.cons rfl (fun K hK => ?_) AllReadyH.nil
          refine step_append_run rfl _ _ 38 rfl _ _ _ w5 rfl rfl HRUN.out ?_
          refine hK.out _ _ HS4.out (fun _ => ?_)
          clear hK K
          try simp only [Act.put]
          refine wpAnyH_take (i := 18) (v := .pointer (some ⟨w.heap.size, f, none⟩)) rfl (by kernel_rfl) (by kernel_rfl) (by kernel_rfl) (fun _ _ _ h => h) (Or.inl ⟨by rfl, fun W _ => by go_simp⟩) HS4.out ?_
          simp only [Act.put]
          refine wpAnyH_ready (rs := [19]) (by kernel_rfl) (by simp) ?_
          refine AllReadyH.cons rfl (fun K hK => ?_) AllReadyH.nil
          go_simp
          refine hK.out _ _ HS5.out (fun _ => ?_)
          clear hK K
          try simp only [Act.put]
          refine wpAnyH_done (by kernel_rfl) ?_ _
          have HL := Lib.hid (show Fam (w5.setCell ⟨w.heap.size, f, none⟩ (.slice A' n' c')) w.heap.size 58 w.heap.size n (up V f (.slice A' n' c')) (Ls fr t kk (k + 1)) from by
            have h9 := HFAM5.out
            rw [HX.out, HY.out, ls_step HF.out] at h9
            exact h9)
          clear HFAM5 HRUN HS4 HS5 e4 e5 eV e4' e5' eV' e9 hfz d3 d4 d5 dV HLL HV HX HY HF H12
          go_wp2
          go_roundw
          case rel => exact ⟨k + 1, _, by omega, by go_num, HL.out, HBEL.out.trans ((HB2.out.mono HBEL.out.size).trans HBEL5.out)⟩
          case measure => simp [intOf]; omega
        · go_simp
          refine hK.out _ _ ⟨e4', e5'⟩ (fun _ => ?_)
          clear hK K
          try simp only [Act.put]
          refine wpAnyH_ready (rs := [5]) (by kernel_rfl) (by simp) ?_
          refine AllReadyH.cons rfl (fun K hK => ?_) AllReadyH.nil
          go_simp
          refine hK.out _ _ ⟨e4', e5'⟩ (fun _ => ?_)
          clear hK K
          try simp only [Act.put]
          refine wpAnyH_ready (rs := [17]) (by kernel_rfl) (by simp) ?_
          refine AllReadyH.cons rfl (fun K hK => ?_) AllReadyH.nil
          refine step_append_run rfl _ _ 38 rfl _ _ _ w5 rfl rfl HRUN.out ?_
          refine hK.out _ _ HS4.out (fun _ => ?_)
          clear hK K
          try simp only [Act.put]
          refine wpAnyH_take (i := 18) (v := .pointer (some ⟨w.heap.size, f, none⟩)) rfl (by kernel_rfl) (by kernel_rfl) (by kernel_rfl) (fun _ _ _ h => h) (Or.inl ⟨by rfl, fun W _ => by go_simp⟩) HS4.out ?_
          simp only [Act.put]
          refine wpAnyH_ready (rs := [19]) (by kernel_rfl) (by simp) ?_
          refine AllReadyH.cons rfl (fun K hK => ?_) AllReadyH.nil
          go_simp
          refine hK.out _ _ HS5.out (fun _ => ?_)
          clear hK K
          try simp only [Act.put]
          refine wpAnyH_done (by kernel_rfl) ?_ _
          have HL := Lib.hid (show Fam (w5.setCell ⟨w.heap.size, f, none⟩ (.slice A' n' c')) w.heap.size 58 w.heap.size n (up V f (.slice A' n' c')) (Ls fr t kk (k + 1)) from by
            have h9 := HFAM5.out
            rw [HX.out, HY.out, ls_step HF.out] at h9
            exact h9)
          clear HFAM5 HRUN HS4 HS5 e4 e5 eV e4' e5' eV' e9 hfz d3 d4 d5 dV HLL HV HX HY HF H12
          go_wp2
          go_roundw
          case rel => exact ⟨k + 1, _, by omega, by go_num, HL.out, HBEL.out.trans ((HB2.out.mono HBEL.out.size).trans HBEL5.out)⟩
          case measure => simp [intOf]; omega
    · obtain rfl : k = m := by omega
      obtain ⟨w1, hw1⟩ : ∃ x, x = wr := ⟨_, rfl⟩
      subst hw1
      have HFAM := Lib.hid hfam
      have HBEL := Lib.hid hbel
      obtain ⟨zc, hzc⟩ : ∃ c, z123.cells = c := ⟨_, rfl⟩
      have hmk2 := fun W => run_make_wide (P := Tryz.prog) 59 123 z123 27 320 zc Tryz.underlying59 info123 hzc .i64 .i64 n (by omega) (by omega) W
      clear hfam hbel hmk hzc
      go_wp2
      go_loopw [20, 21] (fun t20 t21 wr => ∃ (i : Nat) (ri : Nat → Nat), i ≤ n ∧ t20 = .int .i64 i ∧ Below w1.heap.size w1 wr ∧ Res wr w1.heap.size n ok i ri ∧ ∀ j, j < i → w1.heap.size < ri j ∧ Rep wr (ri j) (V j) (awl (tla j))) (fun t20 _ _ => n - (intOf t20).toNat)
      case atStart => exact ⟨0, fun _ => 0, Nat.zero_le _, rfl, (Below.refl _ _).alloc (Nat.le_refl _) _, res_start w1 zc n ok _, fun j hj => absurd hj (Nat.not_lt_zero j)⟩
      case round =>
        obtain ⟨i, ri, hi, rfl, hb2, hres, hrep⟩ := hrel
        have HB2 := Lib.hid hb2
        by_cases hlt2 : i < n
        · obtain ⟨b1, o1, ha1, hb1, hc1⟩ := H.out.a1 i hlt2
          obtain ⟨b2, o2, ha2, hb2', hc2⟩ := H.out.a2 i hlt2
          obtain ⟨b6, o6, ha6, hb6, hc6⟩ := H.out.a6 i hlt2
          obtain ⟨b7, o7, ha7, hb7, hc7⟩ := H.out.a7 i hlt2
          subst ha1 ha2 ha6 ha7
          have hin := hlt2
          have g1 := cell_later HBEL.out hc1
          have g2 := cell_later HBEL.out hc2
          have g6 := cell_later HBEL.out hc6
          have g7 := cell_later HBEL.out hc7
          obtain ⟨A0, c0, hV⟩ := HFAM.out.form hlt2
          have gV : w1.cell? ⟨w.heap.size, i, none⟩ = some (.slice A0 _ c0) := HFAM.out.fv.at_ hlt2 hV
          obtain ⟨len, hlen⟩ : ∃ l, l = (Ls fr t kk k i).length := ⟨_, rfl⟩
          rw [← hlen] at gV hV
          have HV := Lib.hid hV
          obtain ⟨ok1, hok⟩ : ∃ b, ok i = b := ⟨_, rfl⟩
          simp only [hok] at g1
          have d1 := cell_later hb2 g1
          have d2 := cell_later hb2 g2
          have d6 := cell_later hb2 g6
          have d7 := cell_later hb2 g7
          have dV := cell_later hb2 gV
          obtain ⟨cur, hcur, hsz, hrows⟩ := hres
          have wi : IntKind.u32.wrap (i : Int) = (i : Int) := IntWalk.u32_in _ (by omega)
          have i1 : (i : Int) < (n : Int) := by omega
          have i0 : (0 : Int) ≤ (i : Int) := by omega
          have G1 := Lib.hid g1
          have G6 := Lib.hid g6
          have G7 := Lib.hid g7
          have GV := Lib.hid gV
          clear hb2 hb1 hb2' hb6 hb7 hc1 hc2 hc6 hc7 g2 hV hlen
          have htl : tla i = true ∨ tla i = false := by cases tla i <;> simp
          rcases htl with htl | htl
          all_goals simp only [htl] at d2
          · have haw : awl (tla i) = 5 := by rw [htl]; rfl
            obtain ⟨E93, hE93⟩ : ∃ x, x = c93 A0 len c0 5 := ⟨_, rfl⟩
            obtain ⟨D, hD⟩ : ∃ x, x = c104 A0 len c0 5 := ⟨_, rfl⟩
            obtain ⟨E115, hE115⟩ : ∃ x, x = c115 i wr.heap.size := ⟨_, rfl⟩
            obtain ⟨E117, hE117⟩ : ∃ x, x = c117 i wr.heap.size := ⟨_, rfl⟩
            obtain ⟨C, hC⟩ : ∃ x, x = c123 ok1 i wr.heap.size := ⟨_, rfl⟩
            have HCI := Lib.hid (show (Tryz.prog.info? 123).map (·.size) = some C.size from by rw [hC]; exact size123c)
            have HCB := Lib.hid (show i * 27 + C.size ≤ cur.size from by rw [hC, (c123_size _ _ _).1, hsz]; omega)
            have HCA := Lib.hid (show C.all (·.oneCell') = true from by rw [hC]; exact (c123_size _ _ _).2)
            obtain ⟨W, hW⟩ : ∃ W, W = (wr.drew.alloc (.cells D 104)).setRow w1.heap.size (cur.toList.take (i * 27) ++ C.toList ++ cur.toList.drop (i * 27 + C.size)).toArray := ⟨_, rfl⟩
            have hnext := next15 (W := W) HB2.out hin hcur hsz hrows hrep HV.out haw hok (by rw [hW, hD, hC])
            have e1 := cell_later (show Below wr.heap.size wr (wr.drew.alloc (.cells D 104)) from (Below.refl _ _).drew.alloc (Nat.le_refl _) _) d1
            have e6 := cell_later (show Below wr.heap.size wr (wr.drew.alloc (.cells D 104)) from (Below.refl _ _).drew.alloc (Nat.le_refl _) _) d6
            have e7 := cell_later (show Below wr.heap.size wr (wr.drew.alloc (.cells D 104)) from (Below.refl _ _).drew.alloc (Nat.le_refl _) _) d7
            have eV := cell_later (show Below wr.heap.size wr (wr.drew.alloc (.cells D 104)) from (Below.refl _ _).drew.alloc (Nat.le_refl _) _) dV
            have HC3 := Lib.hid (show (wr.drew.alloc (.cells D 104)).heap[w1.heap.size]? = some (.cells cur 123 (0, 0)) from (((Below.refl wr.heap.size wr).drew.alloc (Nat.le_refl _) _).block _ (Array.getElem?_eq_some_iff.1 hcur).1).trans hcur)
            have HS4 := Lib.hid (show W.cell? ⟨b1, o1 + i, none⟩ = some (.bool ok1) ∧ W.cell? ⟨b6, o6 + i, none⟩ = some (.string ByteArray.empty) ∧ W.cell? ⟨b7, o7 + i, none⟩ = some (.string ByteArray.empty) ∧ W.cell? ⟨w.heap.size, i, none⟩ = some (.slice A0 len c0) from ⟨cell_later hnext.1 g1, cell_later hnext.1 g6, cell_later hnext.1 g7, cell_later hnext.1 gV⟩)
            rw [hW] at HS4
            have HSZ := Lib.hid hsz
            have HN := Lib.hid hnext
            have HW := Lib.hid hW
            clear hcur hrows hrep hsz hnext hW haw hok
            go_wp2_with fail
            refine wp_region_held_drew (S := (fun W => W.cell? ⟨b1, o1 + i, none⟩ = some (.bool ok1) ∧ W.cell? ⟨b6, o6 + i, none⟩ = some (.string ByteArray.empty) ∧ W.cell? ⟨b7, o7 + i, none⟩ = some (.string ByteArray.empty) ∧ W.cell? ⟨w.heap.size, i, none⟩ = some (.slice A0 len c0))) (by kernel_rfl) ⟨d1, d6, d7, dV⟩ (fun hHeld => ?_)
            refine take_to (i := 0) (d := some 66) (v := .slice (some ⟨w1.heap.size, 0, none⟩) n n) rfl rfl (by kernel_rfl) (by kernel_rfl) (by kernel_rfl) (fun _ _ _ h => h) (Or.inl ⟨by rfl, fun W _ => by go_simp⟩) ⟨d1, d6, d7, dV⟩ ?_
            simp only [Act.put, List.setIfInBounds_toArray, List.set_cons_zero, List.set_cons_succ]
            refine take_to (i := 1) (d := some 67) (v := .int .i64 (i : Int)) rfl rfl (by kernel_rfl) (by kernel_rfl) (by kernel_rfl) (fun _ _ _ h => h) (Or.inl ⟨by rfl, fun W _ => by go_simp⟩) ⟨d1, d6, d7, dV⟩ ?_
            simp only [Act.put, List.setIfInBounds_toArray, List.set_cons_zero, List.set_cons_succ]
            refine take_to (i := 2) (d := some 68) (v := .slice (some ⟨b1, o1, none⟩) n c1) rfl rfl (by kernel_rfl) (by kernel_rfl) (by kernel_rfl) (fun _ _ _ h => h) (Or.inl ⟨by rfl, fun W _ => by go_simp⟩) ⟨d1, d6, d7, dV⟩ ?_
            simp only [Act.put, List.setIfInBounds_toArray, List.set_cons_zero, List.set_cons_succ]
            refine take_to (i := 3) (d := some 69) (v := .int .i64 (i : Int)) rfl rfl (by kernel_rfl) (by kernel_rfl) (by kernel_rfl) (fun _ _ _ h => h) (Or.inl ⟨by rfl, fun W _ => by go_simp⟩) ⟨d1, d6, d7, dV⟩ ?_
            simp only [Act.put, List.setIfInBounds_toArray, List.set_cons_zero, List.set_cons_succ]
            refine take_to (i := 4) (d := some 70) (v := .pointer (some ⟨b1, o1 + i, none⟩)) rfl rfl (by kernel_rfl) (by kernel_rfl) (by kernel_rfl) (fun _ _ _ h => h) (Or.inl ⟨by rfl, fun W _ => by go_simp⟩) ⟨d1, d6, d7, dV⟩ ?_
            simp only [Act.put, List.setIfInBounds_toArray, List.set_cons_zero, List.set_cons_succ]
            refine take_to (i := 5) (d := some 71) (v := .bool ok1) rfl rfl (by kernel_rfl) (by kernel_rfl) (by kernel_rfl) (fun _ _ _ h => h) (Or.inl ⟨by rfl, fun W hS => by obtain ⟨hS1, hS2, hS3, hS4⟩ := hS; go_simp⟩) ⟨d1, d6, d7, dV⟩ ?_
            simp only [Act.put, List.setIfInBounds_toArray, List.set_cons_zero, List.set_cons_succ]
            refine take_to (i := 6) (d := some 72) (v := .int .i64 (i : Int)) rfl rfl (by kernel_rfl) (by kernel_rfl) (by kernel_rfl) (fun _ _ _ h => h) (Or.inl ⟨by rfl, fun W _ => by go_simp⟩) ⟨d1, d6, d7, dV⟩ ?_
            simp only [Act.put, List.setIfInBounds_toArray, List.set_cons_zero, List.set_cons_succ]
            refine take_to (i := 7) (d := some 73) (v := .int .u32 (i : Int)) rfl rfl (by kernel_rfl) (by kernel_rfl) (by kernel_rfl) (fun _ _ _ h => h) (Or.inl ⟨by rfl, fun W _ => by go_simp⟩) ⟨d1, d6, d7, dV⟩ ?_
            simp only [Act.put, List.setIfInBounds_toArray, List.set_cons_zero, List.set_cons_succ]
            refine take_to (i := 8) (d := some 74) (v := .slice (some ⟨b6, o6, none⟩) n c6) rfl rfl (by kernel_rfl) (by kernel_rfl) (by kernel_rfl) (fun _ _ _ h => h) (Or.inl ⟨by rfl, fun W _ => by go_simp⟩) ⟨d1, d6, d7, dV⟩ ?_
            simp only [Act.put, List.setIfInBounds_toArray, List.set_cons_zero, List.set_cons_succ]
            refine take_to (i := 9) (d := some 75) (v := .int .i64 (i : Int)) rfl rfl (by kernel_rfl) (by kernel_rfl) (by kernel_rfl) (fun _ _ _ h => h) (Or.inl ⟨by rfl, fun W _ => by go_simp⟩) ⟨d1, d6, d7, dV⟩ ?_
            simp only [Act.put, List.setIfInBounds_toArray, List.set_cons_zero, List.set_cons_succ]
            refine take_to (i := 10) (d := some 76) (v := .pointer (some ⟨b6, o6 + i, none⟩)) rfl rfl (by kernel_rfl) (by kernel_rfl) (by kernel_rfl) (fun _ _ _ h => h) (Or.inl ⟨by rfl, fun W _ => by go_simp⟩) ⟨d1, d6, d7, dV⟩ ?_
            simp only [Act.put, List.setIfInBounds_toArray, List.set_cons_zero, List.set_cons_succ]
            refine take_to (i := 11) (d := some 77) (v := .string ByteArray.empty) rfl rfl (by kernel_rfl) (by kernel_rfl) (by kernel_rfl) (fun _ _ _ h => h) (Or.inl ⟨by rfl, fun W hS => by obtain ⟨hS1, hS2, hS3, hS4⟩ := hS; go_simp⟩) ⟨d1, d6, d7, dV⟩ ?_
            simp only [Act.put, List.setIfInBounds_toArray, List.set_cons_zero, List.set_cons_succ]
            refine take_to (i := 12) (d := some 78) (v := .agg (#[.string ByteArray.empty, .string ByteArray.empty, .string ByteArray.empty, .string ByteArray.empty, .int .u8 0])) rfl rfl (by kernel_rfl) (by kernel_rfl) (by kernel_rfl) (fun _ _ _ h => h) (yields_build 49 _ rfl (by kernel_rfl) _ (by kernel_rfl)) ⟨d1, d6, d7, dV⟩ ?_
            simp only [Act.put, List.setIfInBounds_toArray, List.set_cons_zero, List.set_cons_succ]
            refine take_to (i := 13) (d := some 79) (v := .slice (some ⟨b7, o7, none⟩) n c7) rfl rfl (by kernel_rfl) (by kernel_rfl) (by kernel_rfl) (fun _ _ _ h => h) (Or.inl ⟨by rfl, fun W _ => by go_simp⟩) ⟨d1, d6, d7, dV⟩ ?_
            simp only [Act.put, List.setIfInBounds_toArray, List.set_cons_zero, List.set_cons_succ]
            refine take_to (i := 14) (d := some 80) (v := .int .i64 (i : Int)) rfl rfl (by kernel_rfl) (by kernel_rfl) (by kernel_rfl) (fun _ _ _ h => h) (Or.inl ⟨by rfl, fun W _ => by go_simp⟩) ⟨d1, d6, d7, dV⟩ ?_
            simp only [Act.put, List.setIfInBounds_toArray, List.set_cons_zero, List.set_cons_succ]
            refine take_to (i := 15) (d := some 81) (v := .pointer (some ⟨b7, o7 + i, none⟩)) rfl rfl (by kernel_rfl) (by kernel_rfl) (by kernel_rfl) (fun _ _ _ h => h) (Or.inl ⟨by rfl, fun W _ => by go_simp⟩) ⟨d1, d6, d7, dV⟩ ?_
            simp only [Act.put, List.setIfInBounds_toArray, List.set_cons_zero, List.set_cons_succ]
            refine take_to (i := 16) (d := some 82) (v := .string ByteArray.empty) rfl rfl (by kernel_rfl) (by kernel_rfl) (by kernel_rfl) (fun _ _ _ h => h) (Or.inl ⟨by rfl, fun W hS => by obtain ⟨hS1, hS2, hS3, hS4⟩ := hS; go_simp⟩) ⟨d1, d6, d7, dV⟩ ?_
            simp only [Act.put, List.setIfInBounds_toArray, List.set_cons_zero, List.set_cons_succ]
            refine take_to (i := 17) (d := some 83) (v := .slice (some ⟨b7, o7, none⟩) n c7) rfl rfl (by kernel_rfl) (by kernel_rfl) (by kernel_rfl) (fun _ _ _ h => h) (Or.inl ⟨by rfl, fun W _ => by go_simp⟩) ⟨d1, d6, d7, dV⟩ ?_
            simp only [Act.put, List.setIfInBounds_toArray, List.set_cons_zero, List.set_cons_succ]
            refine take_to (i := 18) (d := some 84) (v := .int .i64 (i : Int)) rfl rfl (by kernel_rfl) (by kernel_rfl) (by kernel_rfl) (fun _ _ _ h => h) (Or.inl ⟨by rfl, fun W _ => by go_simp⟩) ⟨d1, d6, d7, dV⟩ ?_
            simp only [Act.put, List.setIfInBounds_toArray, List.set_cons_zero, List.set_cons_succ]
            refine take_to (i := 19) (d := some 85) (v := .pointer (some ⟨b7, o7 + i, none⟩)) rfl rfl (by kernel_rfl) (by kernel_rfl) (by kernel_rfl) (fun _ _ _ h => h) (Or.inl ⟨by rfl, fun W _ => by go_simp⟩) ⟨d1, d6, d7, dV⟩ ?_
            simp only [Act.put, List.setIfInBounds_toArray, List.set_cons_zero, List.set_cons_succ]
            refine take_to (i := 20) (d := some 86) (v := .string ByteArray.empty) rfl rfl (by kernel_rfl) (by kernel_rfl) (by kernel_rfl) (fun _ _ _ h => h) (Or.inl ⟨by rfl, fun W hS => by obtain ⟨hS1, hS2, hS3, hS4⟩ := hS; go_simp⟩) ⟨d1, d6, d7, dV⟩ ?_
            simp only [Act.put, List.setIfInBounds_toArray, List.set_cons_zero, List.set_cons_succ]
            refine take_to (i := 21) (d := some 87) (v := .agg (#[.string ByteArray.empty, .string ByteArray.empty])) rfl rfl (by kernel_rfl) (by kernel_rfl) (by kernel_rfl) (fun _ _ _ h => h) (yields_build 61 _ rfl (by kernel_rfl) _ (by kernel_rfl)) ⟨d1, d6, d7, dV⟩ ?_
            simp only [Act.put, List.setIfInBounds_toArray, List.set_cons_zero, List.set_cons_succ]
            refine take_to (i := 22) (d := some 88) (v := .agg (c63 i)) rfl rfl (by kernel_rfl) (by kernel_rfl) (by kernel_rfl) (fun _ _ _ h => h) (yields_build 63 _ rfl (by kernel_rfl) _ (by kernel_rfl)) ⟨d1, d6, d7, dV⟩ ?_
            simp only [Act.put, List.setIfInBounds_toArray, List.set_cons_zero, List.set_cons_succ]
            refine take_to (i := 23) (d := some 89) (v := .int .i32 5) rfl rfl (by kernel_rfl) (by kernel_rfl) (by kernel_rfl) (fun _ _ _ h => h) (Or.inl ⟨by rfl, fun W _ => by go_simp⟩) ⟨d1, d6, d7, dV⟩ ?_
            simp only [Act.put, List.setIfInBounds_toArray, List.set_cons_zero, List.set_cons_succ]
            refine take_to (i := 24) (d := some 90) (v := .agg (#[.int .i32 0, .int .i32 5])) rfl rfl (by kernel_rfl) (by kernel_rfl) (by kernel_rfl) (fun _ _ _ h => h) (yields_build 53 _ rfl (by kernel_rfl) _ (by kernel_rfl)) ⟨d1, d6, d7, dV⟩ ?_
            simp only [Act.put, List.setIfInBounds_toArray, List.set_cons_zero, List.set_cons_succ]
            refine take_to (i := 25) (d := some 91) (v := .slice (some ⟨w.heap.size, 0, none⟩) n n) rfl rfl (by kernel_rfl) (by kernel_rfl) (by kernel_rfl) (fun _ _ _ h => h) (Or.inl ⟨by rfl, fun W _ => by go_simp⟩) ⟨d1, d6, d7, dV⟩ ?_
            simp only [Act.put, List.setIfInBounds_toArray, List.set_cons_zero, List.set_cons_succ]
            refine take_to (i := 26) (d := some 92) (v := .int .i64 (i : Int)) rfl rfl (by kernel_rfl) (by kernel_rfl) (by kernel_rfl) (fun _ _ _ h => h) (Or.inl ⟨by rfl, fun W _ => by go_simp⟩) ⟨d1, d6, d7, dV⟩ ?_
            simp only [Act.put, List.setIfInBounds_toArray, List.set_cons_zero, List.set_cons_succ]
            refine take_to (i := 27) (d := some 93) (v := .pointer (some ⟨w.heap.size, i, none⟩)) rfl rfl (by kernel_rfl) (by kernel_rfl) (by kernel_rfl) (fun _ _ _ h => h) (Or.inl ⟨by rfl, fun W _ => by go_simp⟩) ⟨d1, d6, d7, dV⟩ ?_
            simp only [Act.put, List.setIfInBounds_toArray, List.set_cons_zero, List.set_cons_succ]
            refine take_to (i := 28) (d := some 94) (v := .slice A0 len c0) rfl rfl (by kernel_rfl) (by kernel_rfl) (by kernel_rfl) (fun _ _ _ h => h) (Or.inl ⟨by rfl, fun W hS => by obtain ⟨hS1, hS2, hS3, hS4⟩ := hS; go_simp⟩) ⟨d1, d6, d7, dV⟩ ?_
            simp only [Act.put, List.setIfInBounds_toArray, List.set_cons_zero, List.set_cons_succ]
            refine take_to (i := 29) (d := some 95) (v := .agg (E93)) rfl rfl (by kernel_rfl) (by kernel_rfl) (by kernel_rfl) (fun _ _ _ h => h) (yields_build 93 _ rfl (by kernel_rfl) _ (by rewrite [hE93]; kernel_rfl)) ⟨d1, d6, d7, dV⟩ ?_
            simp only [Act.put, List.setIfInBounds_toArray, List.set_cons_zero, List.set_cons_succ]
            refine take_to (i := 30) (d := some 96) (v := .agg (D)) rfl rfl (by kernel_rfl) (by kernel_rfl) (by kernel_rfl) (fun _ _ _ h => h) (yields_build 104 _ rfl (by kernel_rfl) _ (by rewrite [hE93, hD]; kernel_rfl)) ⟨d1, d6, d7, dV⟩ ?_
            simp only [Act.put, List.setIfInBounds_toArray, List.set_cons_zero, List.set_cons_succ]
            refine wpAnyH_ready (rs := [31]) (by kernel_rfl) (by simp) ?_
            refine AllReadyH.cons rfl (fun K hK => ?_) AllReadyH.nil
            refine step_box rfl 104 _ rfl D rfl (some 97) rfl ?_
            refine hK.out _ _ ⟨e1, e6, e7, eV⟩ (fun _ => ?_)
            clear hK K
            try simp only [Act.put, List.setIfInBounds_toArray, List.set_cons_zero, List.set_cons_succ]
            refine take_to (i := 32) (d := some 98) (v := .iface 64 (.pointer (some ⟨wr.heap.size, 0, none⟩))) rfl rfl (by kernel_rfl) (by kernel_rfl) (by kernel_rfl) (fun _ _ _ h => h) (Or.inl ⟨by rfl, fun W _ => by go_simp⟩) ⟨e1, e6, e7, eV⟩ ?_
            simp only [Act.put, List.setIfInBounds_toArray, List.set_cons_zero, List.set_cons_succ]
            refine take_to (i := 33) (d := some 99) (v := .agg (E115)) rfl rfl (by kernel_rfl) (by kernel_rfl) (by kernel_rfl) (fun _ _ _ h => h) (yields_build 115 _ rfl (by kernel_rfl) _ (by rewrite [hE115]; kernel_rfl)) ⟨e1, e6, e7, eV⟩ ?_
            simp only [Act.put, List.setIfInBounds_toArray, List.set_cons_zero, List.set_cons_succ]
            refine take_to (i := 34) (d := some 100) (v := .agg (E117)) rfl rfl (by kernel_rfl) (by kernel_rfl) (by kernel_rfl) (fun _ _ _ h => h) (yields_build 117 _ rfl (by kernel_rfl) _ (by rewrite [hE115, hE117]; kernel_rfl)) ⟨e1, e6, e7, eV⟩ ?_
            simp only [Act.put, List.setIfInBounds_toArray, List.set_cons_zero, List.set_cons_succ]
            refine take_to (i := 35) (d := some 101) (v := .agg (C)) rfl rfl (by kernel_rfl) (by kernel_rfl) (by kernel_rfl) (fun _ _ _ h => h) (yields_build 123 _ rfl (by kernel_rfl) _ (by rewrite [hE117, hC]; kernel_rfl)) ⟨e1, e6, e7, eV⟩ ?_
            simp only [Act.put, List.setIfInBounds_toArray, List.set_cons_zero, List.set_cons_succ]
            refine take_to (i := 36) (d := some 102) (v := .pointer (some ⟨w1.heap.size, i * 27, none⟩)) rfl rfl (by kernel_rfl) (by kernel_rfl) (by kernel_rfl) (fun _ _ _ h => h) (Or.inl ⟨by rfl, fun W _ => by go_simp⟩) ⟨e1, e6, e7, eV⟩ ?_
            simp only [Act.put, List.setIfInBounds_toArray, List.set_cons_zero, List.set_cons_succ]
            refine wpAnyH_ready (rs := [37]) (by kernel_rfl) (by simp) ?_
            refine AllReadyH.cons rfl (fun K hK => ?_) AllReadyH.nil
            refine step_store_rowat rfl 123 _ _ rfl w1.heap.size (i * 27) C rfl rfl 123 cur HC3.out HCI.out HCB.out HCA.out rfl ?_
            refine hK.out _ _ HS4.out (fun _ => ?_)
            clear hK K
            try simp only [Act.put, List.setIfInBounds_toArray, List.set_cons_zero, List.set_cons_succ]
            refine wpAnyH_done (by kernel_rfl) ?_ _
            rw [← HW.out]
            clear d1 d2 d6 d7 dV e1 e6 e7 eV HC3 HS4 HSZ HW
            go_wp2
            go_roundw
            case rel => exact ⟨i + 1, _, by omega, by go_num, HN.out.1, HN.out.2.1, HN.out.2.2⟩
            case measure => simp [intOf]; omega
          · have haw : awl (tla i) = 0 := by rw [htl]; rfl
            obtain ⟨E93, hE93⟩ : ∃ x, x = c93 A0 len c0 0 := ⟨_, rfl⟩
            obtain ⟨D, hD⟩ : ∃ x, x = c104 A0 len c0 0 := ⟨_, rfl⟩
            obtain ⟨E115, hE115⟩ : ∃ x, x = c115 i wr.heap.size := ⟨_, rfl⟩
            obtain ⟨E117, hE117⟩ : ∃ x, x = c117 i wr.heap.size := ⟨_, rfl⟩
            obtain ⟨C, hC⟩ : ∃ x, x = c123 ok1 i wr.heap.size := ⟨_, rfl⟩
            have HCI := Lib.hid (show (Tryz.prog.info? 123).map (·.size) = some C.size from by rw [hC]; exact size123c)
            have HCB := Lib.hid (show i * 27 + C.size ≤ cur.size from by rw [hC, (c123_size _ _ _).1, hsz]; omega)
            have HCA := Lib.hid (show C.all (·.oneCell') = true from by rw [hC]; exact (c123_size _ _ _).2)
            obtain ⟨W, hW⟩ : ∃ W, W = (wr.drew.alloc (.cells D 104)).setRow w1.heap.size (cur.toList.take (i * 27) ++ C.toList ++ cur.toList.drop (i * 27 + C.size)).toArray := ⟨_, rfl⟩
            have hnext := next15 (W := W) HB2.out hin hcur hsz hrows hrep HV.out haw hok (by rw [hW, hD, hC])
            have e1 := cell_later (show Below wr.heap.size wr (wr.drew.alloc (.cells D 104)) from (Below.refl _ _).drew.alloc (Nat.le_refl _) _) d1
            have e6 := cell_later (show Below wr.heap.size wr (wr.drew.alloc (.cells D 104)) from (Below.refl _ _).drew.alloc (Nat.le_refl _) _) d6
            have e7 := cell_later (show Below wr.heap.size wr (wr.drew.alloc (.cells D 104)) from (Below.refl _ _).drew.alloc (Nat.le_refl _) _) d7
            have eV := cell_later (show Below wr.heap.size wr (wr.drew.alloc (.cells D 104)) from (Below.refl _ _).drew.alloc (Nat.le_refl _) _) dV
            have HC3 := Lib.hid (show (wr.drew.alloc (.cells D 104)).heap[w1.heap.size]? = some (.cells cur 123 (0, 0)) from (((Below.refl wr.heap.size wr).drew.alloc (Nat.le_refl _) _).block _ (Array.getElem?_eq_some_iff.1 hcur).1).trans hcur)
            have HS4 := Lib.hid (show W.cell? ⟨b1, o1 + i, none⟩ = some (.bool ok1) ∧ W.cell? ⟨b6, o6 + i, none⟩ = some (.string ByteArray.empty) ∧ W.cell? ⟨b7, o7 + i, none⟩ = some (.string ByteArray.empty) ∧ W.cell? ⟨w.heap.size, i, none⟩ = some (.slice A0 len c0) from ⟨cell_later hnext.1 g1, cell_later hnext.1 g6, cell_later hnext.1 g7, cell_later hnext.1 gV⟩)
            rw [hW] at HS4
            have HSZ := Lib.hid hsz
            have HN := Lib.hid hnext
            have HW := Lib.hid hW
            clear hcur hrows hrep hsz hnext hW haw hok
            go_wp2_with fail
            refine wp_region_held_drew (S := (fun W => W.cell? ⟨b1, o1 + i, none⟩ = some (.bool ok1) ∧ W.cell? ⟨b6, o6 + i, none⟩ = some (.string ByteArray.empty) ∧ W.cell? ⟨b7, o7 + i, none⟩ = some (.string ByteArray.empty) ∧ W.cell? ⟨w.heap.size, i, none⟩ = some (.slice A0 len c0))) (by kernel_rfl) ⟨d1, d6, d7, dV⟩ (fun hHeld => ?_)
            refine take_to (i := 0) (d := some 66) (v := .slice (some ⟨w1.heap.size, 0, none⟩) n n) rfl rfl (by kernel_rfl) (by kernel_rfl) (by kernel_rfl) (fun _ _ _ h => h) (Or.inl ⟨by rfl, fun W _ => by go_simp⟩) ⟨d1, d6, d7, dV⟩ ?_
            simp only [Act.put, List.setIfInBounds_toArray, List.set_cons_zero, List.set_cons_succ]
            refine take_to (i := 1) (d := some 67) (v := .int .i64 (i : Int)) rfl rfl (by kernel_rfl) (by kernel_rfl) (by kernel_rfl) (fun _ _ _ h => h) (Or.inl ⟨by rfl, fun W _ => by go_simp⟩) ⟨d1, d6, d7, dV⟩ ?_
            simp only [Act.put, List.setIfInBounds_toArray, List.set_cons_zero, List.set_cons_succ]
            refine take_to (i := 2) (d := some 68) (v := .slice (some ⟨b1, o1, none⟩) n c1) rfl rfl (by kernel_rfl) (by kernel_rfl) (by kernel_rfl) (fun _ _ _ h => h) (Or.inl ⟨by rfl, fun W _ => by go_simp⟩) ⟨d1, d6, d7, dV⟩ ?_
            simp only [Act.put, List.setIfInBounds_toArray, List.set_cons_zero, List.set_cons_succ]
            refine take_to (i := 3) (d := some 69) (v := .int .i64 (i : Int)) rfl rfl (by kernel_rfl) (by kernel_rfl) (by kernel_rfl) (fun _ _ _ h => h) (Or.inl ⟨by rfl, fun W _ => by go_simp⟩) ⟨d1, d6, d7, dV⟩ ?_
            simp only [Act.put, List.setIfInBounds_toArray, List.set_cons_zero, List.set_cons_succ]
            refine take_to (i := 4) (d := some 70) (v := .pointer (some ⟨b1, o1 + i, none⟩)) rfl rfl (by kernel_rfl) (by kernel_rfl) (by kernel_rfl) (fun _ _ _ h => h) (Or.inl ⟨by rfl, fun W _ => by go_simp⟩) ⟨d1, d6, d7, dV⟩ ?_
            simp only [Act.put, List.setIfInBounds_toArray, List.set_cons_zero, List.set_cons_succ]
            refine take_to (i := 5) (d := some 71) (v := .bool ok1) rfl rfl (by kernel_rfl) (by kernel_rfl) (by kernel_rfl) (fun _ _ _ h => h) (Or.inl ⟨by rfl, fun W hS => by obtain ⟨hS1, hS2, hS3, hS4⟩ := hS; go_simp⟩) ⟨d1, d6, d7, dV⟩ ?_
            simp only [Act.put, List.setIfInBounds_toArray, List.set_cons_zero, List.set_cons_succ]
            refine take_to (i := 6) (d := some 72) (v := .int .i64 (i : Int)) rfl rfl (by kernel_rfl) (by kernel_rfl) (by kernel_rfl) (fun _ _ _ h => h) (Or.inl ⟨by rfl, fun W _ => by go_simp⟩) ⟨d1, d6, d7, dV⟩ ?_
            simp only [Act.put, List.setIfInBounds_toArray, List.set_cons_zero, List.set_cons_succ]
            refine take_to (i := 7) (d := some 73) (v := .int .u32 (i : Int)) rfl rfl (by kernel_rfl) (by kernel_rfl) (by kernel_rfl) (fun _ _ _ h => h) (Or.inl ⟨by rfl, fun W _ => by go_simp⟩) ⟨d1, d6, d7, dV⟩ ?_
            simp only [Act.put, List.setIfInBounds_toArray, List.set_cons_zero, List.set_cons_succ]
            refine take_to (i := 8) (d := some 74) (v := .slice (some ⟨b6, o6, none⟩) n c6) rfl rfl (by kernel_rfl) (by kernel_rfl) (by kernel_rfl) (fun _ _ _ h => h) (Or.inl ⟨by rfl, fun W _ => by go_simp⟩) ⟨d1, d6, d7, dV⟩ ?_
            simp only [Act.put, List.setIfInBounds_toArray, List.set_cons_zero, List.set_cons_succ]
            refine take_to (i := 9) (d := some 75) (v := .int .i64 (i : Int)) rfl rfl (by kernel_rfl) (by kernel_rfl) (by kernel_rfl) (fun _ _ _ h => h) (Or.inl ⟨by rfl, fun W _ => by go_simp⟩) ⟨d1, d6, d7, dV⟩ ?_
            simp only [Act.put, List.setIfInBounds_toArray, List.set_cons_zero, List.set_cons_succ]
            refine take_to (i := 10) (d := some 76) (v := .pointer (some ⟨b6, o6 + i, none⟩)) rfl rfl (by kernel_rfl) (by kernel_rfl) (by kernel_rfl) (fun _ _ _ h => h) (Or.inl ⟨by rfl, fun W _ => by go_simp⟩) ⟨d1, d6, d7, dV⟩ ?_
            simp only [Act.put, List.setIfInBounds_toArray, List.set_cons_zero, List.set_cons_succ]
            refine take_to (i := 11) (d := some 77) (v := .string ByteArray.empty) rfl rfl (by kernel_rfl) (by kernel_rfl) (by kernel_rfl) (fun _ _ _ h => h) (Or.inl ⟨by rfl, fun W hS => by obtain ⟨hS1, hS2, hS3, hS4⟩ := hS; go_simp⟩) ⟨d1, d6, d7, dV⟩ ?_
            simp only [Act.put, List.setIfInBounds_toArray, List.set_cons_zero, List.set_cons_succ]
            refine take_to (i := 12) (d := some 78) (v := .agg (#[.string ByteArray.empty, .string ByteArray.empty, .string ByteArray.empty, .string ByteArray.empty, .int .u8 0])) rfl rfl (by kernel_rfl) (by kernel_rfl) (by kernel_rfl) (fun _ _ _ h => h) (yields_build 49 _ rfl (by kernel_rfl) _ (by kernel_rfl)) ⟨d1, d6, d7, dV⟩ ?_
            simp only [Act.put, List.setIfInBounds_toArray, List.set_cons_zero, List.set_cons_succ]
            refine take_to (i := 13) (d := some 79) (v := .slice (some ⟨b7, o7, none⟩) n c7) rfl rfl (by kernel_rfl) (by kernel_rfl) (by kernel_rfl) (fun _ _ _ h => h) (Or.inl ⟨by rfl, fun W _ => by go_simp⟩) ⟨d1, d6, d7, dV⟩ ?_
            simp only [Act.put, List.setIfInBounds_toArray, List.set_cons_zero, List.set_cons_succ]
            refine take_to (i := 14) (d := some 80) (v := .int .i64 (i : Int)) rfl rfl (by kernel_rfl) (by kernel_rfl) (by kernel_rfl) (fun _ _ _ h => h) (Or.inl ⟨by rfl, fun W _ => by go_simp⟩) ⟨d1, d6, d7, dV⟩ ?_
            simp only [Act.put, List.setIfInBounds_toArray, List.set_cons_zero, List.set_cons_succ]
            refine take_to (i := 15) (d := some 81) (v := .pointer (some ⟨b7, o7 + i, none⟩)) rfl rfl (by kernel_rfl) (by kernel_rfl) (by kernel_rfl) (fun _ _ _ h => h) (Or.inl ⟨by rfl, fun W _ => by go_simp⟩) ⟨d1, d6, d7, dV⟩ ?_
            simp only [Act.put, List.setIfInBounds_toArray, List.set_cons_zero, List.set_cons_succ]
            refine take_to (i := 16) (d := some 82) (v := .string ByteArray.empty) rfl rfl (by kernel_rfl) (by kernel_rfl) (by kernel_rfl) (fun _ _ _ h => h) (Or.inl ⟨by rfl, fun W hS => by obtain ⟨hS1, hS2, hS3, hS4⟩ := hS; go_simp⟩) ⟨d1, d6, d7, dV⟩ ?_
            simp only [Act.put, List.setIfInBounds_toArray, List.set_cons_zero, List.set_cons_succ]
            refine take_to (i := 17) (d := some 83) (v := .slice (some ⟨b7, o7, none⟩) n c7) rfl rfl (by kernel_rfl) (by kernel_rfl) (by kernel_rfl) (fun _ _ _ h => h) (Or.inl ⟨by rfl, fun W _ => by go_simp⟩) ⟨d1, d6, d7, dV⟩ ?_
            simp only [Act.put, List.setIfInBounds_toArray, List.set_cons_zero, List.set_cons_succ]
            refine take_to (i := 18) (d := some 84) (v := .int .i64 (i : Int)) rfl rfl (by kernel_rfl) (by kernel_rfl) (by kernel_rfl) (fun _ _ _ h => h) (Or.inl ⟨by rfl, fun W _ => by go_simp⟩) ⟨d1, d6, d7, dV⟩ ?_
            simp only [Act.put, List.setIfInBounds_toArray, List.set_cons_zero, List.set_cons_succ]
            refine take_to (i := 19) (d := some 85) (v := .pointer (some ⟨b7, o7 + i, none⟩)) rfl rfl (by kernel_rfl) (by kernel_rfl) (by kernel_rfl) (fun _ _ _ h => h) (Or.inl ⟨by rfl, fun W _ => by go_simp⟩) ⟨d1, d6, d7, dV⟩ ?_
            simp only [Act.put, List.setIfInBounds_toArray, List.set_cons_zero, List.set_cons_succ]
            refine take_to (i := 20) (d := some 86) (v := .string ByteArray.empty) rfl rfl (by kernel_rfl) (by kernel_rfl) (by kernel_rfl) (fun _ _ _ h => h) (Or.inl ⟨by rfl, fun W hS => by obtain ⟨hS1, hS2, hS3, hS4⟩ := hS; go_simp⟩) ⟨d1, d6, d7, dV⟩ ?_
            simp only [Act.put, List.setIfInBounds_toArray, List.set_cons_zero, List.set_cons_succ]
            refine take_to (i := 21) (d := some 87) (v := .agg (#[.string ByteArray.empty, .string ByteArray.empty])) rfl rfl (by kernel_rfl) (by kernel_rfl) (by kernel_rfl) (fun _ _ _ h => h) (yields_build 61 _ rfl (by kernel_rfl) _ (by kernel_rfl)) ⟨d1, d6, d7, dV⟩ ?_
            simp only [Act.put, List.setIfInBounds_toArray, List.set_cons_zero, List.set_cons_succ]
            refine take_to (i := 22) (d := some 88) (v := .agg (c63 i)) rfl rfl (by kernel_rfl) (by kernel_rfl) (by kernel_rfl) (fun _ _ _ h => h) (yields_build 63 _ rfl (by kernel_rfl) _ (by kernel_rfl)) ⟨d1, d6, d7, dV⟩ ?_
            simp only [Act.put, List.setIfInBounds_toArray, List.set_cons_zero, List.set_cons_succ]
            refine take_to (i := 23) (d := some 89) (v := .int .i32 0) rfl rfl (by kernel_rfl) (by kernel_rfl) (by kernel_rfl) (fun _ _ _ h => h) (Or.inl ⟨by rfl, fun W _ => by go_simp⟩) ⟨d1, d6, d7, dV⟩ ?_
            simp only [Act.put, List.setIfInBounds_toArray, List.set_cons_zero, List.set_cons_succ]
            refine take_to (i := 24) (d := some 90) (v := .agg (#[.int .i32 0, .int .i32 0])) rfl rfl (by kernel_rfl) (by kernel_rfl) (by kernel_rfl) (fun _ _ _ h => h) (yields_build 53 _ rfl (by kernel_rfl) _ (by kernel_rfl)) ⟨d1, d6, d7, dV⟩ ?_
            simp only [Act.put, List.setIfInBounds_toArray, List.set_cons_zero, List.set_cons_succ]
            refine take_to (i := 25) (d := some 91) (v := .slice (some ⟨w.heap.size, 0, none⟩) n n) rfl rfl (by kernel_rfl) (by kernel_rfl) (by kernel_rfl) (fun _ _ _ h => h) (Or.inl ⟨by rfl, fun W _ => by go_simp⟩) ⟨d1, d6, d7, dV⟩ ?_
            simp only [Act.put, List.setIfInBounds_toArray, List.set_cons_zero, List.set_cons_succ]
            refine take_to (i := 26) (d := some 92) (v := .int .i64 (i : Int)) rfl rfl (by kernel_rfl) (by kernel_rfl) (by kernel_rfl) (fun _ _ _ h => h) (Or.inl ⟨by rfl, fun W _ => by go_simp⟩) ⟨d1, d6, d7, dV⟩ ?_
            simp only [Act.put, List.setIfInBounds_toArray, List.set_cons_zero, List.set_cons_succ]
            refine take_to (i := 27) (d := some 93) (v := .pointer (some ⟨w.heap.size, i, none⟩)) rfl rfl (by kernel_rfl) (by kernel_rfl) (by kernel_rfl) (fun _ _ _ h => h) (Or.inl ⟨by rfl, fun W _ => by go_simp⟩) ⟨d1, d6, d7, dV⟩ ?_
            simp only [Act.put, List.setIfInBounds_toArray, List.set_cons_zero, List.set_cons_succ]
            refine take_to (i := 28) (d := some 94) (v := .slice A0 len c0) rfl rfl (by kernel_rfl) (by kernel_rfl) (by kernel_rfl) (fun _ _ _ h => h) (Or.inl ⟨by rfl, fun W hS => by obtain ⟨hS1, hS2, hS3, hS4⟩ := hS; go_simp⟩) ⟨d1, d6, d7, dV⟩ ?_
            simp only [Act.put, List.setIfInBounds_toArray, List.set_cons_zero, List.set_cons_succ]
            refine take_to (i := 29) (d := some 95) (v := .agg (E93)) rfl rfl (by kernel_rfl) (by kernel_rfl) (by kernel_rfl) (fun _ _ _ h => h) (yields_build 93 _ rfl (by kernel_rfl) _ (by rewrite [hE93]; kernel_rfl)) ⟨d1, d6, d7, dV⟩ ?_
            simp only [Act.put, List.setIfInBounds_toArray, List.set_cons_zero, List.set_cons_succ]
            refine take_to (i := 30) (d := some 96) (v := .agg (D)) rfl rfl (by kernel_rfl) (by kernel_rfl) (by kernel_rfl) (fun _ _ _ h => h) (yields_build 104 _ rfl (by kernel_rfl) _ (by rewrite [hE93, hD]; kernel_rfl)) ⟨d1, d6, d7, dV⟩ ?_
            simp only [Act.put, List.setIfInBounds_toArray, List.set_cons_zero, List.set_cons_succ]
            refine wpAnyH_ready (rs := [31]) (by kernel_rfl) (by simp) ?_
            refine AllReadyH.cons rfl (fun K hK => ?_) AllReadyH.nil
            refine step_box rfl 104 _ rfl D rfl (some 97) rfl ?_
            refine hK.out _ _ ⟨e1, e6, e7, eV⟩ (fun _ => ?_)
            clear hK K
            try simp only [Act.put, List.setIfInBounds_toArray, List.set_cons_zero, List.set_cons_succ]
            refine take_to (i := 32) (d := some 98) (v := .iface 64 (.pointer (some ⟨wr.heap.size, 0, none⟩))) rfl rfl (by kernel_rfl) (by kernel_rfl) (by kernel_rfl) (fun _ _ _ h => h) (Or.inl ⟨by rfl, fun W _ => by go_simp⟩) ⟨e1, e6, e7, eV⟩ ?_
            simp only [Act.put, List.setIfInBounds_toArray, List.set_cons_zero, List.set_cons_succ]
            refine take_to (i := 33) (d := some 99) (v := .agg (E115)) rfl rfl (by kernel_rfl) (by kernel_rfl) (by kernel_rfl) (fun _ _ _ h => h) (yields_build 115 _ rfl (by kernel_rfl) _ (by rewrite [hE115]; kernel_rfl)) ⟨e1, e6, e7, eV⟩ ?_
            simp only [Act.put, List.setIfInBounds_toArray, List.set_cons_zero, List.set_cons_succ]
            refine take_to (i := 34) (d := some 100) (v := .agg (E117)) rfl rfl (by kernel_rfl) (by kernel_rfl) (by kernel_rfl) (fun _ _ _ h => h) (yields_build 117 _ rfl (by kernel_rfl) _ (by rewrite [hE115, hE117]; kernel_rfl)) ⟨e1, e6, e7, eV⟩ ?_
            simp only [Act.put, List.setIfInBounds_toArray, List.set_cons_zero, List.set_cons_succ]
            refine take_to (i := 35) (d := some 101) (v := .agg (C)) rfl rfl (by kernel_rfl) (by kernel_rfl) (by kernel_rfl) (fun _ _ _ h => h) (yields_build 123 _ rfl (by kernel_rfl) _ (by rewrite [hE117, hC]; kernel_rfl)) ⟨e1, e6, e7, eV⟩ ?_
            simp only [Act.put, List.setIfInBounds_toArray, List.set_cons_zero, List.set_cons_succ]
            refine take_to (i := 36) (d := some 102) (v := .pointer (some ⟨w1.heap.size, i * 27, none⟩)) rfl rfl (by kernel_rfl) (by kernel_rfl) (by kernel_rfl) (fun _ _ _ h => h) (Or.inl ⟨by rfl, fun W _ => by go_simp⟩) ⟨e1, e6, e7, eV⟩ ?_
            simp only [Act.put, List.setIfInBounds_toArray, List.set_cons_zero, List.set_cons_succ]
            refine wpAnyH_ready (rs := [37]) (by kernel_rfl) (by simp) ?_
            refine AllReadyH.cons rfl (fun K hK => ?_) AllReadyH.nil
            refine step_store_rowat rfl 123 _ _ rfl w1.heap.size (i * 27) C rfl rfl 123 cur HC3.out HCI.out HCB.out HCA.out rfl ?_
            refine hK.out _ _ HS4.out (fun _ => ?_)
            clear hK K
            try simp only [Act.put, List.setIfInBounds_toArray, List.set_cons_zero, List.set_cons_succ]
            refine wpAnyH_done (by kernel_rfl) ?_ _
            rw [← HW.out]
            clear d1 d2 d6 d7 dV e1 e6 e7 eV HC3 HS4 HSZ HW
            go_wp2
            go_roundw
            case rel => exact ⟨i + 1, _, by omega, by go_num, HN.out.1, HN.out.2.1, HN.out.2.2⟩
            case measure => simp [intOf]; omega
        · obtain rfl : i = n := by omega
          have HRES := Lib.hid hres
          have HREP := Lib.hid hrep
          have h13 := log13 wr
          have H13 := Lib.hid h13
          clear hres hrep hb2 h13 hmk2
          go_wp2_with fail
          refine H13.out.mono ?_
          rintro e w3 ⟨v, rfl, ⟨va, vb, vc, vd, rfl⟩, hb3⟩
          have HB3 := Lib.hid hb3
          clear hb3
          have hmm := @run_makeMap Tryz.prog 134 w3
          go_wp2_with (refine wpList_buildTo rfl 183 _ rfl (some 106) rfl (c183 va vb vc vd w1.heap.size i w3.heap.size) (by kernel_rfl) ?_)
          have hRl : w1.heap.size < wr.heap.size := by obtain ⟨cur, h1, _⟩ := HRES.out; exact (Array.getElem?_eq_some_iff.1 h1).1
          have hb5 : Below wr.heap.size wr ((w3.alloc (.map #[] 0)).alloc (.cells (c183 va vb vc vd w1.heap.size i w3.heap.size) 183)) := (HB3.out.alloc HB3.out.size _).alloc (by have := HB3.out.size; simp; omega) _
          have hrow := Row.newArr (w3.alloc (.map #[] 0)) 183 (c183 va vb vc vd w1.heap.size i w3.heap.size)
          have hS := hrow.at_ (i := 11) (v := .slice (some ⟨w1.heap.size, 0, none⟩) i i) (by rw [Array.getElem?_toList]; exact c183_11 va vb vc vd _ _ _)
          have hlt9 := hrow.lt
          have hsz9 : (w3.alloc (.map #[] 0)).heap.size = w3.heap.size + 1 := by simp
          rw [hsz9] at hS hlt9
          have HNEW := Lib.hid (new_of hn hm HT.out HK.out HFAM.out HBEL.out (HB2.out.trans (hb5.mono (Nat.le_of_lt hRl))) (res_later HRES.out hb5) (fun j hj => ⟨(HREP.out j hj).1, rep_later (HREP.out j hj).2 hb5⟩) hS (by have := HB3.out.size; omega) hlt9)
          clear hS hlt9 hsz9 hrow hb5 hmm
          go_ret
          exact HNEW.out
end Go.Proofs.YtbcplamfejihjaaGreat.TlM
