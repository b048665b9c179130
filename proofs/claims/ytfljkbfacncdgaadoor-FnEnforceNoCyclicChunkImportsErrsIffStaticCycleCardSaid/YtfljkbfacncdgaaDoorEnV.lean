/- FnEnforceNoCyclicChunkImportsErrsIffStaticCycle: the verdict, the law. -/
import Derived.Test.YtfljkbfacncdgaaDoorRows
import Derived.Test.YtfljkbfacncdgaaDoorMem
import Derived.Test.YtfljkbfacncdgaaDoorSl
import Derived.Test.YtfljkbfacncdgaaDoorEnD
import Derived.Test.YtfljkbfacncdgaaDoorEnK
import Derived.Deep.RegionHeld3
import Derived.WalkKit
import Derived.ProofKit
import Derived.OpenShut
import Derived.Below
import Derived.WalkLawsBesides
import Derived.Lib.Hide
import Derived.Outline
import Derived.RegionTactic
import Derived.Deep.QuietTactic
import Derived.BigQuiet
import Derived.WalkSpells
import Derived.Deep.OwnRows
import Derived.IntWalk
import Derived.Deep.DeepMust
namespace Go.Proofs.YtfljkbfacncdgaaDoor.EnV
open Go.RowKit Mem Sl
set_option linter.unusedVariables false
open Args Fvs EnA EnL EnF EnN EnD EnK
open EnP (Gr E Fits IsRank Ranked Blk Pre Fwd)

theorem enf12 (g : Gr) (c kb M : Nat) (V : Nat → Value) (w : World) (hf : Fits g) (hm : g.m ≤ 4096) (hn : g.n ≤ 4096) (h : Cx w c kb M g.n V (adjA g g.m) false) :
    Calls Tryd.prog 12 #[.pointer (some ⟨c, 0, none⟩)] w (Ed g c kb M V w) := by
  have H := Lib.hid (enf15 g c kb M V w hf hm hn h)
  clear h hf
  go_enter Tryd.func12, Tryd.ntmps12
  go_wp2_with fail
  refine H.out.mono ?_
  rintro e w1 ⟨rfl, h1⟩
  have H1 := Lib.hid h1
  clear h1
  go_wp2
  go_end0
  exact ⟨rfl, H1.out⟩
theorem has13 (c kb M n : Nat) (V : Nat → Value) (L : Nat → List (Int × Int)) (e0 : Bool) (w : World) (h : Cx w c kb M n V L e0) : Calls Tryd.prog 13 #[.pointer (some ⟨c, 0, none⟩)] w (Lh M e0 w) := by
  have l1 := h.l1
  have HL := Lib.hid h.lg
  clear h
  go_enter Tryd.func13, Tryd.ntmps13
  go_wp2_with fail
  refine (has23 M e0 w HL.out).mono ?_
  rintro e w1 ⟨rfl, h1⟩
  have H1 := Lib.hid h1
  clear h1
  go_wp2
  go_ret
  exact ⟨rfl, H1.out⟩
theorem s3_keep {w wr w3 : World} {c kb M n k q1 o1 q2 o2 q3 o3 : Nat} {V : Nat → Value} {L : Nat → List (Int × Int)} {v1 v2 v3 : Value} (hb : Below w.heap.size w wr) (hc : Cx wr c kb M n V L false) (hk : w.heap.size ≤ kb) (d1 : q1 < w.heap.size) (d2 : q2 < w.heap.size) (d3 : q3 < w.heap.size) (e1 : wr.cell? ⟨q1, o1 + k, none⟩ = some v1) (e2 : wr.cell? ⟨q2, o2 + k, none⟩ = some v2) (e3 : wr.cell? ⟨q3, o3 + k, none⟩ = some v3)
    (f : Fx (fun j => j = kb ∨ c + 1 ≤ j) wr.drew w3) : w3.cell? ⟨q1, o1 + k, none⟩ = some v1 ∧ w3.cell? ⟨q2, o2 + k, none⟩ = some v2 ∧ w3.cell? ⟨q3, o3 + k, none⟩ = some v3 := by
  have h1 := hc.Kc
  have h2 := hb.size
  have hs : wr.drew.heap.size = wr.heap.size := rfl
  exact ⟨(f.cell (by omega) (by omega)).trans e1, (f.cell (by omega) (by omega)).trans e2, (f.cell (by omega) (by omega)).trans e3⟩
/-- The verdict. -/
def Ve (g : Gr) (w : World) (e : Ending) (w' : World) : Prop := ∃ b, e = .returned (.bool b) ∧ (b = true ↔ ¬ Ranked g) ∧ Below w.heap.size w w'
set_option maxRecDepth 100000 in
set_option maxHeartbeats 8000000 in
theorem ver8 (g : Gr) (hf : Fits g) (A1 A2 A3 : Option Addr) (c1 c2 c3 : Nat) (w : World) (h1 : Rs w A1 g.m (fun i => .int .u32 (g.fr i))) (h2 : Rs w A2 g.m (fun i => .int .u32 (g.t i))) (h3 : Rs w A3 g.m (fun i => .bool (g.dy i))) (hn : g.n ≤ 4096) (hm : g.m ≤ 4096) :
    Calls Tryd.prog 8 #[.int .i64 (g.n : Int), .slice A1 g.m c1, .slice A2 g.m c2, .slice A3 g.m c3] w (Ve g w) := by
  have H1 := Lib.hid h1
  have H2 := Lib.hid h2
  have H3 := Lib.hid h3
  have HF := Lib.hid hf
  clear h1 h2 h3 hf
  go_enter Tryd.func8, Tryd.ntmps8
  go_wp2_with fail
  refine (new10 g.n w hn).mono ?_
  rintro e w1 ⟨⟨v, rfl, c, kb, M, rfl, hK, hM, hc⟩, hb⟩
  have HC := Lib.hid hc
  have HB := Lib.hid hb
  have HK := Lib.hid hK
  have HM := Lib.hid hM
  clear hc hb hK hM
  go_wp2
  go_loopw [10] (fun i wr => ∃ (k : Nat) (V : Nat → Value), k ≤ g.m ∧ i = .int .i64 k ∧ Cx wr c kb M g.n V (adjA g k) false ∧ Below w.heap.size w wr) (fun i _ => g.m - (intOf i).toNat)
  case atStart => exact ⟨0, _, Nat.zero_le _, rfl, HC.out, HB.out⟩
  case round =>
    clear HC HB
    obtain ⟨k, V, hk, rfl, hc, hb⟩ := hrel
    by_cases hlt : k < g.m
    · obtain ⟨x, hx⟩ : ∃ x, x = g.fr k := ⟨_, rfl⟩
      obtain ⟨y, hy⟩ : ∃ y, y = g.t k := ⟨_, rfl⟩
      obtain ⟨d, hd⟩ : ∃ d, d = g.dy k := ⟨_, rfl⟩
      have hxn : x < g.n := by rw [hx]; exact (HF.out k hlt).1
      obtain ⟨q1, o1, rfl, d1, e1⟩ := rs_at H1.out hlt (v := .int .u32 x) (by rw [hx]) hb rfl
      obtain ⟨q2, o2, rfl, d2, e2⟩ := rs_at H2.out hlt (v := .int .u32 y) (by rw [hy]) hb rfl
      obtain ⟨q3, o3, rfl, d3, e3⟩ := rs_at H3.out hlt (v := .bool d) (by rw [hd]) hb rfl
      have HC := Lib.hid hc
      have HB := Lib.hid hb
      have HX := Lib.hid hx
      have HY := Lib.hid hy
      have HD := Lib.hid hd
      have HL := Lib.hid (Nat.le_trans (adjA_len g k x) (Nat.le_trans (Nat.le_of_lt hlt) hm))
      have HXN := Lib.hid hxn
      clear hc hb hx hy hd hxn
      go_wp2_with fail
      go_region_held3 (fun W => W.cell? ⟨q1, o1 + k, none⟩ = some (.int .u32 x) ∧ W.cell? ⟨q2, o2 + k, none⟩ = some (.int .u32 y) ∧ W.cell? ⟨q3, o3 + k, none⟩ = some (.bool d)) (first | exact ⟨e1, e2, e3⟩ | exact S3.out) (first | (go_at_call 11; (with_reducible refine (add11 _ c kb M g.n x V (adjA g k) (y : Int) d (HC.out.later (Below.refl _ _).drew) HXN.out hn HL.out).mono ?_); rintro e w3 ⟨rfl, ⟨V', hc3⟩, hf3⟩; have S3 := Lib.hid (show w3.cell? ⟨q1, o1 + k, none⟩ = some (.int .u32 x) ∧ w3.cell? ⟨q2, o2 + k, none⟩ = some (.int .u32 y) ∧ w3.cell? ⟨q3, o3 + k, none⟩ = some (.bool d) from s3_keep HB.out HC.out HK.out d1 d2 d3 e1 e2 e3 hf3); have HC3 := Lib.hid hc3; have HF3 := Lib.hid hf3; clear hc3 hf3))
      have HN := Lib.hid (show Cx w3 c kb M g.n V' (adjA g (k + 1)) false by
        have h9 := HC3.out
        rw [HY.out, HD.out, adjA_step HX.out.symm] at h9
        exact h9)
      have HB3 := Lib.hid (show Below w.heap.size w w3 from HB.out.trans ((Below.refl _ _).drew.trans (HF3.out.below (by have := HB.out.size; exact this) (fun j hj => by have := HK.out; have := HC.out.Kc; omega))))
      clear HC3 HF3 S3 e1 e2 e3
      go_wp2
      go_roundw
      case rel => exact ⟨k + 1, V', by omega, by go_num, HN.out, HB3.out⟩
      case measure => simp [intOf]; omega
    · obtain rfl : k = g.m := by omega
      have HC := Lib.hid hc
      have HB := Lib.hid hb
      clear hc hb
      go_wp2_with fail
      refine (enf12 g c kb M V _ HF.out hm hn HC.out).mono ?_
      rintro e w3 ⟨rfl, e0, hc3, hiff, hf3⟩
      have HC3 := Lib.hid hc3
      have HI := Lib.hid hiff
      have HB3 := Lib.hid (show Below w.heap.size w w3 from HB.out.trans (hf3.below HB.out.size (fun j hj => by have := HM.out; omega)))
      clear hc3 hiff hf3
      go_wp2_with fail
      refine (has13 c kb M g.n V _ e0 w3 HC3.out).mono ?_
      rintro e w4 ⟨rfl, _, hf4⟩
      have HB4 := Lib.hid (show Below w.heap.size w w4 from HB3.out.trans (hf4.below HB3.out.size (fun j hj => by have := HM.out; omega)))
      clear hf4
      go_wp2
      go_ret
      exact ⟨e0, rfl, HI.out, HB4.out⟩
theorem rs_congr {w : World} {A : Option Addr} {n : Nat} {V V' : Nat → Value} (h : Rs w A n V) (e : ∀ i, i < n → V i = V' i) : Rs w A n V' := fun i hi => by
  obtain ⟨b, o, h1, h2, h3⟩ := h i hi
  exact ⟨b, o, h1, h2, by rw [← e i hi]; exact h3⟩
theorem at_nn {zs : List Int} (h : ∀ z ∈ zs, (Lit.int .u32 z).wf = true) (i : Nat) : 0 ≤ zs.getD i 0 := by
  by_cases hi : i < zs.length
  · have hm : zs.getD i 0 ∈ zs := by simp [List.getD, hi]
    exact (bounds_u32 (h _ hm)).1
  · simp [List.getD, hi]
set_option maxRecDepth 100000 in
set_option maxHeartbeats 8000000 in
theorem law0 (a0 : Int) (A1 : Option Addr) (n1 c1 : Nat) (z1 : List Int) (A2 : Option Addr) (n2 c2 : Nat) (z2 : List Int) (A3 : Option Addr) (n3 c3 : Nat) (z3 : List Bool) (w : World) (w0 : (Lit.int .i64 a0).wf = true) (w1 : Args.IsInts .u32 w A1 n1 c1 z1) (w2 : Args.IsInts .u32 w A2 n2 c2 z2) (w3 : Args.IsBools w A3 n3 c3 z3) :
    Calls Tryd.prog 3 #[.int .i64 a0, .slice A1 n1 c1, .slice A2 n2 c2, .slice A3 n3 c3] w fun e w' => e = .returned (.bool true) ∧ Below w.heap.size w w' := by
  have m1 : n1 ≤ maxLen := Nat.le_trans w1.1 w1.2.1
  have m2 : n2 ≤ maxLen := Nat.le_trans w2.1 w2.2.1
  have m3 : n3 ≤ maxLen := Nat.le_trans w3.1 w3.2.1
  have BY := Lib.hid (bytes4 a0 A1 n1 c1 A2 n2 c2 A3 n3 c3 w m1 m2 m3)
  have k1 : A1 = none → n1 = 0 ∧ c1 = 0 := fun h => by have := w1.2.2.2.2.1 h; have := w1.1; omega
  have k2 : A2 = none → n2 = 0 ∧ c2 = 0 := fun h => by have := w2.2.2.2.2.1 h; have := w2.1; omega
  have k3 : A3 = none → n3 = 0 ∧ c3 = 0 := fun h => by have := w3.2.2.2.1 h; have := w3.1; omega
  have K1 := Lib.hid k1
  have K2 := Lib.hid k2
  have K3 := Lib.hid k3
  have R1 := Lib.hid (Rs.of_ints w1)
  have R2 := Lib.hid (Rs.of_ints w2)
  have R3 := Lib.hid (Rs.of_bools w3)
  have P1 := Lib.hid (at_nn w1.2.2.2.1)
  have P2 := Lib.hid (at_nn w2.2.2.2.1)
  unfold maxLen at m1 m2 m3
  clear w0 w1 w2 w3 k1 k2 k3
  by_cases hs : n1 + n2 + n3 ≤ 1048576
  case neg =>
    have e : decide (n1 + n2 + n3 ≤ 1048576) = false := by simpa using hs
    rw [e] at BY
    clear hs e m1 m2 m3
    go_enter Tryd.func3, Tryd.ntmps3
    go_wp2_with fail
    refine BY.out.mono ?_
    rintro e wx ⟨rfl, rfl⟩
    go_wp2
    go_ret
    exact ⟨rfl, Below.refl _ _⟩
  have e : decide (n1 + n2 + n3 ≤ 1048576) = true := by simpa using hs
  rw [e] at BY
  have t1 : decide ((1048576 : Int) < (n1 : Int)) = false := by simp; omega
  have t2 : decide ((1048576 : Int) < (n2 : Int)) = false := by simp; omega
  have t3 : decide ((1048576 : Int) < (n3 : Int)) = false := by simp; omega
  clear e
  go_enter Tryd.func3, Tryd.ntmps3
  go_wp2_with fail
  refine BY.out.mono ?_
  rintro e wx ⟨rfl, rfl⟩
  clear BY
  by_cases h4 : (1048576 : Int) < 4 * (n1 : Int) + 4 * (n2 : Int) + (n3 : Int)
  · have t4 : decide ((1048576 : Int) < 4 * (n1 : Int) + 4 * (n2 : Int) + (n3 : Int)) = true := by simpa using h4
    go_wp2
    go_ret
    exact ⟨rfl, Below.refl _ _⟩
  have t4 : decide ((1048576 : Int) < 4 * (n1 : Int) + 4 * (n2 : Int) + (n3 : Int)) = false := by simpa using h4
  clear h4
  by_cases q1 : 4096 < n1
  · have g1 : decide ((4096 : Int) < (n1 : Int)) = true := by simp; omega
    go_wp2
    go_ret
    exact ⟨rfl, Below.refl _ _⟩
  have g1 : decide ((4096 : Int) < (n1 : Int)) = false := by simp; omega
  by_cases q2 : 4096 < n2
  · have g2 : decide ((4096 : Int) < (n2 : Int)) = true := by simp; omega
    go_wp2
    go_ret
    exact ⟨rfl, Below.refl _ _⟩
  have g2 : decide ((4096 : Int) < (n2 : Int)) = false := by simp; omega
  by_cases q3 : 4096 < n3
  · have g3 : decide ((4096 : Int) < (n3 : Int)) = true := by simp; omega
    go_wp2
    go_ret
    exact ⟨rfl, Below.refl _ _⟩
  have g3 : decide ((4096 : Int) < (n3 : Int)) = false := by simp; omega
  go_wp2_with fail
  clear t1 t2 t3 t4 g1 g2 g3
  refine (fit5 a0 A1 A2 A3 n1 c1 n2 c2 n3 c3 (fun i => z1.getD i 0) (fun i => z2.getD i 0) w R1.out R2.out (by omega) P1.out P2.out).mono ?_
  rintro e wx ⟨b, rfl, hb, rfl⟩
  cases b
  · clear hb
    go_wp2
    go_ret
    exact ⟨rfl, Below.refl _ _⟩
  obtain ⟨p0, p4, rfl, rfl, hall⟩ := hb rfl
  obtain ⟨n, rfl⟩ := Int.eq_ofNat_of_zero_le p0
  have n4 : n ≤ 4096 := by omega
  have HALL := Lib.hid hall
  clear hb hall p0 p4 q2 q3 m2 m3
  obtain ⟨g, rfl, rfl, hfr, ht, hdy⟩ : ∃ g : Gr, g.n = n ∧ g.m = n3 ∧ (∀ i, z1.getD i 0 = (g.fr i : Int)) ∧ (∀ i, z2.getD i 0 = (g.t i : Int)) ∧ (∀ i, z3.getD i false = g.dy i) :=
    ⟨⟨n, n3, fun i => (z1.getD i 0).toNat, fun i => (z2.getD i 0).toNat, fun i => z3.getD i false⟩, rfl, rfl, fun i => by have := P1.out i; show _ = (((z1.getD i 0).toNat : Nat) : Int); omega, fun i => by have := P2.out i; show _ = (((z2.getD i 0).toNat : Nat) : Int); omega, fun i => rfl⟩
  have HFT := Lib.hid (show Fits g from fun i hi => by
    obtain ⟨a, b⟩ := HALL.out i hi
    simp only [hfr, ht] at a b
    omega)
  have hm4 : g.m ≤ 4096 := by omega
  have HFR := Lib.hid hfr
  have HTT := Lib.hid ht
  have HDY := Lib.hid hdy
  clear hfr ht hdy HALL q1
  go_wp2_with fail
  refine (copy6 A1 g.m c1 (fun i => z1.getD i 0) w R1.out (by omega) K1.out).mono ?_
  rintro e u1 ⟨B1, d1, rfl, r1, b1⟩
  have S1 := Lib.hid (rs_congr (V' := fun i => .int .u32 (g.fr i)) r1 (fun i _ => by rw [HFR.out]))
  have L1 := Lib.hid b1
  clear r1 b1
  go_wp2_with fail
  refine (copy6 A2 g.m c2 (fun i => z2.getD i 0) u1 (R2.out.later L1.out) (by omega) K2.out).mono ?_
  rintro e u2 ⟨B2, d2, rfl, r2, b2⟩
  have S2 := Lib.hid (rs_congr (V' := fun i => .int .u32 (g.t i)) r2 (fun i _ => by rw [HTT.out]))
  have L2 := Lib.hid (L1.out.trans (b2.mono L1.out.size))
  have S1' := Lib.hid (S1.out.later b2)
  clear r2 b2 S1
  go_wp2_with fail
  refine (copy7 A3 g.m c3 (fun i => z3.getD i false) u2 (R3.out.later L2.out) (by omega) K3.out).mono ?_
  rintro e u3 ⟨B3, d3, rfl, r3, b3⟩
  have S3 := Lib.hid (rs_congr (V' := fun i => .bool (g.dy i)) r3 (fun i _ => by rw [HDY.out]))
  have L3 := Lib.hid (L2.out.trans (b3.mono L2.out.size))
  have S2' := Lib.hid (S2.out.later b3)
  have S1'' := Lib.hid (S1'.out.later b3)
  clear r3 b3 S1' S2
  go_wp2_with fail
  refine (ver8 g HFT.out B1 B2 B3 d1 d2 d3 u3 S1''.out S2'.out S3.out n4 hm4).mono ?_
  rintro e u4 ⟨x, rfl, hx, b4⟩
  have HX := Lib.hid hx
  have L4 := Lib.hid b4
  clear hx b4
  go_wp2_with fail
  refine (kahn9 g HFT.out B1 B2 B3 d1 d2 d3 u4 (S1''.out.later L4.out) (S2'.out.later L4.out) (S3.out.later L4.out) n4 hm4).mono ?_
  rintro e u5 ⟨y, rfl, hy, b5⟩
  have hxy : x = y := by
    have h1 := HX.out
    cases x <;> cases y <;> simp_all
  have LL := Lib.hid (L3.out.trans ((L4.out.trans (b5.mono L4.out.size)).mono L3.out.size))
  subst hxy
  have tt : (x == x) = true := by simp
  clear hy b5
  go_wp2
  go_ret
  exact ⟨rfl, LL.out⟩
def Gi (_ : World) : Prop := True
theorem of_laid {w : World} (_ : laidMetH Tryd.prog Rows.fnEnforceNoCyclicChunkImportsErrsIffStaticCycleRow.laid w) : Gi w := trivial
theorem law (a0 : Int) (A1 : Option Addr) (n1 c1 : Nat) (z1 : List Int) (A2 : Option Addr) (n2 c2 : Nat) (z2 : List Int) (A3 : Option Addr) (n3 c3 : Nat) (z3 : List Bool) (w : World) (w0 : (Lit.int .i64 a0).wf = true) (w1 : Args.IsInts .u32 w A1 n1 c1 z1) (w2 : Args.IsInts .u32 w A2 n2 c2 z2) (w3 : Args.IsBools w A3 n3 c3 z3) (_ : Gi w) :
    Calls Tryd.prog 3 #[.int .i64 a0, .slice A1 n1 c1, .slice A2 n2 c2, .slice A3 n3 c3] w fun e w' => e = .returned (.bool true) ∧ Below w.heap.size w w' := law0 a0 A1 n1 c1 z1 A2 n2 c2 z2 A3 n3 c3 z3 w w0 w1 w2 w3
end Go.Proofs.YtfljkbfacncdgaaDoor.EnV
