/- FnSortedCrossChunkImportsOrderFree: the law. -/
import Derived.Test.YtfcpjckecjjmjaaSoU
import Derived.Test.YtfcpjckecjjmjaaSoW
import Derived.Test.YtfcpjckecjjmjaaSl
import Derived.Deep.RegionHeld3
import Derived.Deep.DeepCutAuto
import Derived.WalkKit
import Derived.ProofKit
import Derived.OpenShut
import Derived.Below
import Derived.WalkLawsBesides
import Derived.Lib.Hide
import Derived.Outline
import Derived.RegionTactic
import Derived.Deep.QuietTactic
import Derived.BigQuiet
import Derived.WalkSpells
import Derived.Deep.OwnRows
import Derived.IntWalk
import Derived.Deep.DeepMust
namespace Go.Proofs.Ytfcpjckecjjmjaa.SoL
open Go.RowKit Mem Args Fvs Fxs Tab SoA SoX SoY SoG SoC SoE SoF SoI SoN SoT SoU SoW
set_option linter.unusedVariables false
set_option linter.unusedSimpArgs false

theorem Out.later {w w' : World} {v : Value} {R : Array MRow} {D : Nat → Array IRow} (h : Out w v R D) (hb : Below w.heap.size w w') : Out w' v R D := by
  obtain ⟨g, c, e, h1, h2⟩ := h
  exact ⟨g, c, e, h1.later hb, fun p hp => ⟨(h2 p hp).1, (h2 p hp).2.later hb⟩⟩
theorem u32b {w : World} {A : Option Addr} {n c : Nat} {zs : List Int} (h : Args.IsInts .u32 w A n c zs) (i : Nat) (hi : i < n) : 0 ≤ zs.getD i 0 ∧ zs.getD i 0 ≤ 4294967295 := by
  have hm := h.wf_at i hi
  simp [Lit.wf, IntKind.min, IntKind.max, IntKind.bits, IntKind.signed] at hm
  simp [List.getD]
  omega
theorem ints_le {w : World} {A : Option Addr} {n c : Nat} {zs : List Int} (h : Args.IsInts .u32 w A n c zs) : n ≤ maxLen := Nat.le_trans h.1 h.2.1
theorem strs_le {w : World} {A : Option Addr} {n c : Nat} {zs : List ByteArray} (h : Args.IsStrs w A n c zs) : n ≤ maxLen := Nat.le_trans h.1 h.2.1
theorem ents_mem {rev : Bool} {n : Nat} {f r1 r2 : Nat → Int} {p : Ent} (h : p ∈ ents rev n f r1 r2 n) : ∃ k, k < n ∧ p = (f k, r1 k, r2 k) := by
  obtain ⟨t, ht, rfl⟩ := List.mem_map.1 h
  have ht' : t < n := by simpa using ht
  unfold ent
  cases rev with
  | false => exact ⟨t, ht', rfl⟩
  | true => exact ⟨n - 1 - t, by omega, rfl⟩
set_option maxHeartbeats 1000000 in
theorem zz8 (x n b : Nat) (F : Nat → Value → Option Value) (ps : List Ent) (V : Int → Value) (w0 w : World) (hc : Cx w0 x n F) (h0 : Below w0.heap.size w0 w) (hb0 : w0.heap.size ≤ b) (hI : Im w b ps V)
    (hps : ∀ p ∈ ps, (0 ≤ p.1 ∧ p.1 < n) ∧ (0 ≤ p.2.1 ∧ p.2.1 ≤ 4294967295) ∧ (0 ≤ p.2.2 ∧ p.2.2 ≤ 4294967295)) (hl : ps.length ≤ 1024) (hn : n ≤ 65536) :
    Calls Try.prog 8 #[.pointer (some ⟨x, 0, none⟩), .map (some b)] w fun e w' => (∃ v R D, e = .returned v ∧ Out w' v R D ∧ SoN.Good R D ps (alF F)) ∧ Below b w w' := by
  have H := Lib.hid (sort16 x n b F ps V w0 w hc h0 hb0 hI hps hl hn)
  clear hc h0 hb0 hI hps hl hn
  go_enter Try.func8, Try.ntmps8
  go_wp2_with (go_at_call 16; refine H.out.mono ?_; rintro e w' ⟨⟨v, R, D, rfl, hO, hG⟩, hb⟩; have HO := Lib.hid hO; have HG := Lib.hid hG; have HB := Lib.hid hb; clear hO hG hb)
  go_ret
  exact ⟨⟨v, R, D, rfl, HO.out, HG.out⟩, HB.out⟩
/-- Two results that agree. -/
structure Two (w : World) (g1 k1 g2 k2 NN : Nat) (C : Nat → Int) (A1 A2 P1 P2 Q1 Q2 M : Nat → Nat) (al : Nat → Nat → ByteArray) (X1 X2 : Nat → Nat → Int × Int) : Prop where
  a1 : ∀ p, p < NN → w.cell? ⟨g1, p * 2, none⟩ = some (.slice (some ⟨A1 p, 0, none⟩) (M p) (P1 p)) ∧ w.cell? ⟨g1, p * 2 + 1, none⟩ = some (.int .u32 (C p))
  a2 : ∀ p, p < NN → w.cell? ⟨g2, p * 2, none⟩ = some (.slice (some ⟨A2 p, 0, none⟩) (M p) (P2 p)) ∧ w.cell? ⟨g2, p * 2 + 1, none⟩ = some (.int .u32 (C p))
  b1 : ∀ p q, p < NN → q < M p → w.cell? ⟨A1 p, q * 3, none⟩ = some (.string (al p q)) ∧ w.cell? ⟨A1 p, q * 3 + 1, none⟩ = some (.int .u32 (X1 p q).1) ∧ w.cell? ⟨A1 p, q * 3 + 2, none⟩ = some (.int .u32 (X1 p q).2)
  b2 : ∀ p q, p < NN → q < M p → w.cell? ⟨A2 p, q * 3, none⟩ = some (.string (al p q)) ∧ w.cell? ⟨A2 p, q * 3 + 1, none⟩ = some (.int .u32 (X2 p q).1) ∧ w.cell? ⟨A2 p, q * 3 + 2, none⟩ = some (.int .u32 (X2 p q).2)
  rise : ∀ p, 0 < p → p < NN → C (p - 1) < C p
  lt : (∀ p, p < NN → A1 p < w.heap.size ∧ A2 p < w.heap.size) ∧ g1 < w.heap.size ∧ g2 < w.heap.size
theorem Two.later {w w' : World} {g1 k1 g2 k2 NN : Nat} {C : Nat → Int} {A1 A2 P1 P2 Q1 Q2 M : Nat → Nat} {al : Nat → Nat → ByteArray} {X1 X2 : Nat → Nat → Int × Int} (h : Two w g1 k1 g2 k2 NN C A1 A2 P1 P2 Q1 Q2 M al X1 X2) (hb : Below w.heap.size w w') : Two w' g1 k1 g2 k2 NN C A1 A2 P1 P2 Q1 Q2 M al X1 X2 :=
  ⟨fun p hp => ⟨cell_later hb (h.a1 p hp).1, cell_later hb (h.a1 p hp).2⟩, fun p hp => ⟨cell_later hb (h.a2 p hp).1, cell_later hb (h.a2 p hp).2⟩,
    fun p q hp hq => ⟨cell_later hb (h.b1 p q hp hq).1, cell_later hb (h.b1 p q hp hq).2.1, cell_later hb (h.b1 p q hp hq).2.2⟩, fun p q hp hq => ⟨cell_later hb (h.b2 p q hp hq).1, cell_later hb (h.b2 p q hp hq).2.1, cell_later hb (h.b2 p q hp hq).2.2⟩, h.rise,
    ⟨fun p hp => ⟨Nat.lt_of_lt_of_le (h.lt.1 p hp).1 hb.size, Nat.lt_of_lt_of_le (h.lt.1 p hp).2 hb.size⟩, Nat.lt_of_lt_of_le h.lt.2.1 hb.size, Nat.lt_of_lt_of_le h.lt.2.2 hb.size⟩⟩
theorem two_of {w : World} {v1 v2 : Value} {R1 R2 : Array MRow} {D1 D2 : Nat → Array IRow} {ps qs : List Ent} {al : Int → Int → Int → ByteArray} (o1 : Out w v1 R1 D1) (o2 : Out w v2 R2 D2) (h1 : SoN.Good R1 D1 ps al) (h2 : SoN.Good R2 D2 qs al) (hp : ps.Perm qs) (hl : ps.length ≤ 1024) :
    ∃ g1 k1 g2 k2 NN C A1 A2 P1 P2 Q1 Q2 M al X1 X2, v1 = .slice (some ⟨g1, 0, none⟩) NN k1 ∧ v2 = .slice (some ⟨g2, 0, none⟩) NN k2 ∧ Two w g1 k1 g2 k2 NN C A1 A2 P1 P2 Q1 Q2 M al X1 X2 ∧ NN ≤ 1024 ∧ ∀ p, p < NN → M p ≤ 1024 := by
  obtain ⟨hs, hall⟩ := same h1 h2 hp
  obtain ⟨g1, k1, e1, t1, u1⟩ := o1
  obtain ⟨g2, k2, e2, t2, u2⟩ := o2
  rw [← hs] at e2 t2
  have hm : ∀ p, p < R1.size → R2[p]!.2.1 = R1[p]!.2.1 := fun p hp' => by
    rw [← (u1 p hp').1, ← (u2 p (by omega)).1, (hall p hp').2.1]
  refine ⟨g1, k1, g2, k2, R1.size, fun p => R1[p]!.2.2.2, fun p => R1[p]!.1, fun p => R2[p]!.1, fun p => R1[p]!.2.2.1, fun p => R2[p]!.2.2.1, fun _ => 0, fun _ => 0, fun p => R1[p]!.2.1, fun p q => ((D1 p)[q]!).1, fun p q => ((D1 p)[q]!).2, fun p q => ((D2 p)[q]!).2, e1, e2, ⟨fun p hp' => ?_, fun p hp' => ?_, fun p q hp' hq => ?_, fun p q hp' hq => ?_, fun p h0 hp' => h1.rising p hp' h0, ⟨fun p hp' => ⟨(u1 p hp').2.lt, (u2 p (by omega)).2.lt⟩, t1.lt, t2.lt⟩⟩, ?_, fun p hp' => ?_⟩
  · exact ⟨t1.cell p 0 hp' (by omega), t1.cell p 1 hp' (by omega)⟩
  · refine ⟨?_, ?_⟩
    · have := t2.cell p 0 hp' (by omega)
      rw [Nat.add_zero] at this
      rw [this]
      simp only [VM, hm p hp']
    · have := t2.cell p 1 hp' (by omega)
      rw [this]
      simp only [VM, (hall p hp').1]
  · have t := (u1 p hp').2
    exact ⟨t.cell q 0 hq (by omega), t.cell q 1 hq (by omega), t.cell q 2 hq (by omega)⟩
  · have t := (u2 p (by omega)).2
    rw [hm p hp'] at t
    refine ⟨?_, t.cell q 1 hq (by omega), t.cell q 2 hq (by omega)⟩
    have := t.cell q 0 hq (by omega)
    rw [Nat.add_zero] at this
    rw [this]
    simp only [VI]
    rw [(hall p hp').2.2 q (by rw [(u1 p hp').1]; exact hq)]
  · have h1' : (R1.toList.map (·.2.2.2)).length ≤ (ps.map (·.1)).length := List.Nodup.length_le_of_subset h1.nodup (fun c hc => (h1.mem c).1 hc)
    simp only [List.length_map, Array.length_toList] at h1'
    omega
  · have h3 := (h1.items p hp').2.length_eq
    simp only [List.length_map, Array.length_toList] at h3
    have h4 : (its ps R1[p]!.2.2.2).length ≤ ps.length := by unfold its; rw [List.length_map]; exact List.length_filter_le _ _
    have h5 := (u1 p hp').1
    show R1[p]!.2.1 ≤ 1024
    omega
theorem take_to {P : Program} {md : Region.Mode} {ops : Array Oper} {Q : Exit → Act → World → Prop} {S : World → Prop} {i : Nat} {oi : Oper} {d : Option Tmp} {v : Value} {fuel : Nat} {listed : Array Bool} {a : Act} {w : World} (hi : ops[i]? = some oi) (hd : oi.dst = d)
    (hs : Region.noSelect ops = true) (hf : Region.free md ops listed i = true) (hr : (Region.ready md ops listed).contains i = true)
    (hQ : ∀ c a w, Q (.panic c) (a.put d v) w → Q (.panic c) a w) (hy : YieldsIf P ops S oi v a) (hS : S w)
    (h : wpAnyH P md ops Q S fuel (listed.setIfInBounds i true) (a.put d v) w) : wpAnyH P md ops Q S (fuel + 1) listed a w := by
  subst hd
  exact wpAnyH_take hi hs hf hr hQ hy hS h

set_option maxRecDepth 100000 in
set_option maxHeartbeats 8000000 in
theorem law (A0 : Option Addr) (n0 c0 : Nat) (z0 : List Int) (A1 : Option Addr) (n1 c1 : Nat) (z1 : List Int) (A2 : Option Addr) (n2 c2 : Nat) (z2 : List Int) (A3 : Option Addr) (n3 c3 : Nat) (z3 : List Int) (A4 : Option Addr) (n4 c4 : Nat) (z4 : List Int) (A5 : Option Addr) (n5 c5 : Nat) (z5 : List Int) (A6 : Option Addr) (n6 c6 : Nat) (z6 : List ByteArray) (w : World) (w0 : Args.IsInts .u32 w A0 n0 c0 z0) (w1 : Args.IsInts .u32 w A1 n1 c1 z1) (w2 : Args.IsInts .u32 w A2 n2 c2 z2) (w3 : Args.IsInts .u32 w A3 n3 c3 z3) (w4 : Args.IsInts .u32 w A4 n4 c4 z4) (w5 : Args.IsInts .u32 w A5 n5 c5 z5) (w6 : Args.IsStrs w A6 n6 c6 z6) :
    Calls Try.prog 3 #[.slice A0 n0 c0, .slice A1 n1 c1, .slice A2 n2 c2, .slice A3 n3 c3, .slice A4 n4 c4, .slice A5 n5 c5, .slice A6 n6 c6] w fun e w' => e = .returned (.bool true) ∧ Below w.heap.size w w' := by
  have r0 := Lib.hid (Rs.of_ints w0)
  have r1 := Lib.hid (Rs.of_ints w1)
  have r2 := Lib.hid (Rs.of_ints w2)
  have r3 := Lib.hid (Rs.of_ints w3)
  have r4 := Lib.hid (Rs.of_ints w4)
  have r5 := Lib.hid (Rs.of_ints w5)
  have r6 := Lib.hid (rs_strs w6)
  have m0 := Lib.hid (ints_le w0)
  have m1 := Lib.hid (ints_le w1)
  have m2 := Lib.hid (ints_le w2)
  have m3 := Lib.hid (ints_le w3)
  have m4 := Lib.hid (ints_le w4)
  have m5 := Lib.hid (ints_le w5)
  have m6 := Lib.hid (strs_le w6)
  have q0 := Lib.hid (u32b w0)
  have q1 := Lib.hid (u32b w1)
  have q2 := Lib.hid (u32b w2)
  have q3 := Lib.hid (u32b w3)
  have q4 := Lib.hid (u32b w4)
  have q5 := Lib.hid (u32b w5)
  clear w0 w1 w2 w3 w4 w5 w6
  go_enter Try.func3, Try.ntmps3
  go_wp2_with fail
  refine (bytes4 A0 n0 c0 A1 n1 c1 A2 n2 c2 A3 n3 c3 A4 n4 c4 A5 n5 c5 A6 n6 c6 _ w r6.out m0.out m1.out m2.out m3.out m4.out m5.out m6.out).mono ?_
  rintro e v0 ⟨b, rfl, hb, rfl⟩
  cases b with
  | false =>
    clear hb
    go_wp2_with fail
    go_ret
    exact ⟨rfl, Below.refl _ _⟩
  | true =>
    have HGS := Lib.hid (hb rfl)
    clear hb
    go_wp2_with fail
    refine (fit5 A0 n0 c0 A1 n1 c1 A2 n2 c2 A3 n3 c3 A4 n4 c4 A5 n5 c5 A6 n6 c6 _ _ _ w r0.out r3.out r6.out HGS.out m0.out m1.out m2.out m3.out m4.out m5.out m6.out).mono ?_
    rintro e v0 ⟨b, rfl, hb, rfl⟩
    cases b with
    | false =>
      clear hb
      go_wp2_with fail
      go_ret
      exact ⟨rfl, Below.refl _ _⟩
    | true =>
      obtain ⟨l0, e1, e2, l3, e4, e5, e6, p0, p3⟩ := hb rfl
      clear hb
      have e1 := e1.symm
      have e2 := e2.symm
      have e4 := e4.symm
      have e5 := e5.symm
      have e6 := e6.symm
      subst e1
      subst e2
      subst e4
      subst e5
      subst e6
      have P0 := Lib.hid p0
      have P3 := Lib.hid p3
      clear p0 p3
      go_wp2_with fail
      refine (num6 A0 A3 n0 c0 n3 c3 _ _ w r0.out r3.out l0 l3 (fun k hk => ⟨(q0.out k hk).1, P0.out k hk⟩) (fun k hk => ⟨(q3.out k hk).1, P3.out k hk⟩)).mono ?_
      rintro e v0 ⟨z, rfl, hz, s0, s3, rfl⟩
      have S0 := Lib.hid s0
      have S3 := Lib.hid s3
      clear s0 s3
      go_wp2_with fail
      refine (ctx7 z n3 c3 c4 c5 c6 A3 A4 A5 A6 _ _ _ _ w r3.out r4.out r5.out r6.out hz l3 (fun k hk => ⟨(q3.out k hk).1, S3.out k hk⟩) q4.out q5.out).mono ?_
      rintro e w1 ⟨⟨x, F, rfl, hcx⟩, hb1⟩
      have HCX := Lib.hid hcx
      have HB1 := Lib.hid hb1
      clear hcx hb1
      have HPS := Lib.hid (show ∀ rev, ∀ p ∈ ents rev n0 (fun i => z0.getD i 0) (fun i => z1.getD i 0) (fun i => z2.getD i 0) n0, (0 ≤ p.1 ∧ p.1 < (z : Int)) ∧ (0 ≤ p.2.1 ∧ p.2.1 ≤ 4294967295) ∧ (0 ≤ p.2.2 ∧ p.2.2 ≤ 4294967295) from fun rev p hp => by
        obtain ⟨k, hk, rfl⟩ := ents_mem hp
        exact ⟨⟨(q0.out k hk).1, S0.out k hk⟩, q1.out k hk, q2.out k hk⟩)
      have HLN := Lib.hid (show ∀ rev, (ents rev n0 (fun i => z0.getD i 0) (fun i => z1.getD i 0) (fun i => z2.getD i 0) n0).length ≤ 1024 from fun rev => by simp [ents]; exact l0)
      go_wp2_with fail
      refine (imp9 false n0 c0 c1 c2 A0 A1 A2 _ _ _ w1 (r0.out.later HB1.out) (r1.out.later HB1.out) (r2.out.later HB1.out) l0 (fun k hk => ⟨(q0.out k hk).1, P0.out k hk⟩)).mono ?_
      rintro e w2 ⟨⟨b1, V1, rfl, hB1, hI1⟩, hb2⟩
      have HI1 := Lib.hid hI1
      have HB2 := Lib.hid hb2
      have HBB1 := Lib.hid hB1
      clear hI1 hb2 hB1
      go_wp2_with fail
      refine (zz8 x z b1 F _ V1 w1 w2 HCX.out HB2.out HBB1.out HI1.out (HPS.out false) (HLN.out false) hz).mono ?_
      rintro e w3 ⟨⟨v1, R1, D1, rfl, hO1, hG1⟩, hb3⟩
      have HO1 := Lib.hid hO1
      have HG1 := Lib.hid hG1
      have HB3 := Lib.hid (show Below w1.heap.size w1 w3 from HB2.out.trans (hb3.mono HBB1.out))
      clear hO1 hG1 hb3
      have HW3 := Lib.hid (show Below w.heap.size w w3 from HB1.out.trans (HB3.out.mono HB1.out.size))
      go_wp2_with fail
      refine (imp9 true n0 c0 c1 c2 A0 A1 A2 _ _ _ w3 (r0.out.later HW3.out) (r1.out.later HW3.out) (r2.out.later HW3.out) l0 (fun k hk => ⟨(q0.out k hk).1, P0.out k hk⟩)).mono ?_
      rintro e w4 ⟨⟨b2, V2, rfl, hB2, hI2⟩, hb4⟩
      have HI2 := Lib.hid hI2
      have HB4 := Lib.hid hb4
      have HBB2 := Lib.hid hB2
      clear hI2 hb4 hB2
      go_wp2_with fail
      refine (zz8 x z b2 F _ V2 w1 w4 HCX.out (HB3.out.trans (HB4.out.mono HB3.out.size)) (Nat.le_trans HB3.out.size HBB2.out) HI2.out (HPS.out true) (HLN.out true) hz).mono ?_
      rintro e w5 ⟨⟨v2, R2, D2, rfl, hO2, hG2⟩, hb5⟩
      have B35 : Below w3.heap.size w3 w5 := HB4.out.trans (hb5.mono HBB2.out)
      obtain ⟨g1, k1, g2, k2, NN, C, B1, B2, U1, U2, Q1, Q2, M, al, X1, X2, rfl, rfl, htw, hNN, hMM⟩ := two_of (Out.later HO1.out B35) hO2 HG1.out hG2 (ents_perm _ _ _ _) (by simp [ents]; omega)
      have HW5 := Lib.hid (show Below w.heap.size w w5 from HW3.out.trans (B35.mono HW3.out.size))
      have HTW := Lib.hid htw
      have HNN := Lib.hid hNN
      have HMM := Lib.hid hMM
      clear hO2 hG2 hb5 B35 htw hMM r0 r1 r2 r3 r4 r5 r6 m0 m1 m2 m3 m4 m5 m6 q0 q1 q2 q3 q4 q5 HGS P0 P3 S0 S3 HCX HB1 HPS HLN HI1 HB2 HBB1 HO1 HG1 HB3 HW3 HI2 HB4 HBB2 l0 l3 hz
      go_wp2_with (go_at_call 10; refine (lenM _ _ _ _).mono ?_; rintro e w' ⟨rfl, rfl⟩)
      go_loopw [19] (fun s19 wr => ∃ p : Nat, p ≤ NN ∧ s19 = .int .i64 p ∧ Hid (Below w5.heap.size w5 wr)) (fun s19 _ => NN - (intOf s19).toNat)
      case atStart => exact ⟨0, Nat.zero_le _, rfl, Below.refl _ _⟩
      case round =>
        obtain ⟨p, hp, rfl, HB⟩ := hrel
        by_cases hlt : p < NN
        · have hMp := HMM.out p hlt
          have NW := Lib.hid (show ∀ W : World, Below w5.heap.size w5 W → (W.cell? ⟨g1, p * 2, none⟩ = some (.slice (some ⟨B1 p, 0, none⟩) (M p) (U1 p)) ∧ W.cell? ⟨g1, p * 2 + 1, none⟩ = some (.int .u32 (C p)) ∧ W.cell? ⟨g2, p * 2, none⟩ = some (.slice (some ⟨B2 p, 0, none⟩) (M p) (U2 p)) ∧ W.cell? ⟨g2, p * 2 + 1, none⟩ = some (.int .u32 (C p))) from
            fun W hW => ⟨((HTW.out.later hW).a1 p hlt).1, ((HTW.out.later hW).a1 p hlt).2, ((HTW.out.later hW).a2 p hlt).1, ((HTW.out.later hW).a2 p hlt).2⟩)
          have NP := Lib.hid (show 0 < p → ∀ W : World, Below w5.heap.size w5 W → (W.cell? ⟨g1, p * 2, none⟩ = some (.slice (some ⟨B1 p, 0, none⟩) (M p) (U1 p)) ∧ W.cell? ⟨g1, p * 2 + 1, none⟩ = some (.int .u32 (C p)) ∧ W.cell? ⟨g1, (p - 1) * 2, none⟩ = some (.slice (some ⟨B1 (p - 1), 0, none⟩) (M (p - 1)) (U1 (p - 1))) ∧ W.cell? ⟨g1, (p - 1) * 2 + 1, none⟩ = some (.int .u32 (C (p - 1)))) from
            fun h0 W hW => ⟨((HTW.out.later hW).a1 p hlt).1, ((HTW.out.later hW).a1 p hlt).2, ((HTW.out.later hW).a1 (p - 1) (by omega)).1, ((HTW.out.later hW).a1 (p - 1) (by omega)).2⟩)
          have hRISE := fun h0 => HTW.out.rise p h0 hlt
          have RISE := Lib.hid hRISE
          have NQ := Lib.hid (show ∀ q, q < M p → ∀ W : World, Below w5.heap.size w5 W → (W.cell? ⟨B1 p, q * 3, none⟩ = some (.string (al p q)) ∧ W.cell? ⟨B1 p, q * 3 + 1, none⟩ = some (.int .u32 (X1 p q).1) ∧ W.cell? ⟨B1 p, q * 3 + 2, none⟩ = some (.int .u32 (X1 p q).2)) ∧ (W.cell? ⟨B2 p, q * 3, none⟩ = some (.string (al p q)) ∧ W.cell? ⟨B2 p, q * 3 + 1, none⟩ = some (.int .u32 (X2 p q).1) ∧ W.cell? ⟨B2 p, q * 3 + 2, none⟩ = some (.int .u32 (X2 p q).2)) from
            fun q hq W hW => ⟨(HTW.out.later hW).b1 p q hlt hq, (HTW.out.later hW).b2 p q hlt hq⟩)
          clear hRISE
          have hyy : ((C p) != (C p)) = false := by simp
          go_upto_region 14 with (go_at_call 10; refine (lenM _ _ _ _).mono ?_; rintro e w' ⟨rfl, rfl⟩)
          go_cut [83] from 67 to 131 (fun s83 wx => s83 = .bool false ∧ Hid (Below w5.heap.size w5 wx))
          case first =>
            obtain ⟨a0, a1, a2, a3⟩ := NW.out _ HB.out
            clear NP NQ RISE
            go_region_held3 (fun w' => w'.cell? ⟨g1, p * 2, none⟩ = some (.slice (some ⟨B1 p, 0, none⟩) (M p) (U1 p)) ∧ w'.cell? ⟨g1, p * 2 + 1, none⟩ = some (.int .u32 (C p)) ∧ w'.cell? ⟨g2, p * 2, none⟩ = some (.slice (some ⟨B2 p, 0, none⟩) (M p) (U2 p)) ∧ w'.cell? ⟨g2, p * 2 + 1, none⟩ = some (.int .u32 (C p))) (first | exact NW.out _ HB'.out | exact ⟨a0, a1, a2, a3⟩)
              (first | (go_at_call 11; refine (chunk11 _ (C p) rfl _).mono ?_; rintro e w' ⟨rfl, hb⟩; first | (have HB' := Lib.hid (HB'.out.trans (hb.mono HB'.out.size)); clear hb) | (have HB' := Lib.hid (HB.out.drew.trans (hb.mono HB.out.size)); clear hb)))
            all_goals
              go_wp2_with fail
              go_meet
              exact ⟨by simp, HB'.out⟩
          case rest =>
            obtain ⟨rfl, HB14⟩ := hcut
            clear HB hyy
            go_upto_region 16 with fail
            go_cut [99] from 67 to 131 (fun s99 wx => s99 = .bool false ∧ Hid (Below w5.heap.size w5 wx))
            case first =>
              clear NW NQ
              rcases Nat.eq_zero_or_pos p with hp0 | hp0
              · subst hp0
                clear NP RISE
                go_quiet (fail)
                go_wp2_with fail
                go_meet
                exact ⟨by simp, HB14.out.trans ⟨rfl, rfl, rfl, Nat.le_refl _, fun _ _ => rfl⟩⟩
              · obtain ⟨a0, a1, a2, a3⟩ := NP.out hp0 _ HB14.out
                have hri := RISE.out hp0
                obtain ⟨r, hr⟩ : ∃ r, r = p - 1 := ⟨_, rfl⟩
                rw [← hr] at a2 a3 hri
                have HNP := Lib.hid (NP.out hp0)
                rw [← hr] at HNP
                clear NP RISE
                have hg0 : decide ((0 : Int) < (p : Int)) = true := decide_eq_true (by omega)
                have hg2 : (r : Int) < (NN : Int) := by omega
                have hg3 : (p : Int) - 1 = (r : Int) := by omega
                have hgw : IntKind.i64.wrap ((p : Int) - 1) = (r : Int) := by rw [IntKind.wrap_i64]; have := HNN.out; omega
                have hgr : IntKind.i64.wrap (r : Int) = (r : Int) := by rw [IntKind.wrap_i64]; have := HNN.out; omega
                have hgp : (0 : Int) ≤ (r : Int) := by omega
                have hg9 : decide (0 < p) = true := decide_eq_true hp0
                have hg10 : decide ((p : Int) > 0) = true := decide_eq_true (by omega)
                have hg7 : (p : Int) < (NN : Int) := by omega
                have hg8 : (0 : Int) ≤ (p : Int) := by omega
                have hg4 : decide (C p ≤ C r) = false := decide_eq_false (by omega)
                clear hr hri
                have HBd := Lib.hid (show Below w5.heap.size w5 wc.drew from HB14.out.drew)
                have HS0 := Lib.hid (HNP.out _ HBd.out)
                refine wp_region_held_drew (S := (fun w' => w'.cell? ⟨g1, p * 2, none⟩ = some (.slice (some ⟨B1 p, 0, none⟩) (M p) (U1 p)) ∧ w'.cell? ⟨g1, p * 2 + 1, none⟩ = some (.int .u32 (C p)) ∧ w'.cell? ⟨g1, r * 2, none⟩ = some (.slice (some ⟨B1 r, 0, none⟩) (M r) (U1 r)) ∧ w'.cell? ⟨g1, r * 2 + 1, none⟩ = some (.int .u32 (C r)))) (by kernel_rfl) (HNP.out _ HBd.out) (fun hHeld => ?_)
                refine take_to (i := 0) (d := some 84) (v := .int .i64 (p : Int)) rfl rfl (by kernel_rfl) (by kernel_rfl) (by kernel_rfl) (fun _ _ _ h => h) (Or.inl ⟨by kernel_rfl, fun W hS => by obtain ⟨q1, q2, q3, q4⟩ := hS; go_simp⟩) HS0.out ?_
                simp only [Act.put, List.setIfInBounds_toArray, List.set_cons_zero, List.set_cons_succ]
                refine take_to (i := 1) (d := some 85) (v := .bool true) rfl rfl (by kernel_rfl) (by kernel_rfl) (by kernel_rfl) (fun _ _ _ h => h) (Or.inl ⟨by kernel_rfl, fun W hS => by obtain ⟨q1, q2, q3, q4⟩ := hS; go_simp⟩) HS0.out ?_
                simp only [Act.put, List.setIfInBounds_toArray, List.set_cons_zero, List.set_cons_succ]
                refine take_to (i := 2) (d := some 86) (v := .bool true) rfl rfl (by kernel_rfl) (by kernel_rfl) (by kernel_rfl) (fun _ _ _ h => h) (Or.inl ⟨by kernel_rfl, fun W hS => by obtain ⟨q1, q2, q3, q4⟩ := hS; go_simp⟩) HS0.out ?_
                simp only [Act.put, List.setIfInBounds_toArray, List.set_cons_zero, List.set_cons_succ]
                refine take_to (i := 3) (d := some 87) (v := .slice (some ⟨g1, 0, none⟩) NN k1) rfl rfl (by kernel_rfl) (by kernel_rfl) (by kernel_rfl) (fun _ _ _ h => h) (Or.inl ⟨by kernel_rfl, fun W hS => by obtain ⟨q1, q2, q3, q4⟩ := hS; go_simp⟩) HS0.out ?_
                simp only [Act.put, List.setIfInBounds_toArray, List.set_cons_zero, List.set_cons_succ]
                refine take_to (i := 4) (d := some 88) (v := .int .i64 (p : Int)) rfl rfl (by kernel_rfl) (by kernel_rfl) (by kernel_rfl) (fun _ _ _ h => h) (Or.inl ⟨by kernel_rfl, fun W hS => by obtain ⟨q1, q2, q3, q4⟩ := hS; go_simp⟩) HS0.out ?_
                simp only [Act.put, List.setIfInBounds_toArray, List.set_cons_zero, List.set_cons_succ]
                refine take_to (i := 5) (d := some 89) (v := .int .i64 (r : Int)) rfl rfl (by kernel_rfl) (by kernel_rfl) (by kernel_rfl) (fun _ _ _ h => h) (Or.inl ⟨by kernel_rfl, fun W hS => by obtain ⟨q1, q2, q3, q4⟩ := hS; go_simp⟩) HS0.out ?_
                simp only [Act.put, List.setIfInBounds_toArray, List.set_cons_zero, List.set_cons_succ]
                refine take_to (i := 6) (d := some 90) (v := .pointer (some ⟨g1, r * 2, none⟩)) rfl rfl (by kernel_rfl) (by kernel_rfl) (by kernel_rfl) (fun _ _ _ h => h) (Or.inl ⟨by kernel_rfl, fun W hS => by obtain ⟨q1, q2, q3, q4⟩ := hS; go_simp⟩) HS0.out ?_
                simp only [Act.put, List.setIfInBounds_toArray, List.set_cons_zero, List.set_cons_succ]
                refine take_to (i := 7) (d := some 91) (v := .agg #[.slice (some ⟨B1 r, 0, none⟩) (M r) (U1 r), .int .u32 (C r)]) rfl rfl (by kernel_rfl) (by kernel_rfl) (by kernel_rfl) (fun _ _ _ h => h) (Or.inl ⟨by kernel_rfl, fun W hS => by obtain ⟨q1, q2, q3, q4⟩ := hS; go_simp⟩) HS0.out ?_
                simp only [Act.put, List.setIfInBounds_toArray, List.set_cons_zero, List.set_cons_succ]
                refine take_to (i := 9) (d := some 93) (v := .slice (some ⟨g1, 0, none⟩) NN k1) rfl rfl (by kernel_rfl) (by kernel_rfl) (by kernel_rfl) (fun _ _ _ h => h) (Or.inl ⟨by kernel_rfl, fun W hS => by obtain ⟨q1, q2, q3, q4⟩ := hS; go_simp⟩) HS0.out ?_
                simp only [Act.put, List.setIfInBounds_toArray, List.set_cons_zero, List.set_cons_succ]
                refine take_to (i := 10) (d := some 94) (v := .int .i64 (p : Int)) rfl rfl (by kernel_rfl) (by kernel_rfl) (by kernel_rfl) (fun _ _ _ h => h) (Or.inl ⟨by kernel_rfl, fun W hS => by obtain ⟨q1, q2, q3, q4⟩ := hS; go_simp⟩) HS0.out ?_
                simp only [Act.put, List.setIfInBounds_toArray, List.set_cons_zero, List.set_cons_succ]
                refine take_to (i := 11) (d := some 95) (v := .pointer (some ⟨g1, p * 2, none⟩)) rfl rfl (by kernel_rfl) (by kernel_rfl) (by kernel_rfl) (fun _ _ _ h => h) (Or.inl ⟨by kernel_rfl, fun W hS => by obtain ⟨q1, q2, q3, q4⟩ := hS; go_simp⟩) HS0.out ?_
                simp only [Act.put, List.setIfInBounds_toArray, List.set_cons_zero, List.set_cons_succ]
                refine take_to (i := 12) (d := some 96) (v := .agg #[.slice (some ⟨B1 p, 0, none⟩) (M p) (U1 p), .int .u32 (C p)]) rfl rfl (by kernel_rfl) (by kernel_rfl) (by kernel_rfl) (fun _ _ _ h => h) (Or.inl ⟨by kernel_rfl, fun W hS => by obtain ⟨q1, q2, q3, q4⟩ := hS; go_simp⟩) HS0.out ?_
                simp only [Act.put, List.setIfInBounds_toArray, List.set_cons_zero, List.set_cons_succ]
                refine wpAnyH_ready (rs := [8]) (by kernel_rfl) (by simp) ?_
                refine AllReadyH.cons rfl (fun K hK => ?_) AllReadyH.nil
                rw [if_pos (show Region.wanted _ _ = true from by kernel_rfl)]
                unfold Oper.wp
                simp [go_sem]
                refine (chunk11 _ (C r) rfl _).mono ?_
                rintro e w' ⟨rfl, hb⟩
                have HB3 := Lib.hid (show Below w5.heap.size w5 w' from HBd.out.trans (hb.mono HBd.out.size))
                clear hb
                refine hK.out _ _ (HNP.out _ HB3.out) (fun _ => ?_)
                clear hK K
                try simp only [Act.put, List.setIfInBounds_toArray, List.set_cons_zero, List.set_cons_succ]
                refine wpAnyH_ready (rs := [13]) (by kernel_rfl) (by simp) ?_
                refine AllReadyH.cons rfl (fun K hK => ?_) AllReadyH.nil
                rw [if_pos (show Region.wanted _ _ = true from by kernel_rfl)]
                unfold Oper.wp
                simp [go_sem]
                refine (chunk11 _ (C p) rfl _).mono ?_
                rintro e w' ⟨rfl, hb⟩
                have HB4 := Lib.hid (show Below w5.heap.size w5 w' from HB3.out.trans (hb.mono HB3.out.size))
                clear hb
                refine hK.out _ _ (HNP.out _ HB4.out) (fun _ => ?_)
                clear hK K
                try simp only [Act.put, List.setIfInBounds_toArray, List.set_cons_zero, List.set_cons_succ]
                refine take_to (i := 14) (d := some 98) (v := .bool false) rfl rfl (by kernel_rfl) (by kernel_rfl) (by kernel_rfl) (fun _ _ _ h => h) (Or.inl ⟨by kernel_rfl, fun W hS => by obtain ⟨q1, q2, q3, q4⟩ := hS; go_simp⟩) (HNP.out _ HB4.out) ?_
                simp only [Act.put, List.setIfInBounds_toArray, List.set_cons_zero, List.set_cons_succ]
                refine take_to (i := 15) (d := some 99) (v := .bool false) rfl rfl (by kernel_rfl) (by kernel_rfl) (by kernel_rfl) (fun _ _ _ h => h) (Or.inl ⟨by kernel_rfl, fun W hS => by obtain ⟨q1, q2, q3, q4⟩ := hS; go_simp⟩) (HNP.out _ HB4.out) ?_
                simp only [Act.put, List.setIfInBounds_toArray, List.set_cons_zero, List.set_cons_succ]
                refine wpAnyH_done (by kernel_rfl) ?_ _
                go_wp2_with fail
                go_meet
                exact ⟨by simp, HB4.out⟩
            case rest =>
              obtain ⟨rfl, HB16⟩ := hcut
              clear HB14 NP RISE
              obtain ⟨a0, a1, a2, a3⟩ := NW.out _ HB16.out
              have hmm : (((M p : Nat) : Int) != ((M p : Nat) : Int)) = false := by simp
              go_upto_region 20 with (go_at_call 12; refine (items12 _ _ _ _ _).mono ?_; rintro e w' ⟨rfl, hb⟩; first | (have HB2 := Lib.hid (HB1.out.trans (hb.mono HB1.out.size)); clear hb) | (have HB1 := Lib.hid (HB16.out.trans (hb.mono HB16.out.size)); obtain ⟨x0, x1, x2, x3⟩ := NW.out _ HB1.out; clear hb))
              clear a0 a1 a2 a3 x0 x1 x2 x3 NW HB16
              go_wp2_with fail
              go_loopw [22] (fun s22 wr => ∃ q : Nat, q ≤ M p ∧ s22 = .int .i64 q ∧ Hid (Below w5.heap.size w5 wr)) (fun s22 _ => M p - (intOf s22).toNat)
              case atStart => exact ⟨0, Nat.zero_le _, rfl, HB2.out⟩
              case round =>
                obtain ⟨q, hq, rfl, HB⟩ := hrel
                by_cases hqt : q < M p
                · go_upto_region 25 with fail
                  go_cut [131] from 115 to 131 (fun s131 wx => s131 = .bool false ∧ Hid (Below w5.heap.size w5 wx))
                  case first =>
                    have NQq := Lib.hid (fun W hW => NQ.out q hqt W hW)
                    clear NQ
                    generalize al p q = ax at NQq
                    generalize X1 p q = px at NQq
                    generalize X2 p q = py at NQq
                    obtain ⟨⟨a0, a1, a2⟩, ⟨b0, b1, b2⟩⟩ := NQq.out _ HB.out
                    go_region_held3 (fun W => (W.cell? ⟨B1 p, q * 3, none⟩ = some (.string ax) ∧ W.cell? ⟨B1 p, q * 3 + 1, none⟩ = some (.int .u32 px.1) ∧ W.cell? ⟨B1 p, q * 3 + 2, none⟩ = some (.int .u32 px.2)) ∧ (W.cell? ⟨B2 p, q * 3, none⟩ = some (.string ax) ∧ W.cell? ⟨B2 p, q * 3 + 1, none⟩ = some (.int .u32 py.1) ∧ W.cell? ⟨B2 p, q * 3 + 2, none⟩ = some (.int .u32 py.2))) (first | exact NQq.out _ HB'.out | exact ⟨⟨a0, a1, a2⟩, ⟨b0, b1, b2⟩⟩)
                      (first | (go_at_call 13; refine (alias13 _ _ _ _).mono ?_; rintro e w' ⟨rfl, hb⟩; first | (have HB' := Lib.hid (HB'.out.trans (hb.mono HB'.out.size)); clear hb) | (have HB' := Lib.hid (HB.out.drew.trans (hb.mono HB.out.size)); clear hb)))
                    all_goals
                      go_wp2_with fail
                      go_meet
                      exact ⟨by simp, HB'.out⟩
                  case rest =>
                    obtain ⟨rfl, HB25⟩ := hcut
                    clear HB
                    go_wp2_with fail
                    go_roundw
                    case rel => exact ⟨q + 1, by omega, by go_num, HB25.out⟩
                    case measure => simp [intOf]; omega
                · obtain rfl : q = M p := by omega
                  go_wp2_with fail
                  go_roundw
                  case rel => exact ⟨p + 1, by omega, by go_num, HB.out⟩
                  case measure => simp [intOf]; omega
        · obtain rfl : p = NN := by omega
          go_wp2_with (go_at_call 10; refine (lenM _ _ _ _).mono ?_; rintro e w' ⟨rfl, rfl⟩)
          go_ret
          exact ⟨rfl, HW5.out.trans (HB.out.mono HW5.out.size)⟩
end Go.Proofs.Ytfcpjckecjjmjaa.SoL
