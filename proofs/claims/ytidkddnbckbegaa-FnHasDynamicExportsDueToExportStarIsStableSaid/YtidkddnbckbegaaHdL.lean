/- FnHasDynamicExportsDueToExportStarIsStable: the law. -/
import Derived.Test.YtidkddnbckbegaaRows
import Derived.Test.YtidkddnbckbegaaMem
import Derived.Test.YtidkddnbckbegaaSl
import Derived.Test.YtidkddnbckbegaaHdB
import Derived.Test.YtidkddnbckbegaaHdR
import Derived.Carry
import Derived.Deep.DeepCutAuto
import Derived.Deep.RegionHeld3
import Derived.Deep.RegionLaw
import Derived.WalkKit
import Derived.ProofKit
import Derived.OpenShut
import Derived.Below
import Derived.WalkLawsBesides
import Derived.Lib.Hide
import Derived.Outline
import Derived.RegionTactic
import Derived.Deep.QuietTactic
import Derived.BigQuiet
import Derived.WalkSpells
import Derived.Deep.OwnRows
import Derived.IntWalk
import Derived.Deep.DeepMust
namespace Go.Proofs.Ytidkddnbckbegaa.HdL
open Go.RowKit Mem Sl
set_option linter.unusedVariables false
open Args Fvs Argp Fxs HdP HdA HdC HdS HdT HdB HdR MapK Go.Maps

section
variable {n : Nat} {Z : Nat → List Int} {R rc ix : Nat → Nat} {F c G : Nat} {K : Nat → Int}
theorem has8 (q : Geo n R rc ix F c G) (h4 : n ≤ 4096) (hz : ∀ i, i < n → (Z i).length ≤ 1048576) (ht : ∀ i, i < n → ∀ j, j < (Z i).length → (Z i).getD j 0 < (n : Int)) (w : World) (s : Nat) (hg : Gs n Z R rc ix F c w) (hk : Ks n K R w) (hv : Vs n (fun _ => false) G w) (hs : s < n) :
    Calls Try.prog 8 #[.pointer (some ⟨c, 0, none⟩), .int .u32 (s : Int), .map (some G)] w (Hd n Z R rc ix F c G K n (fun _ => false) s w) := by
  have H := Lib.hid (has11 q h4 hz ht n w (fun _ => false) s hg hk hv (uv_le _ n) hs)
  clear q hz ht hg hk hv
  go_enter Try.func8, Try.ntmps8
  go_wp2_with fail
  refine H.out.mono ?_
  rintro e w1 ⟨b, rfl, hb⟩
  have HB := Lib.hid hb
  clear hb
  go_wp2_with fail
  go_ret
  exact ⟨b, rfl, HB.out⟩
end
/-- The state of the law: the graph, its kinds, the row of pointers, nothing old changed. -/
structure St (n : Nat) (Z : Nat → List Int) (R rc ix : Nat → Nat) (P c : Nat) (K : Nat → Int) (w w1 : World) : Prop where
  gs : Gs n Z R rc ix (P + 1) c w1
  ks : Ks n K R w1
  pr : Fv w1 P n (fun i => .pointer (some ⟨R i, 0, none⟩))
  bo : ∀ i, i < n → P + 2 ≤ R i ∧ R i < rc i ∧ rc i < ix i ∧ ix i < c
  up_ : ∀ i j, i < j → j < n → ix i < R j
  Pc : P + 2 ≤ c
  cl : c < w1.heap.size
  bel : Below w.heap.size w w1
  hP : P = w.heap.size
section
variable {n P c s : Nat} {Z : Nat → List Int} {R rc ix : Nat → Nat} {K K' : Nat → Int} {w w1 w2 : World}
theorem St.later (h : St n Z R rc ix P c K w w1) (hb : Below w1.heap.size w1 w2) : St n Z R rc ix P c K w w2 :=
  ⟨h.gs.later hb, h.ks.later hb, h.pr.below hb h.pr.lt, h.bo, h.up_, h.Pc, Nat.lt_of_lt_of_le h.cl hb.size, h.bel.trans (hb.mono h.bel.size), h.hP⟩
theorem St.geo (h : St n Z R rc ix P c K w w1) {G : Nat} (hG : c < G) : Geo n R rc ix (P + 1) c G := by
  have b := h.bo
  have u := h.up_
  refine ⟨fun i j hi hj e => ?_, fun i hi => ?_, fun i hi => ?_, fun i j hi hj => ?_, fun i j hi hj => ?_, fun i hi => ?_, by omega, ?_, fun i hi => ?_, fun i hi => ?_⟩
  · rcases Nat.lt_trichotomy i j with h1 | h1 | h1
    · have := u i j h1 hj; have := b i hi; omega
    · exact h1
    · have := u j i h1 hi; have := b j hj; omega
  · have := b i hi; omega
  · have := b i hi; omega
  · rcases Nat.lt_trichotomy i j with h1 | h1 | h1
    · have := u i j h1 hj; have := b i hi; have := b j hj; omega
    · subst h1; have := b i hi; omega
    · have := u j i h1 hi; have := b j hj; omega
  · rcases Nat.lt_trichotomy i j with h1 | h1 | h1
    · have := u i j h1 hj; have := b i hi; have := b j hj; omega
    · subst h1; have := b i hi; omega
    · have := u j i h1 hi; have := b j hj; omega
  · have := b i hi; omega
  · have := h.Pc; omega
  · have := b i hi; omega
  · have := b i hi; omega
end
theorem fv_fx {Q : Nat → Prop} {w w' : World} {g n : Nat} {V : Nat → Value} (h : Fv w g n V) (hf : Fx Q w w') (hg : ¬ Q g) : Fv w' g n V :=
  ⟨Nat.lt_of_lt_of_le h.lt hf.size, fun i hi => (hf.cell h.lt hg).trans (h.cell i hi), fun i => (hf.frozen h.lt hg).trans (h.frozen i)⟩
/-- What is known after a visit. -/
def Vi (n : Nat) (Z : Nat → List Int) (R rc ix : Nat → Nat) (P c G : Nat) (K : Nat → Int) (s : Nat) (w w2 : World) (e : Ending) (w3 : World) : Prop :=
  ∃ b K', e = .returned (.bool b) ∧ St n Z R rc ix P c K' w w3 ∧ b = (go K Z (n + 1) (fun _ => false) s).1 ∧ (b = false → K' = K) ∧ (b = true → dyn (K' s) = true) ∧ (dyn (K s) = true → ∀ i, i < n → K' i = K i) ∧ Fx (Pm n R G) w2 w3
theorem visit {n P c G s : Nat} {Z : Nat → List Int} {R rc ix : Nat → Nat} {K : Nat → Int} {w w2 w3 : World} {e : Ending} (h : St n Z R rc ix P c K w w2) (hG : c < G) (hd : Hd n Z R rc ix (P + 1) c G K n (fun _ => false) s w2 e w3) : Vi n Z R rc ix P c G K s w w2 e w3 := by
  obtain ⟨b, he, hb, hg, hf, h0, h1⟩ := hd
  have hP : ¬ Pm n R G P := by
    have := h.Pc
    rintro (h2 | ⟨i, hi, h2⟩)
    · omega
    · have := h.bo i hi; omega
  have hbel : Below w.heap.size w w3 := h.bel.trans (hf.below h.bel.size (fun j hj => by
    have := h.hP
    have := h.Pc
    rcases hj with h2 | ⟨i, hi, h2⟩
    · omega
    · have := h.bo i hi; omega))
  have st : ∀ K', Ks n K' R w3 → St n Z R rc ix P c K' w w3 := fun K' k' => ⟨hg, k', fv_fx h.pr hf hP, h.bo, h.up_, h.Pc, Nat.lt_of_lt_of_le h.cl hf.size, hbel, h.hP⟩
  cases b
  · exact ⟨false, K, he, st K (h0 rfl).1, hb, fun _ => rfl, (fun h => by cases h), fun _ _ _ => rfl, hf⟩
  · obtain ⟨K', k', d, e'⟩ := h1 rfl
    exact ⟨true, K', he, st K' k', hb, (fun h => by cases h), fun _ => d, e', hf⟩
/-- The second visit agrees with the first. -/
theorem agree {n s : Nat} {Z : Nat → List Int} {K K' K'' : Nat → Int} {b b2 : Bool} (h1 : b = (go K Z (n + 1) (fun _ => false) s).1) (h2 : b = false → K' = K) (h3 : b = true → dyn (K' s) = true)
    (g1 : b2 = (go K' Z (n + 1) (fun _ => false) s).1) (g2 : b2 = false → K'' = K') (g4 : dyn (K' s) = true → ∀ i, i < n → K'' i = K' i) : b2 = b ∧ ∀ i, i < n → K'' i = K' i := by
  cases b
  · have e := h2 rfl
    rw [e] at g1
    have hb : b2 = false := by rw [g1, ← h1]
    exact ⟨hb, fun i _ => by rw [g2 hb]⟩
  · have d := h3 rfl
    rw [go_dyn d] at g1
    exact ⟨g1, g4 d⟩
theorem st_of {n c : Nat} {Z : Nat → List Int} {R rc ix : Nat → Nat} {K : Nat → Int} {w w1 w2 : World} (h : Lb n n K Z R rc ix w w1) (hc : w2.cell? ⟨c, 10, none⟩ = some (.slice (some ⟨w.heap.size + 1, 0, none⟩) n n)) (h1 : w1.heap.size ≤ c) (h2 : c < w2.heap.size) (hb : Below w1.heap.size w1 w2) : St n Z R rc ix w.heap.size c K w w2 := by
  have g2 : Gf n Z R rc ix (w.heap.size + 1) w2 := h.gf.of_cells fun b o v hv _ => cell_later hb hv
  refine ⟨g2.gs hc, h.ks.later hb, (h.pr.below hb h.pr.lt).congr (fun i hi => by unfold upto; rw [if_pos hi]), fun i hi => ?_, h.bo.up_, by have := h.sz; omega, h2, h.bel.trans (hb.mono h.bel.size), rfl⟩
  have := h.bo.at_ i hi
  omega
theorem vs_new {n : Nat} (w : World) : Vs n (fun _ => false) w.heap.size (w.alloc (.map #[] 0)) := ⟨0, _, mapF_made w 23, fun _ _ => rfl⟩
theorem info68 : (Try.prog.info? 68).map (fun i => (i.zero, i.size, i.bytes)) = some (some (.int .u8 0), 1, 1) := by kernel_rfl
set_option maxRecDepth 100000 in
set_option maxHeartbeats 8000000 in
theorem law (A0 : Option Addr) (n c0 : Nat) (K0 : Nat → Int) (Y0 : Nat → Option Addr) (L0 C0 : Nat → Nat) (Z0 : Nat → List Int) (a1 : Int) (w : World) (w0 : Argp.IsPairs .u8 .i32 w A0 n c0 K0 Y0 L0 C0 Z0) (w1 : (Lit.int .u32 a1).wf = true) :
    Calls Try.prog 3 #[.slice A0 n c0, .int .u32 a1] w fun e w' => e = .returned (.bool true) ∧ Below w.heap.size w w' := by
  have H := Lib.hid w0
  obtain ⟨s, hs⟩ : ∃ s : Nat, a1 = (s : Int) := ⟨a1.toNat, by simp [Lit.wf, IntKind.min, IntKind.max, IntKind.bits, IntKind.signed] at w1; omega⟩
  have s4 : s < 4294967296 := by simp [Lit.wf, IntKind.min, IntKind.max, IntKind.bits, IntKind.signed] at w1; omega
  subst hs
  have HB0 := Lib.hid (Below.refl w.heap.size w)
  clear w0 w1
  go_enter Try.func3, Try.ntmps3
  go_wp2_with fail
  refine (bytes4 A0 n c0 K0 Y0 L0 C0 Z0 s w H.out).mono ?_
  rintro e w1 ⟨b, rfl, hb, rfl⟩
  cases b
  · go_wp2_with fail
    go_ret
    exact ⟨rfl, HB0.out⟩
  obtain ⟨n20, hL⟩ := hb rfl
  have HL := Lib.hid hL
  clear hb hL
  go_wp2_with fail
  refine (fit5 A0 n c0 K0 Y0 L0 C0 Z0 w H.out HL.out n20).mono ?_
  rintro e w1 ⟨b, rfl, hb, rfl⟩
  cases b
  · go_wp2_with fail
    go_ret
    exact ⟨rfl, HB0.out⟩
  obtain ⟨n4, hT⟩ := hb rfl
  have HT := Lib.hid hT
  clear hb hT
  have wn : IntKind.u32.wrap (n : Int) = (n : Int) := IntWalk.u32_in _ (by omega)
  by_cases hsn : s < n
  case neg =>
    have t0 : decide (n ≤ s) = true := by simp; omega
    go_wp2_with fail
    go_ret
    exact ⟨rfl, HB0.out⟩
  have t0 : decide (n ≤ s) = false := by simp; omega
  go_wp2_with fail
  refine (bld6 A0 n c0 K0 Y0 L0 C0 Z0 w H.out n4 HL.out HT.out).mono ?_
  rintro e w1 ⟨R, rc, ix, rfl, hlb⟩
  have LB := Lib.hid hlb
  clear hlb
  go_wp2_with fail
  refine (link7 (w.heap.size + 1) n w1).mono ?_
  rintro e w2 ⟨⟨c, rfl, hc, hc1, hc2⟩, hb2⟩
  have ST := Lib.hid (st_of LB.out hc hc1 hc2 hb2)
  have HZ := Lib.hid (show ∀ i, i < n → (Z0 i).length ≤ 1048576 from fun i hi => by rw [(H.out.row i hi).2.2.1]; exact HL.out i hi)
  have HTT := Lib.hid (show ∀ i, i < n → ∀ j, j < (Z0 i).length → (Z0 i).getD j 0 < (n : Int) from fun i hi j hj => HT.out i hi j (by rw [(H.out.row i hi).2.2.1] at hj; exact hj))
  have hmm := fun W => @run_makeMap Try.prog 33 W
  have HSN := Lib.hid hsn
  clear hc hc1 hc2 hb2 hsn
  go_wp2_with fail
  have ST2 := Lib.hid (ST.out.later ((Below.refl _ _).alloc (Nat.le_refl _) (.map #[] 0)))
  refine (has8 (ST2.out.geo (G := w2.heap.size) ST.out.cl) n4 HZ.out HTT.out _ s ST2.out.gs ST2.out.ks (vs_new w2) HSN.out).mono ?_
  intro e w3 hd3
  have hvi := visit ST2.out (G := w2.heap.size) ST.out.cl hd3
  obtain ⟨b, K1, rfl, st3, e1, e2, e3, _, _⟩ := hvi
  have ST3 := Lib.hid st3
  have E1 := Lib.hid e1
  have E2 := Lib.hid e2
  have E3 := Lib.hid e3
  clear hd3 st3 e1 e2 e3
  have hm5 := run_make_row' (P := Try.prog) 34 68 (.int .u8 0) 1 Try.underlying34 info68 rfl .i64 .i64 n (by omega) (by omega) w3
  go_wp2_with fail
  clear hm5
  obtain ⟨g, hg⟩ : ∃ g, g = w3.heap.size := ⟨_, rfl⟩
  have F0 := fv_made w3 68 (.int .u8 0) n
  have B0 : Below w3.heap.size w3 (w3.alloc (.cells (madeCells #[.int .u8 0] n) 68)) := (Below.refl _ _).alloc (Nat.le_refl _) _
  rw [← hg] at F0 B0 ⊢
  have FF := Lib.hid F0
  have BB := Lib.hid B0
  have HG := Lib.hid hg
  clear F0 B0 hg
  go_loopw [11] (fun i wr => ∃ k : Nat, k ≤ n ∧ i = .int .i64 k ∧ Fv wr g n (upto (fun i => .int .u8 (K1 i)) (.int .u8 0) k) ∧ Below g w3 wr) (fun i _ => n - (intOf i).toNat)
  case atStart => exact ⟨0, Nat.zero_le _, rfl, FF.out.congr (fun i hi => by simp [upto]), BB.out⟩
  case round =>
    clear FF BB
    obtain ⟨k, hk, rfl, hfv, hbr⟩ := hrel
    have FV := Lib.hid hfv
    have BR := Lib.hid hbr
    by_cases hlt : k < n
    · have x0 := hfv.at_ (i := k) hlt (v := .int .u8 0) (by unfold upto; rw [if_neg (Nat.lt_irrefl k)])
      have f0 := hfv.frozen k
      have hbr' := hbr
      rw [HG.out] at hbr'
      have p0 := cell_later hbr' (ST3.out.pr.cell k hlt)
      have k0 := cell_later hbr' (ST3.out.ks.cell k hlt)
      have NX := Lib.hid (show Fv (wr.setCell ⟨g, k, none⟩ (.int .u8 (K1 k))) g n (upto (fun i => .int .u8 (K1 i)) (.int .u8 0) (k + 1)) from (hfv.set hlt (.int .u8 (K1 k))).congr (fun i hi => upto_step (fun i => .int .u8 (K1 i)) _ _ _))
      have NB := Lib.hid (show Below g w3 (wr.setCell ⟨g, k, none⟩ (.int .u8 (K1 k))) from hbr.setCell (p := ⟨g, k, none⟩) (Nat.le_refl _) _)
      clear hbr' hfv hbr
      go_wp2
      go_roundw
      case rel => exact ⟨k + 1, by omega, by go_num, NX.out, NB.out⟩
      case measure => simp [intOf]; omega
    · obtain rfl : n = k := by omega
      obtain ⟨w4, hw4⟩ : ∃ w4, w4 = wr := ⟨_, rfl⟩
      rw [← hw4] at FV BR ⊢
      have ST4 := Lib.hid (ST3.out.later (by have := BR.out; rw [HG.out] at this; exact this))
      have ST5 := Lib.hid (ST4.out.later ((Below.refl _ _).alloc (Nat.le_refl _) (.map #[] 0)))
      have FA := Lib.hid ((FV.out.congr (V' := fun i => .int .u8 (K1 i)) (fun i hi => by unfold upto; rw [if_pos hi])).below ((Below.refl w4.heap.size w4).alloc (Nat.le_refl _) (.map #[] 0)) FV.out.lt)
      clear hw4 hfv hbr
      go_wp2_with fail
      refine (has8 (ST5.out.geo (G := w4.heap.size) ST4.out.cl) n4 HZ.out HTT.out _ s ST5.out.gs ST5.out.ks (vs_new w4) HSN.out).mono ?_
      intro e w5 hd5
      have hvi := visit ST5.out (G := w4.heap.size) ST4.out.cl hd5
      obtain ⟨b2, K2, rfl, st5, q1, q2, q3, q4, qf⟩ := hvi
      obtain ⟨hbb, hkk⟩ := agree E1.out E2.out E3.out q1 q2 q4
      have ST6 := Lib.hid st5
      have FB := Lib.hid (fv_fx FA.out qf (by
        have h1 := ST3.out.cl
        have h2 := HG.out
        have h3 := FV.out.lt
        rintro (h | ⟨i, hi, h⟩)
        · omega
        · have := ST3.out.bo i hi; omega))
      have HKK := Lib.hid hkk
      clear hd5 st5 q1 q2 q3 q4 qf hkk
      subst hbb
      have hne : (b2 != b2) = false := by simp
      go_wp2_with fail
      have LP := Lib.hid (Below.refl w5.heap.size w5)
      go_loopw [13] (fun i wr => ∃ k : Nat, k ≤ n ∧ i = .int .i64 k ∧ Below w5.heap.size w5 wr) (fun i _ => n - (intOf i).toNat)
      case atStart => exact ⟨0, Nat.zero_le _, rfl, LP.out⟩
      case round =>
        clear LP
        obtain ⟨k, hk, rfl, hbr⟩ := hrel
        have BR5 := Lib.hid hbr
        by_cases hlt : k < n
        · have p0 := cell_later hbr (ST6.out.pr.cell k hlt)
          have k0 := cell_later hbr (ST6.out.ks.cell k hlt)
          have a0 := cell_later hbr (FB.out.cell k hlt)
          rw [HKK.out k hlt] at k0
          obtain ⟨κ, hκ⟩ : ∃ x, x = K1 k := ⟨_, rfl⟩
          rw [← hκ] at k0 a0
          clear hbr hκ
          go_wp2_with fail
          go_quiet (fail)
          go_wp2_with fail
          go_roundw
          case rel => exact ⟨k + 1, by omega, by go_num, below_drewN BR5.out _⟩
          case measure => simp [intOf]; omega
        · obtain rfl : n = k := by omega
          have FIN := Lib.hid (ST6.out.bel.trans (hbr.mono ST6.out.bel.size))
          clear hbr
          go_wp2_with fail
          go_ret
          exact ⟨rfl, FIN.out⟩
end Go.Proofs.Ytidkddnbckbegaa.HdL
