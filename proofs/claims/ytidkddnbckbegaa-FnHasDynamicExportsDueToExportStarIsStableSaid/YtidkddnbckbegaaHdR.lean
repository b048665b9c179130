/- FnHasDynamicExportsDueToExportStarIsStable: the search. -/
import Derived.Test.YtidkddnbckbegaaRows
import Derived.Test.YtidkddnbckbegaaMem
import Derived.Test.YtidkddnbckbegaaSl
import Derived.Test.YtidkddnbckbegaaHdS
import Derived.Deep.RegionHeld3
import Derived.Deep.RegionLaw
import Derived.Deep.RegionWith
import Derived.Carry
import Derived.Deep.DeepCutAuto
import Derived.WalkKit
import Derived.ProofKit
import Derived.OpenShut
import Derived.Below
import Derived.WalkLawsBesides
import Derived.Lib.Hide
import Derived.Outline
import Derived.RegionTactic
import Derived.Deep.QuietTactic
import Derived.BigQuiet
import Derived.WalkSpells
import Derived.Deep.OwnRows
import Derived.IntWalk
import Derived.Deep.DeepMust
namespace Go.Proofs.Ytidkddnbckbegaa.HdR
open Go.RowKit Mem Sl
set_option linter.unusedVariables false
open Args Fvs Fxs HdP HdA HdC HdS MapK Go.Maps

section
variable {n : Nat} {Z : Nat → List Int} {R rc ix : Nat → Nat} {F c G : Nat} {K : Nat → Int}
theorem hd_dyn {k s : Nat} {V : Nat → Bool} {w : World} (h : Gs n Z R rc ix F c w) (hk : Ks n K R w) (hd : dyn (K s) = true) : Hd n Z R rc ix F c G K k V s w (.returned (.bool true)) w := by
  refine ⟨true, rfl, by rw [go_dyn hd], h, Fx.refl _ _, (fun h => by cases h), fun _ => ⟨K, hk, hd, fun _ _ _ => rfl⟩⟩
theorem hd_seen {k s : Nat} {V : Nat → Bool} {w : World} (h : Gs n Z R rc ix F c w) (hk : Ks n K R w) (hv : Vs n V G w) (hd : dyn (K s) = false) (hs : V s = true) : Hd n Z R rc ix F c G K k V s w (.returned (.bool false)) w := by
  refine ⟨false, rfl, by rw [go_seen hd hs], h, Fx.refl _ _, fun _ => ⟨hk, ?_, fun x hx => ?_⟩, (fun h => by cases h)⟩
  · rw [go_seen hd hs]; exact hv
  · rw [go_seen hd hs]; exact hx
theorem dyn_no {x : Int} (h1 : (x == 1) = false) (h3 : (x == 3) = false) : dyn x = false := by unfold dyn; rw [h1, h3]; rfl
theorem dyn_1 {x : Int} (h1 : (x == 1) = true) : dyn x = true := by unfold dyn; rw [h1]; rfl
theorem dyn_3 {x : Int} (h3 : (x == 3) = true) : dyn x = true := by unfold dyn; rw [h3]; simp
theorem assert84 (a : Option Addr) (w : World) : (Instr.typeAssert (.iface 84 (.pointer a)) 107 84 false).run Try.prog w = .ok (.pointer a) w := by kernel_rfl
theorem in_start {k s : Nat} {V : Nat → Bool} {w w1 : World} {cnt' : Nat} {f : Value → Option Value} (q : Geo n R rc ix F c G) (h : Gs n Z R rc ix F c w) (hk : Ks n K R w) (hs : s < n) (hf : ∀ u, u < n → (f (.int .u32 (u : Int))).getD (.bool false) = .bool (V u)) (hm : MapF Try.prog w1 G 23 cnt' (put f (.int .u32 (s : Int)) (.bool true))) (hg : w.grownBy w1 (some G)) :
    In n Z R rc ix F c G K k V s w 0 (upv V s) w1 :=
  ⟨h.map q hg, hk.map q hg, Vs.mark hs hf hm, fun _ hx => hx, by rw [List.drop_zero], Fx.of_map hg⟩
theorem drop_at {s j ln : Nat} {t : Int} (ht : t = (Z s).getD j 0) (hl : ln = (Z s).length) (hj : j < ln) : (Z s).drop j = t :: (Z s).drop (j + 1) := by
  subst ht
  have hl' : j < (Z s).length := by omega
  rw [List.drop_eq_getElem_cons hl']
  simp [List.getD, hl']
theorem hd_ext {k s j : Nat} {t : Int} {V V' : Nat → Bool} {w wa : World} (hd : dyn (K s) = false) (hv : V s = false) (h : (Z s).drop j = t :: (Z s).drop (j + 1)) (ht : t < 0) (e : goL (go K Z (k + 1)) s ((Z s).drop j) V' = goL (go K Z (k + 1)) s (Z s) (upv V s))
    (hg : Gs n Z R rc ix F c wa) (hk : Ks n K R wa) (hx : Fx (Pm n R G) w wa) (q : Geo n R rc ix F c G) (hs : s < n) : Hd n Z R rc ix F c G K (k + 1) V s w (.returned (.bool true)) (wa.setCell ⟨R s, 62, none⟩ (.int .u8 3)) := by
  refine ⟨true, rfl, ?_, hg.set q hs _, hx.setCell (p := ⟨R s, 62, none⟩) (.inr ⟨s, hs, rfl⟩) _, (fun h => by cases h), fun _ => ⟨_, hk.set q hs 3, by rw [up_self]; rfl, fun h => by rw [hd] at h; cases h⟩⟩
  rw [go_scan hd hv, ← e, h, goL_ext ht]
theorem hd_end {k s ln : Nat} {V V' : Nat → Bool} {w wr : World} (hd : dyn (K s) = false) (hv : V s = false) (hl : ln = (Z s).length) (h : In n Z R rc ix F c G K k V s w ln V' wr) : Hd n Z R rc ix F c G K (k + 1) V s w (.returned (.bool false)) wr := by
  have e : go K Z (k + 1 + 1) V s = (false, V') := by
    rw [go_scan hd hv, ← h.eq, hl, List.drop_length]; rfl
  refine ⟨false, rfl, by rw [e], h.gs, h.fx, fun _ => ⟨h.ks, by rw [e]; exact h.vs, fun x hx => ?_⟩, (fun h => by cases h)⟩
  rw [e]
  exact h.le x (up_le V s x hx)
theorem neg_nat (u : Nat) : ¬ ((u : Nat) : Int) < 0 := by omega
theorem in_self {k s j u : Nat} {V V' : Nat → Bool} {w wr wc : World} (h : (Z s).drop j = (u : Int) :: (Z s).drop (j + 1)) (us : u = s) (hi : In n Z R rc ix F c G K k V s w j V' wr) (hb : Below wr.heap.size wr wc) : In n Z R rc ix F c G K k V s w (j + 1) V' wc :=
  ⟨hi.gs.later hb, hi.ks.later hb, hi.vs.later hb, hi.le, by rw [← hi.eq, h, goL_self (neg_nat u) us], hi.fx.trans (Fx.of_below hb)⟩
theorem in_next {k s j u : Nat} {V V' : Nat → Bool} {w wr we : World} (h : (Z s).drop j = (u : Int) :: (Z s).drop (j + 1)) (us : ¬ u = s) (hi : In n Z R rc ix F c G K k V s w j V' wr)
    (hg : Gs n Z R rc ix F c we) (hk : Ks n K R we) (hv : Vs n (go K Z (k + 1) V' u).2 G we) (hl : ∀ x, V' x = true → (go K Z (k + 1) V' u).2 x = true) (hx : Fx (Pm n R G) w we) (hb : false = (go K Z (k + 1) V' u).1) : In n Z R rc ix F c G K k V s w (j + 1) (go K Z (k + 1) V' u).2 we :=
  ⟨hg, hk, hv, fun x hx => hl x (hi.le x hx), by rw [← hi.eq, h, goL_no (neg_nat u) us hb.symm]; rfl, hx⟩
theorem hd_yes {k s j u : Nat} {K' : Nat → Int} {V V' : Nat → Bool} {w wa : World} (hd : dyn (K s) = false) (hv : V s = false) (h : (Z s).drop j = (u : Int) :: (Z s).drop (j + 1)) (us : ¬ u = s) (e : goL (go K Z (k + 1)) s ((Z s).drop j) V' = goL (go K Z (k + 1)) s (Z s) (upv V s))
    (hb : true = (go K Z (k + 1) V' u).1) (hg : Gs n Z R rc ix F c wa) (hk : Ks n K' R wa) (hx : Fx (Pm n R G) w wa) (q : Geo n R rc ix F c G) (hs : s < n) : Hd n Z R rc ix F c G K (k + 1) V s w (.returned (.bool true)) (wa.setCell ⟨R s, 62, none⟩ (.int .u8 3)) := by
  refine ⟨true, rfl, ?_, hg.set q hs _, hx.setCell (p := ⟨R s, 62, none⟩) (.inr ⟨s, hs, rfl⟩) _, (fun h => by cases h), fun _ => ⟨_, hk.set q hs 3, by rw [up_self]; rfl, fun h => by rw [hd] at h; cases h⟩⟩
  rw [go_scan hd hv, ← e, h, goL_yes (neg_nat u) us hb.symm]
set_option maxRecDepth 100000 in
set_option maxHeartbeats 8000000 in
theorem early11 (h4 : n ≤ 4096) (k : Nat) (w : World) (V : Nat → Bool) (s : Nat) (hg : Gs n Z R rc ix F c w) (hk : Ks n K R w) (hv : Vs n V G w) (hs : s < n) (hor : dyn (K s) = true ∨ V s = true) :
    Calls Try.prog 11 #[.pointer (some ⟨c, 0, none⟩), .int .u32 (s : Int), .map (some G)] w (Hd n Z R rc ix F c G K k V s w) := by
    have cf := hg.cf
    have f2 := hg.f2 s hs
    have r62 := hk.cell s hs
    have g62 := hk.fz s hs
    obtain ⟨κ, hκ⟩ : ∃ x, x = K s := ⟨_, rfl⟩
    rw [← hκ] at r62
    have G0 := Lib.hid hg
    have K0 := Lib.hid hk
    have V0 := Lib.hid hv
    have HOR := Lib.hid hor
    have HKP := Lib.hid hκ
    have hs4 : (s : Int) < (n : Int) := by omega
    have ass := fun W => assert84 (some ⟨R s, 0, none⟩) W
    clear hg hk hv hκ hor
    cases h1 : (κ == 1)
    case true =>
      go_enter Try.func11, Try.ntmps11
      go_wp2
      go_ret
      exact hd_dyn G0.out K0.out (dyn_1 (by rw [← HKP.out]; exact h1))
    cases h3 : (κ == 3)
    case true =>
      go_enter Try.func11, Try.ntmps11
      go_wp2
      go_ret
      exact hd_dyn G0.out K0.out (dyn_3 (by rw [← HKP.out]; exact h3))
    have HD := Lib.hid (dyn_no (x := K s) (by rw [← HKP.out]; exact h1) (by rw [← HKP.out]; exact h3))
    have hvs : V s = true := by
      rcases HOR.out with h | h
      · rw [HD.out] at h; cases h
      · exact h
    have hlk := V0.out.look hs h4 hvs
    go_enter Try.func11, Try.ntmps11
    go_wp2
    go_ret
    exact hd_seen G0.out K0.out V0.out HD.out hvs
set_option maxRecDepth 100000 in
set_option maxHeartbeats 8000000 in
theorem has11 (q : Geo n R rc ix F c G) (h4 : n ≤ 4096) (hz : ∀ i, i < n → (Z i).length ≤ 1048576) (ht : ∀ i, i < n → ∀ j, j < (Z i).length → (Z i).getD j 0 < (n : Int)) : ∀ (k : Nat) (w : World) (V : Nat → Bool) (s : Nat), Gs n Z R rc ix F c w → Ks n K R w → Vs n V G w → uv V n ≤ k → s < n →
    Calls Try.prog 11 #[.pointer (some ⟨c, 0, none⟩), .int .u32 (s : Int), .map (some G)] w (Hd n Z R rc ix F c G K k V s w) := by
  intro k
  have HT := Lib.hid ht
  have HL := Lib.hid hz
  have Q := Lib.hid q
  clear ht hz q
  induction k with
  | zero =>
    intro w V s hg hk hv hu hs
    refine early11 h4 0 w V s hg hk hv hs (.inr ?_)
    cases hvs : V s
    · have h9 := uv_up hvs (n := n)
      rw [if_pos hs] at h9
      omega
    · rfl
  | succ k ih =>
    intro w V s hg hk hv hu hs
    have IH := Lib.hid ih
    clear ih
    cases hdy : dyn (K s)
    case true => exact early11 h4 (k + 1) w V s hg hk hv hs (.inl hdy)
    cases hvs : V s
    case true => exact early11 h4 (k + 1) w V s hg hk hv hs (.inr hvs)
    have HD := Lib.hid hdy
    have h1 : (K s == 1) = false := by unfold dyn at hdy; revert hdy; cases (K s == 1) <;> simp
    have h3 : (K s == 3) = false := by unfold dyn at hdy; revert hdy; cases (K s == 3) <;> simp
    clear hdy
    have cf := hg.cf
    have f2 := hg.f2 s hs
    have r62 := hk.cell s hs
    have g62 := hk.fz s hs
    have r38 := hg.r38 s hs
    obtain ⟨κ, hκ⟩ : ∃ x, x = K s := ⟨_, rfl⟩
    obtain ⟨ln, hln⟩ : ∃ l, l = (Z s).length := ⟨_, rfl⟩
    rw [← hκ] at r62 h1 h3
    rw [← hln] at r38
    have hl4 : ln ≤ 1048576 := by rw [hln]; exact HL.out s hs
    have G0 := Lib.hid hg
    have K0 := Lib.hid hk
    have V0 := Lib.hid hv
    have U0 := Lib.hid hu
    have HKP := Lib.hid hκ
    have HLN := Lib.hid hln
    have hs4 : (s : Int) < (n : Int) := by omega
    have ass := fun W => assert84 (some ⟨R s, 0, none⟩) W
    clear hg hk hv hu hκ hln
    have hlk := V0.out.look hs h4 hvs
    have HVS := Lib.hid hvs
    have HSN := Lib.hid hs
    obtain ⟨cnt, f, hm1, hf1⟩ := V0.out.mp
    have HM := Lib.hid hm1
    have HF := Lib.hid hf1
    have HU1 := Lib.hid (show uv (upv V s) n ≤ k by have h9 := uv_up hvs (n := n); rw [if_pos hs] at h9; have := U0.out; omega)
    clear hm1 hf1 hvs hs
    go_enter Try.func11, Try.ntmps11
    go_wp2_with (refine wpList_mapUpdate_f _ rfl _ _ _ 33 rfl 4 23 Try.underlying33 keyed23 G cnt f rfl HM.out (.int .u32 (s : Int)) (.bool true) rfl rfl (key_u32 s (by omega)) ?_; intro w1 hm1 hg1 hs1; have i1 := in_start (k := k) Q.out G0.out K0.out HSN.out HF.out hm1 hg1; have r38' := i1.gs.r38 s HSN.out; rw [← HLN.out] at r38'; have I0 := Lib.hid i1; clear hm1 hg1 hs1 i1)
    go_wp2
    clear r38' cf f2 r62 g62 r38 hlk
    go_loopw [47] (fun i wr => ∃ (j : Nat) (V' : Nat → Bool), j ≤ ln ∧ i = .int .i64 j ∧ In n Z R rc ix F c G K k V s w j V' wr) (fun i _ => ln - (intOf i).toNat)
    case atStart => exact ⟨0, _, Nat.zero_le _, rfl, I0.out⟩
    case round =>
      clear I0
      obtain ⟨j, V', hj, rfl, hin⟩ := hrel
      have HIN := Lib.hid hin
      by_cases hlt : j < ln
      · have cf := hin.gs.cf
        have f22 := hin.gs.f22 s HSN.out
        have r35 := hin.gs.r35 s HSN.out
        rw [← HLN.out] at r35
        have xj := hin.gs.ixd s HSN.out j (by rw [← HLN.out]; exact hlt)
        have rj := hin.gs.rcd s HSN.out j (by rw [← HLN.out]; exact hlt)
        have g62 := hin.ks.fz s HSN.out
        have r62 := hin.ks.cell s HSN.out
        obtain ⟨t, ht⟩ : ∃ t, t = (Z s).getD j 0 := ⟨_, rfl⟩
        rw [← ht] at rj
        have HTJ := Lib.hid ht
        have htn : t < (n : Int) := by rw [ht]; exact HT.out s HSN.out j (by rw [← HLN.out]; exact hlt)
        clear hin ht
        by_cases p0 : t < 0
        · have hfl : flip t = 0 := if_pos p0
          rw [hfl] at rj
          go_wp2_with fail
          refine (valid12 0 false rfl wr).mono ?_
          rintro e wa ⟨rfl, hba⟩
          have GA := Lib.hid (HIN.out.gs.later hba)
          have KA := Lib.hid (HIN.out.ks.later hba)
          have FA := Lib.hid (HIN.out.fx.trans (Fx.of_below hba))
          have cf' := GA.out.cf
          have f22' := GA.out.f22 s HSN.out
          have r62' := KA.out.cell s HSN.out
          have g62' := KA.out.fz s HSN.out
          clear hba cf f22 r35 xj rj g62 r62
          go_wp2_with fail
          refine (entry13 F (s * 24) wa f22').mono ?_
          rintro e wb ⟨rfl, rfl⟩
          go_wp2
          go_ret
          exact hd_ext HD.out HVS.out (drop_at HTJ.out HLN.out hlt) p0 HIN.out.eq GA.out KA.out FA.out Q.out HSN.out
        · have hfl : flip t = 4294967295 - t := if_neg p0
          obtain ⟨u, hu⟩ : ∃ u : Nat, t = (u : Int) := ⟨t.toNat, by omega⟩
          subst hu
          rw [hfl] at rj
          have hx : (4294967295 - (u : Int) != 0) = true := by simp; omega
          have u4 : u < 4294967296 := by omega
          have un : u < n := by omega
          go_wp2_with fail
          refine (valid12 _ true hx wr).mono ?_
          rintro e wa ⟨rfl, hba⟩
          have rja := cell_later hba rj
          have HBA := Lib.hid hba
          clear hba
          go_wp2_with fail
          refine (valid12 _ true hx wa).mono ?_
          rintro e wb ⟨rfl, hbb⟩
          have rjb := cell_later hbb rja
          have HBB := Lib.hid (HBA.out.trans (hbb.mono HBA.out.size))
          clear hbb rja HBA
          go_wp2_with fail
          refine (get15 u u4 wb).mono ?_
          rintro e wc ⟨rfl, hbc⟩
          have rjc := cell_later hbc rjb
          have HBC := Lib.hid (HBB.out.trans (hbc.mono HBB.out.size))
          clear hbc rjb HBB
          by_cases us : u = s
          · have hne : ((u : Int) != (s : Int)) = false := by simp; omega
            have I2 := Lib.hid (in_self (drop_at HTJ.out HLN.out hlt) us HIN.out HBC.out)
            go_wp2_with fail
            go_roundw
            case rel => exact ⟨j + 1, _, by omega, by go_num, I2.out⟩
            case measure => simp [intOf]; omega
          · have hne : ((u : Int) != (s : Int)) = true := by simp; omega
            go_wp2_with fail
            refine (get15 u u4 wc).mono ?_
            rintro e wd ⟨rfl, hbd⟩
            have HBD := Lib.hid (HBC.out.trans (hbd.mono HBC.out.size))
            have IHU := Lib.hid (IH.out wd V' u (HIN.out.gs.later HBD.out) (HIN.out.ks.later HBD.out) (HIN.out.vs.later HBD.out) (Nat.le_trans (uv_mono HIN.out.le n) HU1.out) un)
            clear hbd rjc HBC cf f22 r35 xj rj g62 r62
            go_wp2_with fail
            refine IHU.out.mono ?_
            rintro e we ⟨b, rfl, hb, hge, hfe, h0, h1'⟩
            have HB := Lib.hid hb
            have HGE := Lib.hid hge
            have HFE := Lib.hid (HIN.out.fx.trans ((Fx.of_below HBD.out).trans hfe))
            have H0' := Lib.hid h0
            have H1' := Lib.hid h1'
            clear hb hge hfe h0 h1' IHU
            cases b
            · obtain ⟨k0, v0, l0⟩ := H0'.out rfl
              have I2 := Lib.hid (in_next (drop_at HTJ.out HLN.out hlt) us HIN.out HGE.out k0 v0 l0 HFE.out HB.out)
              clear k0 v0 l0
              go_wp2_with fail
              go_roundw
              case rel => exact ⟨j + 1, _, by omega, by go_num, I2.out⟩
              case measure => simp [intOf]; omega
            · obtain ⟨K', k1, d1, _⟩ := H1'.out rfl
              have K1 := Lib.hid k1
              have D1 := Lib.hid d1
              have r62 := k1.cell s HSN.out
              have g62 := k1.fz s HSN.out
              clear k1 d1
              go_wp2_with fail
              go_ret
              exact hd_yes HD.out HVS.out (drop_at HTJ.out HLN.out hlt) us HIN.out.eq HB.out HGE.out K1.out HFE.out Q.out HSN.out
      · obtain rfl : ln = j := by omega
        clear hin
        go_wp2
        go_ret
        exact hd_end HD.out HVS.out HLN.out HIN.out
end
end Go.Proofs.Ytidkddnbckbegaa.HdR
