/- FnUpdateGeneratedLineAndColumnExact: appendMappingToBuffer. -/
import Derived.Test.YtmakaafjkeeooacDoorRows
import Derived.Test.YtmakaafjkeeooacDoorMem
import Derived.Test.YtmakaafjkeeooacDoorSl
import Derived.Test.YtmakaafjkeeooacDoorUgB
import Derived.Deep.DeepCutAuto
import Derived.WalkKit
import Derived.ProofKit
import Derived.OpenShut
import Derived.Below
import Derived.WalkLawsBesides
import Derived.Lib.Hide
import Derived.Outline
import Derived.RegionTactic
import Derived.Deep.QuietTactic
import Derived.BigQuiet
import Derived.WalkSpells
import Derived.Deep.OwnRows
import Derived.IntWalk
import Derived.Deep.DeepMust
namespace Go.Proofs.YtmakaafjkeeooacDoor.UgC
open Go.RowKit Mem Sl
set_option linter.unusedVariables false
open Own Vq Dec Lin Str Prn Owg UgA UgB Args

def st7 (l g a o c : Int) : Array Value := #[.int .i64 l, .int .i64 g, .int .i64 a, .int .i64 o, .int .i64 c, .int .i64 0, .bool false]
def Sm (x : Int) : Prop := -2147483648 ≤ x ∧ x ≤ 2147483648
def seg4 (g a o c : Int) : List Int := code (vlqOf g) ++ (code (vlqOf a) ++ (code (vlqOf o) ++ code (vlqOf c)))
theorem seg4_len (g a o c : Int) (hg : -4294967296 ≤ g ∧ g ≤ 4294967296) (ha : -4294967296 ≤ a ∧ a ≤ 4294967296) (ho : -4294967296 ≤ o ∧ o ≤ 4294967296) (hc : -4294967296 ≤ c ∧ c ≤ 4294967296) : (seg4 g a o c).length ≤ 28 := by
  have h1 := code_lenw _ (vlqOf_ltw hg.1 hg.2)
  have h2 := code_lenw _ (vlqOf_ltw ha.1 ha.2)
  have h3 := code_lenw _ (vlqOf_ltw ho.1 ho.2)
  have h4 := code_lenw _ (vlqOf_ltw hc.1 hc.2)
  unfold seg4
  simp only [List.length_append]
  omega
def Sep (lb : Int) (sep : List Int) : Prop := (sep = [] ∧ (lb = 0 ∨ lb = 59)) ∨ (sep = [44] ∧ lb = 71)
def Apd (B : Nat) (w : World) (v : Value) (zs : List Int) (e : Ending) (w' : World) : Prop := ∃ A n c, e = .returned (.tuple #[.slice A n c, .agg #[.int .u32 0]]) ∧ Own w' B 5 .u8 (.slice A n c) zs ∧ Gr w v w' (.slice A n c)
def SevenAt (W : World) (b : Nat) (l g a o c : Int) : Prop := Row W b 30 [.int .i64 l, .int .i64 g, .int .i64 a, .int .i64 o, .int .i64 c, .int .i64 0, .bool false]
theorem apd_end {w W : World} {B : Nat} {v : Value} {zs : List Int} {A : Option Addr} {n c : Nat} {g : Nat} (ho : Own W B 5 .u8 (.slice A n c) zs) (hgr : Gr w v W (.slice A n c)) (hg : w.heap.size ≤ g) (hr : Row W g 50 [.int .u32 0]) (u : Value) (k : Nat) :
    Own ((W.setCell ⟨g, 0, none⟩ u).drewN k) B 5 .u8 (.slice A n c) zs ∧ Gr w v ((W.setCell ⟨g, 0, none⟩ u).drewN k) (.slice A n c) := by
  have hne : Value.ownBlock (.slice A n c) ≠ some g := by
    intro e
    obtain ⟨_, cur, hc⟩ := own_cur ho g e
    unfold Row at hr
    rw [hr] at hc
    injection hc with hc
    injection hc with _ hc
    cases hc
  have hb : Below g W (W.setCell ⟨g, 0, none⟩ u) := (Below.refl g W).setCell (p := ⟨g, 0, none⟩) (Nat.le_refl g) u
  refine ⟨?_, fun p => Prn.Step.drewN ⟨hb.os.trans (hgr p).os, hb.tape.trans (hgr p).tape, hb.output.trans (hgr p).output, Nat.le_trans (hgr p).size hb.size, fun j hj hp hv => (Below.heap_setCell W ⟨g, 0, none⟩ u j (by simp only; omega)).trans ((hgr p).block j hj hp hv), (hgr p).at_⟩ k⟩
  · refine ⟨ho.1, ?_⟩
    rcases ho.2 with h0 | ⟨g', cap, cur, h0, hh0, hh, r⟩
    · exact .inl h0
    · refine .inr ⟨g', cap, cur, h0, hh0, ?_, r⟩
      have : g' ≠ g := fun e => hne (by rw [h0]; exact congrArg some e)
      show (W.setCell ⟨g, 0, none⟩ u).heap[g']? = _
      rw [Below.heap_setCell _ _ _ _ this]
      exact hh
set_option maxRecDepth 100000 in
set_option maxHeartbeats 16000000 in
theorem app24 (B : Nat) (v : Value) (zs : List Int) (lb : Int) (sep : List Int) (l0 g0 a0 o0 c0 l g a o c : Int) (w : World) (hb : B64 B w) (hown : Own w B 5 .u8 v zs) (hz : zs.length ≤ 90000000) (hsep : Sep lb sep)
    (h1 : Sm g0) (h2 : Sm a0) (h3 : Sm o0) (h4 : Sm c0) (h5 : Sm g) (h6 : Sm a) (h7 : Sm o) (h8 : Sm c) :
    Calls Tryd.prog 24 #[v, .int .u8 lb, .agg #[.int .i64 l0, .int .i64 g0, .int .i64 a0, .int .i64 o0, .int .i64 c0, .int .i64 0, .bool false], .agg #[.int .i64 l, .int .i64 g, .int .i64 a, .int .i64 o, .int .i64 c, .int .i64 0, .bool false], .bool false] w (Apd B w v (zs ++ sep ++ seg4 (g - g0) (a - a0) (o - o0) (c - c0))) := by
  obtain ⟨g1, g2⟩ := h1
  obtain ⟨a1, a2⟩ := h2
  obtain ⟨o1, o2⟩ := h3
  obtain ⟨c1, c2⟩ := h4
  obtain ⟨g3, g4⟩ := h5
  obtain ⟨a3, a4⟩ := h6
  obtain ⟨o3, o4⟩ := h7
  obtain ⟨c3, c4⟩ := h8
  have lg := Lib.hid (code_lenw _ (vlqOf_ltw (v := g - g0) (by omega) (by omega)))
  have la := Lib.hid (code_lenw _ (vlqOf_ltw (v := a - a0) (by omega) (by omega)))
  have lo := Lib.hid (code_lenw _ (vlqOf_ltw (v := o - o0) (by omega) (by omega)))
  have HBW := Lib.hid hb
  have HLT := Lib.hid hown.lt
  have hrows : ∀ W' v', Gr (((w.alloc (.cells #[.int .i64 l0, .int .i64 g0, .int .i64 a0, .int .i64 o0, .int .i64 c0, .int .i64 0, .bool false] 30)).alloc (.cells #[.int .i64 l, .int .i64 g, .int .i64 a, .int .i64 o, .int .i64 c, .int .i64 0, .bool false] 30)).alloc (.cells #[.int .u32 0] 50)) v W' v' →
      SevenAt W' w.heap.size l0 g0 a0 o0 c0 ∧ SevenAt W' (w.heap.size + 1) l g a o c ∧ Row W' (w.heap.size + 1 + 1) 50 [.int .u32 0] := by
    intro W' v' hb
    have s1 : (w.alloc (.cells #[.int .i64 l0, .int .i64 g0, .int .i64 a0, .int .i64 o0, .int .i64 c0, .int .i64 0, .bool false] 30)).heap.size = w.heap.size + 1 := by simp
    have s2 : ((w.alloc (.cells #[.int .i64 l0, .int .i64 g0, .int .i64 a0, .int .i64 o0, .int .i64 c0, .int .i64 0, .bool false] 30)).alloc (.cells #[.int .i64 l, .int .i64 g, .int .i64 a, .int .i64 o, .int .i64 c, .int .i64 0, .bool false] 30)).heap.size = w.heap.size + 1 + 1 := by simp
    have nv : ∀ k, w.heap.size ≤ k → v.ownBlock ≠ some k := fun k hk e => by have := (HLT.out k e).2; omega
    refine ⟨hb.row (((Row.newArr w 30 _).alloc _).alloc _) (nv _ (Nat.le_refl _)), ?_, ?_⟩
    · have h := hb.row (((Row.newArr (w.alloc (.cells #[.int .i64 l0, .int .i64 g0, .int .i64 a0, .int .i64 o0, .int .i64 c0, .int .i64 0, .bool false] 30)) 30 #[.int .i64 l, .int .i64 g, .int .i64 a, .int .i64 o, .int .i64 c, .int .i64 0, .bool false])).alloc (.cells #[.int .u32 0] 50)) (nv _ (by simp))
      rw [s1] at h
      exact h
    · have h := hb.row (Row.newArr ((w.alloc (.cells #[.int .i64 l0, .int .i64 g0, .int .i64 a0, .int .i64 o0, .int .i64 c0, .int .i64 0, .bool false] 30)).alloc (.cells #[.int .i64 l, .int .i64 g, .int .i64 a, .int .i64 o, .int .i64 c, .int .i64 0, .bool false] 30)) 50 #[.int .u32 0]) (nv _ (by simp; omega))
      rw [s2] at h
      exact h
  have hg3 : Gr w v (((w.alloc (.cells #[.int .i64 l0, .int .i64 g0, .int .i64 a0, .int .i64 o0, .int .i64 c0, .int .i64 0, .bool false] 30)).alloc (.cells #[.int .i64 l, .int .i64 g, .int .i64 a, .int .i64 o, .int .i64 c, .int .i64 0, .bool false] 30)).alloc (.cells #[.int .u32 0] 50)) v := (((Gr.refl w v).alloc _).alloc _).alloc _
  have HROWS := Lib.hid hrows
  have HG3 := Lib.hid hg3
  have HO3 := Lib.hid (show Own (((w.alloc (.cells #[.int .i64 l0, .int .i64 g0, .int .i64 a0, .int .i64 o0, .int .i64 c0, .int .i64 0, .bool false] 30)).alloc (.cells #[.int .i64 l, .int .i64 g, .int .i64 a, .int .i64 o, .int .i64 c, .int .i64 0, .bool false] 30)).alloc (.cells #[.int .u32 0] 50)) B 5 .u8 v zs from ((hown.alloc _).alloc _).alloc _)
  have HLOW := Lib.hid (own_low hown)
  have HS3 := Lib.hid (show (((w.alloc (.cells #[.int .i64 l0, .int .i64 g0, .int .i64 a0, .int .i64 o0, .int .i64 c0, .int .i64 0, .bool false] 30)).alloc (.cells #[.int .i64 l, .int .i64 g, .int .i64 a, .int .i64 o, .int .i64 c, .int .i64 0, .bool false] 30)).alloc (.cells #[.int .u32 0] 50)).heap.size = w.heap.size + 3 by simp)
  have hBw := hb.1
  clear hrows hg3 hown hb
  go_enter Tryd.func24, Tryd.ntmps24
  rcases hsep with ⟨rfl, rfl | rfl⟩ | ⟨rfl, rfl⟩
  · skip
    go_upto_region 3 with fail
    generalize hW3 : ((w.alloc (.cells #[.int .i64 l0, .int .i64 g0, .int .i64 a0, .int .i64 o0, .int .i64 c0, .int .i64 0, .bool false] 30)).alloc (.cells #[.int .i64 l, .int .i64 g, .int .i64 a, .int .i64 o, .int .i64 c, .int .i64 0, .bool false] 30)).alloc (.cells #[.int .u32 0] 50) = W3 at HROWS HG3 HO3 HS3 ⊢
    clear hW3
    have HGR0 := Lib.hid (Gr.refl W3 v)
    obtain ⟨rp0, rc0, rr0⟩ := HROWS.out W3 _ HGR0.out
    have e0 := rc0.at_ (i := 1) rfl
    have d0 := rp0.at_ (i := 1) rfl
    clear rp0 rc0 rr0
    have HE0 := Lib.hid (enc27 B v zs (g - g0) W3 (HBW.out.below ((HG3.out.trans HGR0.out).below HLOW.out hBw)) HO3.out (by have := lg.out; have := la.out; have := lo.out; first | omega | (simp only [List.length_append] <;> omega) | (simp <;> omega)) (by omega) (by omega))
    go_upto_region 5 with (go_at_call 27; (with_reducible refine HE0.out.mono ?_); rintro e w1 ⟨A1, n1, k1, rfl, ho0, hb0⟩; have HO1 := Lib.hid ho0; have HGR1 := Lib.hid (HGR0.out.trans hb0); clear ho0 hb0)
    clear e0 d0 HE0
    obtain ⟨rp1, rc1, rr1⟩ := HROWS.out w1 _ HGR1.out
    have e1 := rc1.at_ (i := 2) rfl
    have d1 := rp1.at_ (i := 2) rfl
    clear rp1 rc1 rr1
    have HE1 := Lib.hid (enc27 B (.slice A1 n1 k1) (zs ++ code (vlqOf (g - g0))) (a - a0) w1 (HBW.out.below ((HG3.out.trans HGR1.out).below HLOW.out hBw)) HO1.out (by have := lg.out; have := la.out; have := lo.out; first | omega | (simp only [List.length_append] <;> omega) | (simp <;> omega)) (by omega) (by omega))
    go_upto_region 6 with (go_at_call 27; (with_reducible refine HE1.out.mono ?_); rintro e w2 ⟨A2, n2, k2, rfl, ho1, hb1⟩; have HO2 := Lib.hid ho1; have HGR2 := Lib.hid (HGR1.out.trans hb1); clear ho1 hb1)
    clear e1 d1 HE1
    obtain ⟨rp2, rc2, rr2⟩ := HROWS.out w2 _ HGR2.out
    have e2 := rc2.at_ (i := 3) rfl
    have d2 := rp2.at_ (i := 3) rfl
    clear rp2 rc2 rr2
    have HE2 := Lib.hid (enc27 B (.slice A2 n2 k2) ((zs ++ code (vlqOf (g - g0))) ++ code (vlqOf (a - a0))) (o - o0) w2 (HBW.out.below ((HG3.out.trans HGR2.out).below HLOW.out hBw)) HO2.out (by have := lg.out; have := la.out; have := lo.out; first | omega | (simp only [List.length_append] <;> omega) | (simp <;> omega)) (by omega) (by omega))
    go_upto_region 7 with (go_at_call 27; (with_reducible refine HE2.out.mono ?_); rintro e w3 ⟨A3, n3, k3, rfl, ho2, hb2⟩; have HO3 := Lib.hid ho2; have HGR3 := Lib.hid (HGR2.out.trans hb2); clear ho2 hb2)
    clear e2 d2 HE2
    obtain ⟨rp3, rc3, rr3⟩ := HROWS.out w3 _ HGR3.out
    have e3 := rc3.at_ (i := 4) rfl
    have d3 := rp3.at_ (i := 4) rfl
    clear rp3 rc3 rr3
    have HE3 := Lib.hid (enc27 B (.slice A3 n3 k3) (((zs ++ code (vlqOf (g - g0))) ++ code (vlqOf (a - a0))) ++ code (vlqOf (o - o0))) (c - c0) w3 (HBW.out.below ((HG3.out.trans HGR3.out).below HLOW.out hBw)) HO3.out (by have := lg.out; have := la.out; have := lo.out; first | omega | (simp only [List.length_append] <;> omega) | (simp <;> omega)) (by omega) (by omega))
    go_upto_region 9 with (go_at_call 27; (with_reducible refine HE3.out.mono ?_); rintro e w4 ⟨A4, n4, k4, rfl, ho3, hb3⟩; have HO4 := Lib.hid ho3; have HGR4 := Lib.hid (HGR3.out.trans hb3); clear ho3 hb3)
    clear e3 d3 HE3
    have hgr4 := HGR4.out.alloc (.cells #[.int .u32 0] 50)
    obtain ⟨-, rc4, rr4⟩ := HROWS.out _ _ hgr4
    have rn := Row.newArr w4 50 #[.int .u32 0]
    have HG4 := Lib.hid (HG3.out.trans hgr4)
    have HO5 := Lib.hid (HO4.out.alloc (.cells #[.int .u32 0] 50))
    generalize hV : w4.alloc (.cells #[.int .u32 0] 50) = V at rc4 rr4 rn HG4 HO5 ⊢
    clear hV hgr4
    have x6 := rc4.at_ (i := 6) rfl
    have y0 := rr4.at_ (i := 0) rfl
    have y1 := rr4.frozen 0
    have n0' := rn.at_ (i := 0) rfl
    have HRR := Lib.hid rr4
    clear rc4 rr4 rn
    go_wp2_with fail
    go_region
    all_goals
      have HEND := Lib.hid (apd_end HO5.out HG4.out (show w.heap.size ≤ w.heap.size + 1 + 1 by omega) HRR.out (.int .u32 0) 1)
      go_wp2_with fail
      exact bodyPost_ret (v := .tuple #[.slice A4 n4 k4, .agg #[.int .u32 0]]) (by simp [results, Tryd.results24, go_sem, y0]) rfl ⟨A4, n4, k4, rfl, by have h9 := HEND.out.1; simp only [List.append_nil, List.append_assoc, seg4] at h9 ⊢; exact h9, HEND.out.2⟩
  · skip
    go_upto_region 3 with fail
    generalize hW3 : ((w.alloc (.cells #[.int .i64 l0, .int .i64 g0, .int .i64 a0, .int .i64 o0, .int .i64 c0, .int .i64 0, .bool false] 30)).alloc (.cells #[.int .i64 l, .int .i64 g, .int .i64 a, .int .i64 o, .int .i64 c, .int .i64 0, .bool false] 30)).alloc (.cells #[.int .u32 0] 50) = W3 at HROWS HG3 HO3 HS3 ⊢
    clear hW3
    have HGR0 := Lib.hid (Gr.refl W3 v)
    obtain ⟨rp0, rc0, rr0⟩ := HROWS.out W3 _ HGR0.out
    have e0 := rc0.at_ (i := 1) rfl
    have d0 := rp0.at_ (i := 1) rfl
    clear rp0 rc0 rr0
    have HE0 := Lib.hid (enc27 B v zs (g - g0) W3 (HBW.out.below ((HG3.out.trans HGR0.out).below HLOW.out hBw)) HO3.out (by have := lg.out; have := la.out; have := lo.out; first | omega | (simp only [List.length_append] <;> omega) | (simp <;> omega)) (by omega) (by omega))
    go_upto_region 5 with (go_at_call 27; (with_reducible refine HE0.out.mono ?_); rintro e w1 ⟨A1, n1, k1, rfl, ho0, hb0⟩; have HO1 := Lib.hid ho0; have HGR1 := Lib.hid (HGR0.out.trans hb0); clear ho0 hb0)
    clear e0 d0 HE0
    obtain ⟨rp1, rc1, rr1⟩ := HROWS.out w1 _ HGR1.out
    have e1 := rc1.at_ (i := 2) rfl
    have d1 := rp1.at_ (i := 2) rfl
    clear rp1 rc1 rr1
    have HE1 := Lib.hid (enc27 B (.slice A1 n1 k1) (zs ++ code (vlqOf (g - g0))) (a - a0) w1 (HBW.out.below ((HG3.out.trans HGR1.out).below HLOW.out hBw)) HO1.out (by have := lg.out; have := la.out; have := lo.out; first | omega | (simp only [List.length_append] <;> omega) | (simp <;> omega)) (by omega) (by omega))
    go_upto_region 6 with (go_at_call 27; (with_reducible refine HE1.out.mono ?_); rintro e w2 ⟨A2, n2, k2, rfl, ho1, hb1⟩; have HO2 := Lib.hid ho1; have HGR2 := Lib.hid (HGR1.out.trans hb1); clear ho1 hb1)
    clear e1 d1 HE1
    obtain ⟨rp2, rc2, rr2⟩ := HROWS.out w2 _ HGR2.out
    have e2 := rc2.at_ (i := 3) rfl
    have d2 := rp2.at_ (i := 3) rfl
    clear rp2 rc2 rr2
    have HE2 := Lib.hid (enc27 B (.slice A2 n2 k2) ((zs ++ code (vlqOf (g - g0))) ++ code (vlqOf (a - a0))) (o - o0) w2 (HBW.out.below ((HG3.out.trans HGR2.out).below HLOW.out hBw)) HO2.out (by have := lg.out; have := la.out; have := lo.out; first | omega | (simp only [List.length_append] <;> omega) | (simp <;> omega)) (by omega) (by omega))
    go_upto_region 7 with (go_at_call 27; (with_reducible refine HE2.out.mono ?_); rintro e w3 ⟨A3, n3, k3, rfl, ho2, hb2⟩; have HO3 := Lib.hid ho2; have HGR3 := Lib.hid (HGR2.out.trans hb2); clear ho2 hb2)
    clear e2 d2 HE2
    obtain ⟨rp3, rc3, rr3⟩ := HROWS.out w3 _ HGR3.out
    have e3 := rc3.at_ (i := 4) rfl
    have d3 := rp3.at_ (i := 4) rfl
    clear rp3 rc3 rr3
    have HE3 := Lib.hid (enc27 B (.slice A3 n3 k3) (((zs ++ code (vlqOf (g - g0))) ++ code (vlqOf (a - a0))) ++ code (vlqOf (o - o0))) (c - c0) w3 (HBW.out.below ((HG3.out.trans HGR3.out).below HLOW.out hBw)) HO3.out (by have := lg.out; have := la.out; have := lo.out; first | omega | (simp only [List.length_append] <;> omega) | (simp <;> omega)) (by omega) (by omega))
    go_upto_region 9 with (go_at_call 27; (with_reducible refine HE3.out.mono ?_); rintro e w4 ⟨A4, n4, k4, rfl, ho3, hb3⟩; have HO4 := Lib.hid ho3; have HGR4 := Lib.hid (HGR3.out.trans hb3); clear ho3 hb3)
    clear e3 d3 HE3
    have hgr4 := HGR4.out.alloc (.cells #[.int .u32 0] 50)
    obtain ⟨-, rc4, rr4⟩ := HROWS.out _ _ hgr4
    have rn := Row.newArr w4 50 #[.int .u32 0]
    have HG4 := Lib.hid (HG3.out.trans hgr4)
    have HO5 := Lib.hid (HO4.out.alloc (.cells #[.int .u32 0] 50))
    generalize hV : w4.alloc (.cells #[.int .u32 0] 50) = V at rc4 rr4 rn HG4 HO5 ⊢
    clear hV hgr4
    have x6 := rc4.at_ (i := 6) rfl
    have y0 := rr4.at_ (i := 0) rfl
    have y1 := rr4.frozen 0
    have n0' := rn.at_ (i := 0) rfl
    have HRR := Lib.hid rr4
    clear rc4 rr4 rn
    go_wp2_with fail
    go_region
    all_goals
      have HEND := Lib.hid (apd_end HO5.out HG4.out (show w.heap.size ≤ w.heap.size + 1 + 1 by omega) HRR.out (.int .u32 0) 1)
      go_wp2_with fail
      exact bodyPost_ret (v := .tuple #[.slice A4 n4 k4, .agg #[.int .u32 0]]) (by simp [results, Tryd.results24, go_sem, y0]) rfl ⟨A4, n4, k4, rfl, by have h9 := HEND.out.1; simp only [List.append_nil, List.append_assoc, seg4] at h9 ⊢; exact h9, HEND.out.2⟩
  · skip
    go_upto_region 2 with fail
    generalize hW3 : ((w.alloc (.cells #[.int .i64 l0, .int .i64 g0, .int .i64 a0, .int .i64 o0, .int .i64 c0, .int .i64 0, .bool false] 30)).alloc (.cells #[.int .i64 l, .int .i64 g, .int .i64 a, .int .i64 o, .int .i64 c, .int .i64 0, .bool false] 30)).alloc (.cells #[.int .u32 0] 50) = W3 at HROWS HG3 HO3 HS3 ⊢
    clear hW3
    have HZ1 := Lib.hid (show zs.length + 1 ≤ 1000000000 by omega)
    go_upto_region 3 with (at_builtin; refine wpList_push_g _ rfl _ _ 22 rfl B 5 .u8 1 Tryd.underlying22 info5 (by decide) v zs rfl (HO3.out.alloc _) _ 44 rfl ((Row.newArr _ 5 _).at_ (i := 0) rfl) HZ1.out (by have := HG3.out.size; simp; omega) ?_; intro A0 n0 k0 w0 hown1 hgr1; have HO0 := Lib.hid hown1; have HGR0 := Lib.hid (((Gr.refl W3 v).alloc _).trans hgr1); clear hown1 hgr1)
    obtain ⟨rp0, rc0, rr0⟩ := HROWS.out w0 _ HGR0.out
    have e0 := rc0.at_ (i := 1) rfl
    have d0 := rp0.at_ (i := 1) rfl
    clear rp0 rc0 rr0
    have HE0 := Lib.hid (enc27 B (.slice A0 n0 k0) (zs ++ [44]) (g - g0) w0 (HBW.out.below ((HG3.out.trans HGR0.out).below HLOW.out hBw)) HO0.out (by have := lg.out; have := la.out; have := lo.out; first | omega | (simp only [List.length_append] <;> omega) | (simp <;> omega)) (by omega) (by omega))
    go_upto_region 5 with (go_at_call 27; (with_reducible refine HE0.out.mono ?_); rintro e w1 ⟨A1, n1, k1, rfl, ho0, hb0⟩; have HO1 := Lib.hid ho0; have HGR1 := Lib.hid (HGR0.out.trans hb0); clear ho0 hb0)
    clear e0 d0 HE0
    obtain ⟨rp1, rc1, rr1⟩ := HROWS.out w1 _ HGR1.out
    have e1 := rc1.at_ (i := 2) rfl
    have d1 := rp1.at_ (i := 2) rfl
    clear rp1 rc1 rr1
    have HE1 := Lib.hid (enc27 B (.slice A1 n1 k1) ((zs ++ [44]) ++ code (vlqOf (g - g0))) (a - a0) w1 (HBW.out.below ((HG3.out.trans HGR1.out).below HLOW.out hBw)) HO1.out (by have := lg.out; have := la.out; have := lo.out; first | omega | (simp only [List.length_append] <;> omega) | (simp <;> omega)) (by omega) (by omega))
    go_upto_region 6 with (go_at_call 27; (with_reducible refine HE1.out.mono ?_); rintro e w2 ⟨A2, n2, k2, rfl, ho1, hb1⟩; have HO2 := Lib.hid ho1; have HGR2 := Lib.hid (HGR1.out.trans hb1); clear ho1 hb1)
    clear e1 d1 HE1
    obtain ⟨rp2, rc2, rr2⟩ := HROWS.out w2 _ HGR2.out
    have e2 := rc2.at_ (i := 3) rfl
    have d2 := rp2.at_ (i := 3) rfl
    clear rp2 rc2 rr2
    have HE2 := Lib.hid (enc27 B (.slice A2 n2 k2) (((zs ++ [44]) ++ code (vlqOf (g - g0))) ++ code (vlqOf (a - a0))) (o - o0) w2 (HBW.out.below ((HG3.out.trans HGR2.out).below HLOW.out hBw)) HO2.out (by have := lg.out; have := la.out; have := lo.out; first | omega | (simp only [List.length_append] <;> omega) | (simp <;> omega)) (by omega) (by omega))
    go_upto_region 7 with (go_at_call 27; (with_reducible refine HE2.out.mono ?_); rintro e w3 ⟨A3, n3, k3, rfl, ho2, hb2⟩; have HO3 := Lib.hid ho2; have HGR3 := Lib.hid (HGR2.out.trans hb2); clear ho2 hb2)
    clear e2 d2 HE2
    obtain ⟨rp3, rc3, rr3⟩ := HROWS.out w3 _ HGR3.out
    have e3 := rc3.at_ (i := 4) rfl
    have d3 := rp3.at_ (i := 4) rfl
    clear rp3 rc3 rr3
    have HE3 := Lib.hid (enc27 B (.slice A3 n3 k3) ((((zs ++ [44]) ++ code (vlqOf (g - g0))) ++ code (vlqOf (a - a0))) ++ code (vlqOf (o - o0))) (c - c0) w3 (HBW.out.below ((HG3.out.trans HGR3.out).below HLOW.out hBw)) HO3.out (by have := lg.out; have := la.out; have := lo.out; first | omega | (simp only [List.length_append] <;> omega) | (simp <;> omega)) (by omega) (by omega))
    go_upto_region 9 with (go_at_call 27; (with_reducible refine HE3.out.mono ?_); rintro e w4 ⟨A4, n4, k4, rfl, ho3, hb3⟩; have HO4 := Lib.hid ho3; have HGR4 := Lib.hid (HGR3.out.trans hb3); clear ho3 hb3)
    clear e3 d3 HE3
    have hgr4 := HGR4.out.alloc (.cells #[.int .u32 0] 50)
    obtain ⟨-, rc4, rr4⟩ := HROWS.out _ _ hgr4
    have rn := Row.newArr w4 50 #[.int .u32 0]
    have HG4 := Lib.hid (HG3.out.trans hgr4)
    have HO5 := Lib.hid (HO4.out.alloc (.cells #[.int .u32 0] 50))
    generalize hV : w4.alloc (.cells #[.int .u32 0] 50) = V at rc4 rr4 rn HG4 HO5 ⊢
    clear hV hgr4
    have x6 := rc4.at_ (i := 6) rfl
    have y0 := rr4.at_ (i := 0) rfl
    have y1 := rr4.frozen 0
    have n0' := rn.at_ (i := 0) rfl
    have HRR := Lib.hid rr4
    clear rc4 rr4 rn
    go_wp2_with fail
    go_region
    all_goals
      have HEND := Lib.hid (apd_end HO5.out HG4.out (show w.heap.size ≤ w.heap.size + 1 + 1 by omega) HRR.out (.int .u32 0) 1)
      go_wp2_with fail
      exact bodyPost_ret (v := .tuple #[.slice A4 n4 k4, .agg #[.int .u32 0]]) (by simp [results, Tryd.results24, go_sem, y0]) rfl ⟨A4, n4, k4, rfl, by have h9 := HEND.out.1; simp only [List.append_assoc, seg4] at h9 ⊢; exact h9, HEND.out.2⟩
end Go.Proofs.YtmakaafjkeeooacDoor.UgC
