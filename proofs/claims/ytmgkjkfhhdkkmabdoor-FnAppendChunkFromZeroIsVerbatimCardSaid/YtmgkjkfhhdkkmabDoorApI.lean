/- FnAppendChunkFromZeroIsVerbatim: appendMappingToBuffer. -/
import Derived.Test.YtmgkjkfhhdkkmabDoorRows
import Derived.Test.YtmgkjkfhhdkkmabDoorMem
import Derived.Test.YtmgkjkfhhdkkmabDoorSl
import Derived.Test.YtmgkjkfhhdkkmabDoorApH
import Derived.Deep.DeepCutAuto
import Derived.WalkKit
import Derived.ProofKit
import Derived.OpenShut
import Derived.Below
import Derived.WalkLawsBesides
import Derived.Lib.Hide
import Derived.Outline
import Derived.RegionTactic
import Derived.Deep.QuietTactic
import Derived.BigQuiet
import Derived.WalkSpells
import Derived.Deep.OwnRows
import Derived.IntWalk
import Derived.Deep.DeepMust
namespace Go.Proofs.YtmgkjkfhhdkkmabDoor.ApI
open Go.RowKit Mem Sl
set_option linter.unusedVariables false
open Own Vq ApA ApB ApJ ApE ApF Args

theorem b64_mono {B B' : Nat} {w : World} (h : B64 B w) (hb : B ≤ B') (hB : B' ≤ w.heap.size) : B64 B' w := by
  obtain ⟨h1, h2, b, off, c, h3, h4, h5⟩ := h
  exact ⟨hB, by omega, b, off, c, by omega, h4, h5⟩
theorem own_less {w : World} {B B' : Nat} {E : TypeId} {k : IntKind} {v : Value} {zs : List Int} (h : Own w B E k v zs) (hb : B' ≤ B) : Own w B' E k v zs := by
  refine ⟨h.1, ?_⟩
  rcases h.2 with h0 | ⟨g, cap, cur, rfl, a, r⟩
  · exact .inl h0
  · exact .inr ⟨g, cap, cur, rfl, by omega, r⟩
theorem own_set {w : World} {B b : Nat} {t : TypeId} {v : Value} {zs : List Int} {xs : List Value} (h : Own w B 5 .u8 v zs) (hr : Row w b t xs) (ht : t ≠ 5) (i : Nat) (u : Value) : Own (w.setCell ⟨b, i, none⟩ u) B 5 .u8 v zs := by
  refine ⟨h.1, ?_⟩
  rcases h.2 with h0 | ⟨g, cap, cur, rfl, a, hh, r⟩
  · exact .inl h0
  · refine .inr ⟨g, cap, cur, rfl, a, ?_, r⟩
    exact keeps_set hr ht i u g cur hh
def zst : Value := .agg #[.int .i64 0, .int .i64 0, .int .i64 0, .int .i64 0, .int .i64 0, .int .i64 0, .bool false]
def seg4 (g a b c : Int) : List Int := code (vlqOf g) ++ code (vlqOf a) ++ code (vlqOf b) ++ code (vlqOf c)
def Mapd (w : World) (g a b c : Int) (e : Ending) (w' : World) : Prop := ∃ v', e = .returned (.tuple #[v', .agg #[.int .u32 0]]) ∧ Own w' w.heap.size 5 .u8 v' (seg4 g a b c) ∧ Below w.heap.size w w'
theorem code_le3 (v : Int) (h0 : -4096 ≤ v) (h1 : v ≤ 4096) : (code (vlqOf v)).length ≤ 3 := by
  rw [code_len]
  exact vq_len_le 2 _ (by unfold vlqOf; split <;> omega)
def SevenAt (W : World) (b : Nat) (l g a o c : Int) : Prop := Row W b 39 [.int .i64 l, .int .i64 g, .int .i64 a, .int .i64 o, .int .i64 c, .int .i64 0, .bool false]
set_option maxRecDepth 100000 in
set_option maxHeartbeats 8000000 in
theorem app18 (lb : Int) (hlb : lb = 0 ∨ lb = 59) (l g a o c : Int) (hg : -4096 ≤ g ∧ g ≤ 4096) (ha : -4096 ≤ a ∧ a ≤ 4096) (ho : -4096 ≤ o ∧ o ≤ 4096) (hc : -4096 ≤ c ∧ c ≤ 4096) (w : World) (B0 : Nat) (hL : B64 B0 w) :
    Calls Tryd.prog 18 #[.slice none 0 0, .int .u8 lb, zst, .agg #[.int .i64 l, .int .i64 g, .int .i64 a, .int .i64 o, .int .i64 c, .int .i64 0, .bool false], .bool false] w (Mapd w g a o c) := by
  unfold zst
  obtain ⟨g0, g1⟩ := hg
  obtain ⟨a0, a1⟩ := ha
  obtain ⟨o0, o1⟩ := ho
  obtain ⟨c0, c1⟩ := hc
  have lg := Lib.hid (code_le3 g g0 g1)
  have la := Lib.hid (code_le3 a a0 a1)
  have lo := Lib.hid (code_le3 o o0 o1)
  have HL := Lib.hid hL
  clear hL
  have hrows : ∀ W', Below ((((w.alloc (.cells #[.int .i64 0, .int .i64 0, .int .i64 0, .int .i64 0, .int .i64 0, .int .i64 0, .bool false] 39)).alloc (.cells #[.int .i64 l, .int .i64 g, .int .i64 a, .int .i64 o, .int .i64 c, .int .i64 0, .bool false] 39)).alloc (.cells #[.int .u32 0] 41))).heap.size (((w.alloc (.cells #[.int .i64 0, .int .i64 0, .int .i64 0, .int .i64 0, .int .i64 0, .int .i64 0, .bool false] 39)).alloc (.cells #[.int .i64 l, .int .i64 g, .int .i64 a, .int .i64 o, .int .i64 c, .int .i64 0, .bool false] 39)).alloc (.cells #[.int .u32 0] 41)) W' →
      SevenAt W' w.heap.size 0 0 0 0 0 ∧ SevenAt W' (w.heap.size + 1) l g a o c ∧ Row W' (w.heap.size + 1 + 1) 41 [.int .u32 0] := by
    intro W' hb
    have s1 : (w.alloc (.cells #[.int .i64 0, .int .i64 0, .int .i64 0, .int .i64 0, .int .i64 0, .int .i64 0, .bool false] 39)).heap.size = w.heap.size + 1 := by simp
    have s2 : ((w.alloc (.cells #[.int .i64 0, .int .i64 0, .int .i64 0, .int .i64 0, .int .i64 0, .int .i64 0, .bool false] 39)).alloc (.cells #[.int .i64 l, .int .i64 g, .int .i64 a, .int .i64 o, .int .i64 c, .int .i64 0, .bool false] 39)).heap.size = w.heap.size + 1 + 1 := by simp
    refine ⟨(((Row.newArr w 39 _).alloc _).alloc _).below hb (by simp; omega), ?_, ?_⟩
    · have h := (((Row.newArr (w.alloc (.cells #[.int .i64 0, .int .i64 0, .int .i64 0, .int .i64 0, .int .i64 0, .int .i64 0, .bool false] 39)) 39 #[.int .i64 l, .int .i64 g, .int .i64 a, .int .i64 o, .int .i64 c, .int .i64 0, .bool false])).alloc (.cells #[.int .u32 0] 41)).below hb (by simp)
      rw [s1] at h
      exact h
    · have h := (Row.newArr ((w.alloc (.cells #[.int .i64 0, .int .i64 0, .int .i64 0, .int .i64 0, .int .i64 0, .int .i64 0, .bool false] 39)).alloc (.cells #[.int .i64 l, .int .i64 g, .int .i64 a, .int .i64 o, .int .i64 c, .int .i64 0, .bool false] 39)) 41 #[.int .u32 0]).below hb (by simp)
      rw [s2] at h
      exact h
  have hb3 : Below w.heap.size w (((w.alloc (.cells #[.int .i64 0, .int .i64 0, .int .i64 0, .int .i64 0, .int .i64 0, .int .i64 0, .bool false] 39)).alloc (.cells #[.int .i64 l, .int .i64 g, .int .i64 a, .int .i64 o, .int .i64 c, .int .i64 0, .bool false] 39)).alloc (.cells #[.int .u32 0] 41)) := (((Below.refl _ _).alloc (Nat.le_refl _) _).alloc (by simp) _).alloc (by simp; omega) _
  have HROWS := Lib.hid hrows
  have HB3 := Lib.hid hb3
  clear hrows hb3
  have HLB := Lib.hid hlb
  clear hlb
  go_enter Tryd.func18, Tryd.ntmps18
  rcases HLB.out with rfl | rfl
  all_goals
    go_upto_region 3 with fail
    generalize hW3 : ((w.alloc (.cells #[.int .i64 0, .int .i64 0, .int .i64 0, .int .i64 0, .int .i64 0, .int .i64 0, .bool false] 39)).alloc (.cells #[.int .i64 l, .int .i64 g, .int .i64 a, .int .i64 o, .int .i64 c, .int .i64 0, .bool false] 39)).alloc (.cells #[.int .u32 0] 41) = W3 at HROWS HB3 ⊢
    clear hW3
    obtain ⟨rp0, rc0, rr0⟩ := HROWS.out W3 (Below.refl _ _)
    have e0 := rc0.at_ (i := 1) rfl
    have d0 := rp0.at_ (i := 1) rfl
    clear rp0 rc0 rr0
    have HE0 := Lib.hid (enc22 W3.heap.size (.slice none 0 0) ([]) g W3 ((b64_mono (HL.out.below (HB3.out.mono HL.out.1)) (Nat.le_trans HL.out.1 HB3.out.size) (Nat.le_refl _)).below (Below.refl _ _)) (own_nil _ _ _ _) (by simp) (by omega) (by omega))
    go_upto_region 5 with (go_at_call 22; (with_reducible refine HE0.out.mono ?_); rintro e w0 ⟨v0, rfl, ho0, hb0⟩; have HO0 := Lib.hid ho0; have HB0x := Lib.hid (Below.trans (Below.refl _ _) hb0); clear ho0 hb0)
    clear e0 d0 HE0
    obtain ⟨rp1, rc1, rr1⟩ := HROWS.out w0 (HB0x.out)
    have e1 := rc1.at_ (i := 2) rfl
    have d1 := rp1.at_ (i := 2) rfl
    clear rp1 rc1 rr1
    have HE1 := Lib.hid (enc22 W3.heap.size (v0) ([] ++ code (vlqOf g)) a w0 ((b64_mono (HL.out.below (HB3.out.mono HL.out.1)) (Nat.le_trans HL.out.1 HB3.out.size) (Nat.le_refl _)).below (HB0x.out)) HO0.out (by have := lg.out; have := la.out; have := lo.out; simp only [List.length_append, List.length_nil]; omega) (by omega) (by omega))
    go_upto_region 6 with (go_at_call 22; (with_reducible refine HE1.out.mono ?_); rintro e w1 ⟨v1, rfl, ho1, hb1⟩; have HO1 := Lib.hid ho1; have HB1x := Lib.hid (Below.trans (HB0x.out) hb1); clear ho1 hb1)
    clear e1 d1 HE1
    obtain ⟨rp2, rc2, rr2⟩ := HROWS.out w1 (HB1x.out)
    have e2 := rc2.at_ (i := 3) rfl
    have d2 := rp2.at_ (i := 3) rfl
    clear rp2 rc2 rr2
    have HE2 := Lib.hid (enc22 W3.heap.size (v1) ([] ++ code (vlqOf g) ++ code (vlqOf a)) o w1 ((b64_mono (HL.out.below (HB3.out.mono HL.out.1)) (Nat.le_trans HL.out.1 HB3.out.size) (Nat.le_refl _)).below (HB1x.out)) HO1.out (by have := lg.out; have := la.out; have := lo.out; simp only [List.length_append, List.length_nil]; omega) (by omega) (by omega))
    go_upto_region 7 with (go_at_call 22; (with_reducible refine HE2.out.mono ?_); rintro e w2 ⟨v2, rfl, ho2, hb2⟩; have HO2 := Lib.hid ho2; have HB2x := Lib.hid (Below.trans (HB1x.out) hb2); clear ho2 hb2)
    clear e2 d2 HE2
    obtain ⟨rp3, rc3, rr3⟩ := HROWS.out w2 (HB2x.out)
    have e3 := rc3.at_ (i := 4) rfl
    have d3 := rp3.at_ (i := 4) rfl
    clear rp3 rc3 rr3
    have HE3 := Lib.hid (enc22 W3.heap.size (v2) ([] ++ code (vlqOf g) ++ code (vlqOf a) ++ code (vlqOf o)) c w2 ((b64_mono (HL.out.below (HB3.out.mono HL.out.1)) (Nat.le_trans HL.out.1 HB3.out.size) (Nat.le_refl _)).below (HB2x.out)) HO2.out (by have := lg.out; have := la.out; have := lo.out; simp only [List.length_append, List.length_nil]; omega) (by omega) (by omega))
    go_upto_region 9 with (go_at_call 22; (with_reducible refine HE3.out.mono ?_); rintro e w3 ⟨v3, rfl, ho3, hb3⟩; have HO3 := Lib.hid ho3; have HB3x := Lib.hid (Below.trans (HB2x.out) hb3); clear ho3 hb3)
    clear e3 d3 HE3
    have hb4 : Below W3.heap.size W3 (w3.alloc (.cells #[.int .u32 0] 41)) := HB3x.out.alloc HB3x.out.size _
    obtain ⟨-, rc4, rr4⟩ := HROWS.out _ hb4
    have rn := Row.newArr w3 41 #[.int .u32 0]
    have HB4 := Lib.hid (HB3.out.trans (hb4.mono HB3.out.size))
    have HO4 := Lib.hid (own_less (HO3.out.alloc (.cells #[.int .u32 0] 41)) HB3.out.size)
    generalize hV : w3.alloc (.cells #[.int .u32 0] 41) = V at rc4 rr4 rn HB4 HO4 ⊢
    clear hV hb4
    have x6 := rc4.at_ (i := 6) rfl
    have y0 := rr4.at_ (i := 0) rfl
    have y1 := rr4.frozen 0
    have n0 := rn.at_ (i := 0) rfl
    have HRR := Lib.hid rr4
    clear rc4 rr4 rn
    go_wp2_with fail
    go_region
    all_goals
      go_wp2_with fail
      exact bodyPost_ret (v := .tuple #[v3, .agg #[.int .u32 0]]) (by simp [results, Tryd.results18, go_sem, y0]) rfl ⟨v3, rfl, (own_set HO4.out HRR.out (by decide) _ _).drew, (HB4.out.setCell (show w.heap.size ≤ w.heap.size + 1 + 1 by omega) _).drew⟩
end Go.Proofs.YtmgkjkfhhdkkmabDoor.ApI
