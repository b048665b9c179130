/- FnCookedAndRawTemplateContentsWhole: the decoder, two digits. -/
import Derived.Test.YtalpfbbceggcaaaDoorCwN
import Derived.Test.YtalpfbbceggcaaaDoorCwQ
import Derived.Test.YtalpfbbceggcaaaDoorCwG9
import Derived.Great.BuildSlice
import Derived.Deep.DeepCutAuto
import Derived.Deep.CutBlock
import Derived.WalkKit
import Derived.ProofKit
import Derived.OpenShut
import Derived.Below
import Derived.WalkLawsBesides
import Derived.Lib.Hide
import Derived.Outline
import Derived.RegionTactic
import Derived.Deep.QuietTactic
import Derived.BigQuiet
import Derived.WalkSpells
import Derived.Deep.OwnRows
import Derived.IntWalk
import Derived.Deep.DeepMust
namespace Go.Proofs.YtalpfbbceggcaaaDoor.CwL7
open Go.RowKit Mem Args Own Prn Str Dec Step CwP CwG CwK CwM CwU CwN CwO CwQ
set_option linter.unusedVariables false
set_option linter.unusedSimpArgs false
set_option maxRecDepth 100000 in
set_option maxHeartbeats 40000000 in
theorem loop7 {w wr : World} {p : Nat} {f : Nat → Value} {t : ByteArray} {i0 : Nat} {us : List Int} {ch va : Nat → Int} {K' : Act → World → Prop} {Q' : Exit → Act → World → Prop}
    (h2 : f 2 = .string t) (hts : t.size ≤ 100000000) (hus : us.length ≤ 100000000) (HS : Hid (St w wr p 68 (f 11) us)) (h12 : f 12 = .int .i64 (i0 : Int)) (h26 : f 26 = .int .i64 0) (h25 : f 25 = .int .i32 (va 0)) (hi : i0 + 2 ≤ t.size) (HC : Hid (Ds t i0 2 ch va))
    (HK : ∀ (a' : Act) (w' : World), RX w p f us (i0 + 2) (va 2) a' w' → K' a' w')
    : Code.wp Tryd.prog (blkOf 7 Tryd.f20) (Exit.then K' Q') (fr f) wr := by
  conv => arg 2; whnf
  refine wp_block ?_
  refine wp_loop (IX w p f us i0 2 ch va) (fun a' _ => 2 - (intOf (a'.tmps.toList.getD 26 undef)).toNat) ⟨f, 0, by decide, rfl, rfl, rfl, rfl, h25, h12, h26, HS, rfl⟩ ?_
  intro a' w1 hI
  obtain ⟨g, j, hj, e0, e1, e2, e3, eV, e12, e26, HS1, rfl⟩ := hI
  clear h12 h26 h25 HS
  refine wp_then fun N hN => ?_
  obtain ⟨q, hq⟩ : ∃ q, q = i0 + j := ⟨_, rfl⟩
  rw [← hq] at e12
  have HQ := Lib.hid hq
  have HJ := Lib.hid hj
  obtain ⟨v, hv⟩ : ∃ v, v = g 11 := ⟨_, rfl⟩
  rw [← hv] at HS1
  rw [h2] at e2
  have E0 := Lib.hid e0
  have E1 := Lib.hid e1
  have E2 := Lib.hid (show f 2 = .string t from h2)
  have E3 := Lib.hid e3
  clear e0 e1 e3 h2
  by_cases hlt : j < 2
  · obtain ⟨hT, x, hx, hv1, hv2, hv3, hv4⟩ := HC.out j hlt
    rw [← hq] at hT
    have hc := DG.b hx
    have D0 := Lib.hid (fun w hT' => dcall1 hT hc.1 hc.2 w hT')
    have HX := Lib.hid (show DG (ch j) x from hx)
    have HV := Lib.hid (And.intro hv1 (And.intro hv2 hv3))
    have hqs : (q : Int) ≤ (t.size : Int) := by have := hT.1; omega
    have hq0 : (0 : Int) ≤ (q : Int) := by omega
    have HEV := Lib.hid eV
    obtain ⟨c, hcc⟩ : ∃ c, c = ch j := ⟨_, rfl⟩
    rw [← hcc] at D0 HX
    clear hT hx hv1 hv2 hv3 hv4 hc eV hj hq hcc
    unfold fr
    rw [e2, e12, e26, ← hv]
    clear hv
    go_upto_block 9 with (go_at_call 23; with_reducible refine (D0.out _ HS1.out.tabs).mono ?_; rintro e wv ⟨rfl, hb⟩; have HS2 := Lib.hid (HS1.out.dec hb); clear hb)
    refine wp_norm (wp_at rfl rfl ?_)
    refine CwG9.dig (c := c) (a := va j) (x := x) (by rfl) (by rfl) (by exact HEV.out) HV.out.2.1 HV.out.2.2 HX.out ?_
    intro a2 w2 hx2
    obtain ⟨g2, k0, k1, k2, k3, k11, k12, k14, k15, k16, k26, k27, k28, k29, k30, k31, k32, k33, k34, k35, kV, rfl, rfl⟩ := hx2
    have q0 : g2 0 = g 0 := k0
    have q1 : g2 1 = g 1 := k1
    have q2 : g2 2 = .string t := k2
    have q3 : g2 3 = g 3 := k3
    have q11 : g2 11 = v := k11
    have q12 : g2 12 = .int .i64 ((q : Int) + 1) := k12
    have q26 : g2 26 = .int .i64 (j : Int) := k26
    clear k0 k1 k2 k3 k11 k12 k14 k15 k16 k26 k27 k28 k29 k30 k31 k32 k33 k34 k35
    unfold fr
    rw [q26]
    go_wp2_with fail
    refine ⟨IXi (j + 1) (by omega) rfl rfl E0.out E1.out E2.out.symm E3.out (by show Value.int .i32 (va j * 16 + x) = _; rw [HV.out.1]) (by show Value.int .i64 ((q : Int) + 1) = _; rw [HQ.out]; go_num) (by show Value.int .i64 ((j : Int) + 1) = _; go_num) _ rfl HS2, ?_⟩
    show 2 - (intOf (.int .i64 ((j : Int) + 1))).toNat < 2 - (intOf (g 26)).toNat
    rw [e26]
    simp [intOf]
    omega
  · obtain rfl : j = 2 := by omega
    have HEV := Lib.hid eV
    clear hq eV
    unfold fr
    rw [e2, e12, e26, ← hv]
    clear hv
    go_wp2_with fail
    exact RXi rfl rfl E0.out E1.out E2.out.symm E3.out (by rw [← HQ.out]; rfl) HEV.out _ rfl HS1
end Go.Proofs.YtalpfbbceggcaaaDoor.CwL7
