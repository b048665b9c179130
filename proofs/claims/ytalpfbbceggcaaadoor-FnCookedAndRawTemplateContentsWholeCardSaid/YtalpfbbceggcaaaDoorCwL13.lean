/- FnCookedAndRawTemplateContentsWhole: the decoder, four digits. -/
import Derived.Test.YtalpfbbceggcaaaDoorCwN
import Derived.Test.YtalpfbbceggcaaaDoorCwQ
import Derived.Test.YtalpfbbceggcaaaDoorCwG15
import Derived.Great.BuildSlice
import Derived.Deep.DeepCutAuto
import Derived.Deep.CutBlock
import Derived.WalkKit
import Derived.ProofKit
import Derived.OpenShut
import Derived.Below
import Derived.WalkLawsBesides
import Derived.Lib.Hide
import Derived.Outline
import Derived.RegionTactic
import Derived.Deep.QuietTactic
import Derived.BigQuiet
import Derived.WalkSpells
import Derived.Deep.OwnRows
import Derived.IntWalk
import Derived.Deep.DeepMust
namespace Go.Proofs.YtalpfbbceggcaaaDoor.CwL13
open Go.RowKit Mem Args Own Prn Str Dec Step CwP CwG CwK CwM CwU CwN CwO CwQ
set_option linter.unusedVariables false
set_option linter.unusedSimpArgs false
set_option maxRecDepth 100000 in
set_option maxHeartbeats 40000000 in
theorem loop13 {w wr : World} {p : Nat} {f : Nat → Value} {t : ByteArray} {i0 : Nat} {us : List Int} {ch va : Nat → Int} {K' : Act → World → Prop} {Q' : Exit → Act → World → Prop}
    (h2 : f 2 = .string t) (hts : t.size ≤ 100000000) (hus : us.length ≤ 100000000) (HS : Hid (St w wr p 68 (f 11) us)) (h12 : f 12 = .int .i64 ((i0 + 1 : Nat) : Int)) (h35 : f 35 = .int .i64 0) (h30 : f 30 = .int .i32 (ch 0)) (h29 : f 29 = .int .i32 (va 0)) (hi : i0 + 4 ≤ t.size) (HC : Hid (Ds t i0 4 ch va))
    (HK : ∀ (a' : Act) (w' : World), RF w p f us (i0 + 4) (va 4) a' w' → K' a' w')
    : Code.wp Tryd.prog (blkOf 13 Tryd.f20) (Exit.then K' Q') (fr f) wr := by
  conv => arg 2; whnf
  refine wp_block ?_
  refine wp_loop (IF w p f us i0 4 ch va) (fun a' _ => 4 - (intOf (a'.tmps.toList.getD 35 undef)).toNat) ⟨f, 0, by decide, rfl, rfl, rfl, rfl, h29, h12, h35, fun _ => h30, HS, rfl⟩ ?_
  intro a' w1 hI
  obtain ⟨g, j, hj, e0, e1, e2, e3, eV, e12, e35, e30, HS1, rfl⟩ := hI
  clear h12 h35 h30 h29 HS
  refine wp_then fun N hN => ?_
  obtain ⟨q, hq⟩ : ∃ q, q = i0 + min (j + 1) 4 := ⟨_, rfl⟩
  rw [← hq] at e12
  have HQ := Lib.hid hq
  have HJ := Lib.hid hj
  obtain ⟨v, hv⟩ : ∃ v, v = g 11 := ⟨_, rfl⟩
  rw [← hv] at HS1
  rw [h2] at e2
  have E0 := Lib.hid e0
  have E1 := Lib.hid e1
  have E2 := Lib.hid (show f 2 = .string t from h2)
  have E3 := Lib.hid e3
  have HEV := Lib.hid eV
  clear e0 e1 e3 h2 eV
  by_cases hlt : j < 4
  · obtain ⟨hT, x, hx, hv1, hv2, hv3, hv4⟩ := HC.out j hlt
    have HX := Lib.hid (show DG (ch j) x from hx)
    have HV := Lib.hid (And.intro hv1 (And.intro hv2 hv3))
    have e30' := e30 hlt
    clear e30
    obtain ⟨c, hcc⟩ : ∃ c, c = ch j := ⟨_, rfl⟩
    rw [← hcc] at HX e30'
    clear hT hx hv1 hv2 hv3 hv4 hcc
    by_cases hl3 : j < 3
    · have HM := Lib.hid (show min (j + 1) 4 = j + 1 ∧ min (j + 1 + 1) 4 = j + 1 + 1 by omega)
      rw [show min (j + 1) 4 = j + 1 by omega] at hq
      obtain ⟨hT, x9, hx9, _⟩ := HC.out (j + 1) (by omega)
      have hc := DG.b hx9
      have eq1 : i0 + (j + 1) = q := hq.symm
      rw [eq1] at hT
      obtain ⟨c', hcc'⟩ : ∃ c', c' = ch (j + 1) := ⟨_, rfl⟩
      rw [← hcc'] at hT hc
      have D0 := Lib.hid (fun w hT' => dcall1 hT hc.1 hc.2 w hT')
      have hqs : (q : Int) ≤ (t.size : Int) := by have := hT.1; omega
      have hq0 : (0 : Int) ≤ (q : Int) := by omega
      have HC' := Lib.hid hcc'
      clear hT hx9 hc hcc' eq1
      clear hq hj
      unfold fr
      rw [e2, e12, e35, e30', ← hv]
      clear hv
      go_upto_block 15 with fail
      refine wp_norm (wp_at rfl rfl ?_)
      refine CwG15.dig (c := c) (a := va j) (x := x) (by rfl) (by rfl) (by exact HEV.out) HV.out.2.1 HV.out.2.2 HX.out ?_
      intro a2 w2 hx2
      obtain ⟨g2, k0, k1, k2, k3, k11, k12, k14, k15, k16, k25, k26, k27, k28, k30, k31, k32, k33, k34, k35, kV, rfl, rfl⟩ := hx2
      have q0 : g2 0 = g 0 := k0
      have q1 : g2 1 = g 1 := k1
      have q2 : g2 2 = .string t := k2
      have q3 : g2 3 = g 3 := k3
      have q11 : g2 11 = v := k11
      have q12 : g2 12 = .int .i64 (q : Int) := k12
      have q30 : g2 30 = .int .i32 c := k30
      have q35 : g2 35 = .int .i64 (j : Int) := k35
      clear k0 k1 k2 k3 k11 k12 k14 k15 k16 k25 k26 k27 k28 k30 k31 k32 k33 k34 k35
      unfold fr
      rw [q2, q12, q35, q11]
      clear q2 q12 q35 q11
      go_wp2_with (go_at_call 23; with_reducible refine (D0.out _ HS1.out.tabs).mono ?_; rintro e wv ⟨rfl, hb⟩; have HS2 := Lib.hid (HS1.out.dec hb); clear hb)
      refine ⟨IFi (j + 1) (by omega) rfl rfl (by first | exact E0.out | exact q0.trans E0.out) (by first | exact E1.out | exact q1.trans E1.out) E2.out.symm (by first | exact E3.out | exact q3.trans E3.out) (by first | exact kV.trans (by rw [HV.out.1]) | (show Value.int .i32 (va j * 16 + x) = _; rw [HV.out.1])) (by show Value.int .i64 ((q : Int) + 1) = _; rw [HQ.out, HM.out.1, HM.out.2]; go_num) (by show Value.int .i64 ((j : Int) + 1) = _; go_num) (fun _ => by rw [← HC'.out]; rfl) _ rfl HS2, ?_⟩
      show 4 - (intOf (.int .i64 ((j : Int) + 1))).toNat < 4 - (intOf (g 35)).toNat
      rw [e35]
      simp [intOf]
      omega
    · have h3j : (3 : Int) ≤ (j : Int) := by omega
      have HM := Lib.hid (show min (j + 1) 4 = min (j + 1 + 1) 4 by omega)
      clear hq hj
      unfold fr
      rw [e2, e12, e35, e30', ← hv]
      clear hv
      go_upto_block 15 with fail
      refine wp_norm (wp_at rfl rfl ?_)
      refine CwG15.dig (c := c) (a := va j) (x := x) (by rfl) (by rfl) (by exact HEV.out) HV.out.2.1 HV.out.2.2 HX.out ?_
      intro a2 w2 hx2
      obtain ⟨g2, k0, k1, k2, k3, k11, k12, k14, k15, k16, k25, k26, k27, k28, k30, k31, k32, k33, k34, k35, kV, rfl, rfl⟩ := hx2
      have q0 : g2 0 = g 0 := k0
      have q1 : g2 1 = g 1 := k1
      have q2 : g2 2 = .string t := k2
      have q3 : g2 3 = g 3 := k3
      have q11 : g2 11 = v := k11
      have q12 : g2 12 = .int .i64 (q : Int) := k12
      have q30 : g2 30 = .int .i32 c := k30
      have q35 : g2 35 = .int .i64 (j : Int) := k35
      clear k0 k1 k2 k3 k11 k12 k14 k15 k16 k25 k26 k27 k28 k30 k31 k32 k33 k34 k35
      unfold fr
      rw [q2, q12, q35, q11]
      clear q2 q12 q35 q11
      go_wp2_with fail
      refine ⟨IFi (j + 1) (by omega) rfl rfl (by first | exact E0.out | exact q0.trans E0.out) (by first | exact E1.out | exact q1.trans E1.out) E2.out.symm (by first | exact E3.out | exact q3.trans E3.out) (by first | exact kV.trans (by rw [HV.out.1]) | (show Value.int .i32 (va j * 16 + x) = _; rw [HV.out.1])) (by show Value.int .i64 (q : Int) = _; rw [HQ.out, HM.out]) (by show Value.int .i64 ((j : Int) + 1) = _; go_num) (fun h => absurd h (by omega)) _ rfl HS1, ?_⟩
      show 4 - (intOf (.int .i64 ((j : Int) + 1))).toNat < 4 - (intOf (g 35)).toNat
      rw [e35]
      simp [intOf]
      omega
  · obtain rfl : j = 4 := by omega
    clear hq e30
    unfold fr
    rw [e2, e12, e35, ← hv]
    clear hv
    go_wp2_with fail
    exact RFi rfl rfl E0.out E1.out E2.out.symm E3.out (by show Value.int .i64 (q : Int) = _; rw [show q = i0 + 4 from HQ.out]) HEV.out _ rfl HS1
end Go.Proofs.YtalpfbbceggcaaaDoor.CwL13
