/- FnCookedAndRawTemplateContentsWhole: the decoder, digits in braces. -/
import Derived.Test.YtalpfbbceggcaaaDoorCwN
import Derived.Test.YtalpfbbceggcaaaDoorCwR
import Derived.Test.YtalpfbbceggcaaaDoorCwL10
import Derived.Test.YtalpfbbceggcaaaDoorCwT
import Derived.Great.BuildSlice
import Derived.Deep.DeepCutAuto
import Derived.Deep.CutBlock
import Derived.WalkMore
import Derived.WalkKit
import Derived.ProofKit
import Derived.OpenShut
import Derived.Below
import Derived.WalkLawsBesides
import Derived.Lib.Hide
import Derived.Outline
import Derived.RegionTactic
import Derived.Deep.QuietTactic
import Derived.BigQuiet
import Derived.WalkSpells
import Derived.Deep.OwnRows
import Derived.IntWalk
import Derived.Deep.DeepMust
namespace Go.Proofs.YtalpfbbceggcaaaDoor.CwDg
open Go.RowKit Mem Args Own Prn Str Dec Step CwP CwG CwK CwM CwU CwN CwO CwQ
set_option linter.unusedVariables false
set_option linter.unusedSimpArgs false
set_option maxRecDepth 100000 in
set_option maxHeartbeats 40000000 in
theorem ub20 {w wr : World} {p : Nat} {f : Nat → Value} {t : ByteArray} {i : Nat} {us : List Int} {u : Int} {up : Bool} {z : Nat} {K' : Act → World → Prop} {Q' : Exit → Act → World → Prop}
    (h0 : f 0 = .pointer (some ⟨p, 0, none⟩)) (h2 : f 2 = .string t) (h12 : f 12 = .int .i64 (i : Int)) (HS : Hid (St w wr p 68 (f 11) us)) (HT : Hid (Txt t i (ub u up z))) (hus : us.length ≤ 100000000) (hts : t.size ≤ 100000000) (hub : 0 ≤ u ∧ u ≤ 65535) (hz : z ≤ 3)
    (HK : ∀ (a' : Act) (w' : World), RD w p 68 f (us ++ [u]) (i + (ub u up z).length) a' w' → K' a' w')
    : Code.wp Tryd.prog (blkOf 1 Tryd.f20) (Exit.then K' Q') (fr f) wr := by
  conv => arg 2; whnf
  obtain ⟨v, hv⟩ : ∃ v, v = f 11 := ⟨_, rfl⟩
  rw [← hv] at HS
  have hile : i + (ub u up z).length ≤ t.size := HT.out.1
  obtain ⟨n, hn⟩ : ∃ n, n = z + hl u := ⟨_, rfl⟩
  have hlu : (ub u up z).length = n + 4 := by unfold ub; simp [CwR.hx_length]; omega
  rw [hlu] at hile HK
  have HT2 := Lib.hid (show Txt t i (92 :: 117 :: 123 :: ((List.replicate z 48 ++ hx u up (hl u)) ++ [125])) by have := HT.out; unfold ub at this; simpa using this)
  have b0 : (i : Int) ≤ (t.size : Int) := by omega
  have b1 : (i : Int) + 1 ≤ (t.size : Int) := by omega
  have b2 : (i : Int) + 2 ≤ (t.size : Int) := by omega
  have z0 : (0 : Int) ≤ (i : Int) := by omega
  have z1 : (0 : Int) ≤ (i : Int) + 1 := by omega
  have t1 : ((i : Int) + 1).toNat = i + 1 := by omega
  have z2 : (0 : Int) ≤ (i : Int) + 2 := by omega
  have t2 : ((i : Int) + 2).toNat = i + 2 := by omega
  have cj := HS.out.js
  have D0 := Lib.hid (fun w hT => dcall1 HT2.out (by decide) (by decide) w hT)
  have D1 := Lib.hid (fun w hT => dcall1 HT2.out.tail (by decide) (by decide) w hT)
  have D2 := Lib.hid (fun w hT => dcall1 HT2.out.tail.tail (by decide) (by decide) w hT)
  have HDS := Lib.hid (CwR.ds_z (i0 := i + 3) (u := u) (up := up) (z := z) HT2.out.tail.tail.tail.left hub.1 hub.2)
  have HE := Lib.hid (show Txt t (i + 3 + n) [125] by
    have := HT2.out.tail.tail.tail.drop
    have e : (List.replicate z 48 ++ hx u up (hl u)).length = n := by simp [CwR.hx_length]; omega
    rw [e] at this
    exact this)
  have HN := Lib.hid (show 0 < n by have := CwR.hl_pos u; omega)
  have HVE := Lib.hid (CwR.vaz_end u z (hl u))
  have HV0 := Lib.hid (CwR.vaz_zero u z hub.1 hub.2)
  rw [← hn] at HDS HVE
  clear HT HT2 hn hlu
  unfold fr
  rw [h0, h2, h12, ← hv]
  clear hv
  go_upto_block 10 with (first | (go_at_call 23; with_reducible refine (D0.out _ HS.out.tabs).mono ?_; rintro e wv ⟨rfl, hb⟩; have HS2 := Lib.hid (HS.out.dec hb); clear hb; have cj := HS2.out.js) | (go_at_call 23; with_reducible refine (D1.out _ HS2.out.tabs).mono ?_; rintro e wv ⟨rfl, hb⟩; have HS3 := Lib.hid (HS2.out.dec hb); clear hb; have cj := HS3.out.js) | (go_at_call 23; with_reducible refine (D2.out _ HS3.out.tabs).mono ?_; rintro e wv ⟨rfl, hb⟩; have HS4 := Lib.hid (HS3.out.dec hb); clear hb; have cj := HS4.out.js) | go_step3)
  refine wp_norm (wp_at rfl rfl ?_)
  refine CwL10.loop10 (i0 := i + 3) (n := n) (ch := CwR.chz u up z (hl u)) (va := CwR.vaz u z (hl u)) (us := us) (t := t) (w := w) (p := p) (by rfl) hts hus (by exact HS4) (by show Value.int .i64 _ = _; go_num) (by rfl) (by rfl) (by show Value.int .i32 0 = _; rw [HV0.out]) HN.out (by omega) HDS HE ?_
  rw [HVE.out]
  intro a9 w9 hx9
  obtain ⟨g, x0, x1, x2, x3, x12, xV, x34, HS8, rfl⟩ := hx9
  have E0 : g 0 = .pointer (some ⟨p, 0, none⟩) := x0
  have E1 := Lib.hid (show g 1 = f 1 from x1)
  have E2 : g 2 = .string t := x2
  have E3 := Lib.hid (show g 3 = f 3 from x3)
  obtain ⟨v8, hv8⟩ : ∃ v8, v8 = g 11 := ⟨_, rfl⟩
  rw [← hv8] at HS8
  clear x0 x1 x2 x3
  unfold fr
  rw [E0, E2, x12, xV, x34, ← hv8]
  clear hv8 E0 E2 x12 xV
  have gw : IntKind.u16.wrap u = u := by rw [IntKind.wrap_u16]; omega
  go_wp2_with (first | (refine wpList_app16 _ rfl _ _ rfl w.heap.size _ _ rfl HS8.out.own [u] 1 rfl rfl (by have := hus; omega) HS8.out.bel.size ?_; intro A' n' c' w1 ho hg; have HS9 := Lib.hid (HS8.out.grow ho hg); clear ho hg) | rw [Exit.noGoto_normal])
  exact RDi rfl rfl h0.symm E1.out h2.symm E3.out (by go_num) _ rfl HS9
end Go.Proofs.YtalpfbbceggcaaaDoor.CwDg
