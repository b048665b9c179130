/- FnCookedAndRawTemplateContentsWhole: the decoder, plain runes. -/
import Derived.Test.YtalpfbbceggcaaaDoorCwN
import Derived.Test.YtalpfbbceggcaaaDoorCwT
import Derived.Great.BuildSlice
import Derived.Deep.DeepCutAuto
import Derived.Deep.CutBlock
import Derived.WalkKit
import Derived.ProofKit
import Derived.OpenShut
import Derived.Below
import Derived.WalkLawsBesides
import Derived.Lib.Hide
import Derived.Outline
import Derived.RegionTactic
import Derived.Deep.QuietTactic
import Derived.BigQuiet
import Derived.WalkSpells
import Derived.Deep.OwnRows
import Derived.IntWalk
import Derived.Deep.DeepMust
namespace Go.Proofs.YtalpfbbceggcaaaDoor.CwDa
open Go.RowKit Mem Args Own Prn Str Dec Step CwP CwG CwK CwM CwU CwN
set_option linter.unusedVariables false
set_option linter.unusedSimpArgs false
set_option maxRecDepth 100000 in
set_option maxHeartbeats 40000000 in
theorem plain20 {w wr : World} {p : Nat} {f : Nat → Value} {t : ByteArray} {i : Nat} {us : List Int} {u : Int} {K' : Act → World → Prop} {Q' : Exit → Act → World → Prop}
    (h0 : f 0 = .pointer (some ⟨p, 0, none⟩)) (h2 : f 2 = .string t) (h12 : f 12 = .int .i64 (i : Int)) (HS : Hid (St w wr p 68 (f 11) us)) (HT : Hid (Txt t i (utf u))) (hus : us.length ≤ 100000000) (hts : t.size ≤ 100000000) (hub : 0 ≤ u ∧ u ≤ 65535) (hsur : sur u = false) (h13 : u ≠ 13) (h92 : u ≠ 92)
    (HK : ∀ (a' : Act) (w' : World), RD w p 68 f (us ++ [u]) (i + (utf u).length) a' w' → K' a' w')
    : Code.wp Tryd.prog (blkOf 1 Tryd.f20) (Exit.then K' Q') (fr f) wr := by
  conv => arg 2; whnf
  obtain ⟨v, hv⟩ : ∃ v, v = f 11 := ⟨_, rfl⟩
  rw [← hv] at HS
  have hile : i + (utf u).length ≤ t.size := HT.out.1
  obtain ⟨L, hL⟩ : ∃ L, L = (utf u).length := ⟨_, rfl⟩
  rw [← hL] at hile HK
  have HL := Lib.hid hL
  have hul : L ≤ 3 := by rw [hL]; exact CwT.utf_len u
  have hil : i ≤ t.size := by omega
  have hcI : (i : Int) ≤ (t.size : Int) := by omega
  have h0I : (0 : Int) ≤ (i : Int) := by omega
  have g13 : (u == 13) = false := by simp; omega
  have g92 : (u == 92) = false := by simp; omega
  have gw : IntKind.u16.wrap u = u := by rw [IntKind.wrap_u16]; omega
  have HT2 := Lib.hid (show Txt t i (utf u ++ []) by rw [List.append_nil]; exact HT.out)
  clear hL HT
  unfold fr
  rw [h0, h2, h12, ← hv]
  clear hv
  go_wp2_with (first | (go_at_call 23; refine (dcallu HT2.out (by omega) (by omega) hsur _ HS.out.tabs).mono ?_; rw [← HL.out]; rintro e wv ⟨rfl, hb⟩; have HS2 := Lib.hid (HS.out.dec hb); clear hb) | (refine wpList_app16 _ rfl _ _ rfl w.heap.size _ _ rfl HS2.out.own [u] 1 rfl rfl (by have := hus; omega) HS2.out.bel.size ?_; intro A' n' c' w1 ho hg; have HS3 := Lib.hid (HS2.out.grow ho hg); clear ho hg))
  exact RDi rfl rfl h0.symm rfl h2.symm rfl (by go_num) _ rfl HS3
end Go.Proofs.YtalpfbbceggcaaaDoor.CwDa
