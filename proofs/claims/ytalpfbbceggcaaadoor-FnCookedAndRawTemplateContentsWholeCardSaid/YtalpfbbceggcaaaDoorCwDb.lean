/- FnCookedAndRawTemplateContentsWhole: the decoder, escapes of one letter. -/
import Derived.Test.YtalpfbbceggcaaaDoorCwN
import Derived.Test.YtalpfbbceggcaaaDoorCwT
import Derived.Great.BuildSlice
import Derived.Deep.DeepCutAuto
import Derived.Deep.CutBlock
import Derived.WalkKit
import Derived.ProofKit
import Derived.OpenShut
import Derived.Below
import Derived.WalkLawsBesides
import Derived.Lib.Hide
import Derived.Outline
import Derived.RegionTactic
import Derived.Deep.QuietTactic
import Derived.BigQuiet
import Derived.WalkSpells
import Derived.Deep.OwnRows
import Derived.IntWalk
import Derived.Deep.DeepMust
namespace Go.Proofs.YtalpfbbceggcaaaDoor.CwDb
open Go.RowKit Mem Args Own Prn Str Dec Step CwP CwG CwK CwM CwU CwN
set_option linter.unusedVariables false
set_option linter.unusedSimpArgs false
set_option maxRecDepth 100000 in
set_option maxHeartbeats 40000000 in
theorem esc20_8 {w wr : World} {p : Nat} {f : Nat → Value} {t : ByteArray} {i : Nat} {us : List Int} {K' : Act → World → Prop} {Q' : Exit → Act → World → Prop}
    (h0 : f 0 = .pointer (some ⟨p, 0, none⟩)) (h2 : f 2 = .string t) (h12 : f 12 = .int .i64 (i : Int)) (HS : Hid (St w wr p 68 (f 11) us)) (HT : Hid (Txt t i ([92, 98]))) (hus : us.length ≤ 100000000) (hts : t.size ≤ 100000000) 
    (HK : ∀ (a' : Act) (w' : World), RD w p 68 f (us ++ [8]) (i + ([92, 98]).length) a' w' → K' a' w')
    : Code.wp Tryd.prog (blkOf 1 Tryd.f20) (Exit.then K' Q') (fr f) wr := by
  conv => arg 2; whnf
  obtain ⟨v, hv⟩ : ∃ v, v = f 11 := ⟨_, rfl⟩
  rw [← hv] at HS
  have hile : i + ([92, 98]).length ≤ t.size := HT.out.1
  have hb2 : i + 2 ≤ t.size := by simpa using hile
  have b0 : (i : Int) ≤ (t.size : Int) := by omega
  have b1 : (i : Int) + 1 ≤ (t.size : Int) := by omega
  have z0 : (0 : Int) ≤ (i : Int) := by omega
  have z1 : (0 : Int) ≤ (i : Int) + 1 := by omega
  have t1 : ((i : Int) + 1).toNat = i + 1 := by omega
  have cj := HS.out.js
  have D0 := Lib.hid (fun w hT => dcall1 HT.out (by decide) (by decide) w hT)
  have D1 := Lib.hid (fun w hT => dcall1 HT.out.tail (by decide) (by decide) w hT)
  clear HT
  unfold fr
  rw [h0, h2, h12, ← hv]
  clear hv
  go_wp2_with (first | (go_at_call 23; with_reducible refine (D0.out _ HS.out.tabs).mono ?_; rintro e wv ⟨rfl, hb⟩; have HS2 := Lib.hid (HS.out.dec hb); clear hb; have cj := HS2.out.js) | (go_at_call 23; with_reducible refine (D1.out _ HS2.out.tabs).mono ?_; rintro e wv ⟨rfl, hb⟩; have HS3 := Lib.hid (HS2.out.dec hb); clear hb; have cj := HS3.out.js) | (refine wpList_app16 _ rfl _ _ rfl w.heap.size _ _ rfl HS3.out.own [8] 1 rfl rfl (by have := hus; omega) HS3.out.bel.size ?_; intro A' n' c' w1 ho hg; have HS4 := Lib.hid (HS3.out.grow ho hg); clear ho hg))
  exact RDi rfl rfl h0.symm rfl h2.symm rfl (by go_num) _ rfl HS4
set_option maxRecDepth 100000 in
set_option maxHeartbeats 40000000 in
theorem esc20_9 {w wr : World} {p : Nat} {f : Nat → Value} {t : ByteArray} {i : Nat} {us : List Int} {K' : Act → World → Prop} {Q' : Exit → Act → World → Prop}
    (h0 : f 0 = .pointer (some ⟨p, 0, none⟩)) (h2 : f 2 = .string t) (h12 : f 12 = .int .i64 (i : Int)) (HS : Hid (St w wr p 68 (f 11) us)) (HT : Hid (Txt t i ([92, 116]))) (hus : us.length ≤ 100000000) (hts : t.size ≤ 100000000) 
    (HK : ∀ (a' : Act) (w' : World), RD w p 68 f (us ++ [9]) (i + ([92, 116]).length) a' w' → K' a' w')
    : Code.wp Tryd.prog (blkOf 1 Tryd.f20) (Exit.then K' Q') (fr f) wr := by
  conv => arg 2; whnf
  obtain ⟨v, hv⟩ : ∃ v, v = f 11 := ⟨_, rfl⟩
  rw [← hv] at HS
  have hile : i + ([92, 116]).length ≤ t.size := HT.out.1
  have hb2 : i + 2 ≤ t.size := by simpa using hile
  have b0 : (i : Int) ≤ (t.size : Int) := by omega
  have b1 : (i : Int) + 1 ≤ (t.size : Int) := by omega
  have z0 : (0 : Int) ≤ (i : Int) := by omega
  have z1 : (0 : Int) ≤ (i : Int) + 1 := by omega
  have t1 : ((i : Int) + 1).toNat = i + 1 := by omega
  have cj := HS.out.js
  have D0 := Lib.hid (fun w hT => dcall1 HT.out (by decide) (by decide) w hT)
  have D1 := Lib.hid (fun w hT => dcall1 HT.out.tail (by decide) (by decide) w hT)
  clear HT
  unfold fr
  rw [h0, h2, h12, ← hv]
  clear hv
  go_wp2_with (first | (go_at_call 23; with_reducible refine (D0.out _ HS.out.tabs).mono ?_; rintro e wv ⟨rfl, hb⟩; have HS2 := Lib.hid (HS.out.dec hb); clear hb; have cj := HS2.out.js) | (go_at_call 23; with_reducible refine (D1.out _ HS2.out.tabs).mono ?_; rintro e wv ⟨rfl, hb⟩; have HS3 := Lib.hid (HS2.out.dec hb); clear hb; have cj := HS3.out.js) | (refine wpList_app16 _ rfl _ _ rfl w.heap.size _ _ rfl HS3.out.own [9] 1 rfl rfl (by have := hus; omega) HS3.out.bel.size ?_; intro A' n' c' w1 ho hg; have HS4 := Lib.hid (HS3.out.grow ho hg); clear ho hg))
  exact RDi rfl rfl h0.symm rfl h2.symm rfl (by go_num) _ rfl HS4
set_option maxRecDepth 100000 in
set_option maxHeartbeats 40000000 in
theorem esc20_10 {w wr : World} {p : Nat} {f : Nat → Value} {t : ByteArray} {i : Nat} {us : List Int} {K' : Act → World → Prop} {Q' : Exit → Act → World → Prop}
    (h0 : f 0 = .pointer (some ⟨p, 0, none⟩)) (h2 : f 2 = .string t) (h12 : f 12 = .int .i64 (i : Int)) (HS : Hid (St w wr p 68 (f 11) us)) (HT : Hid (Txt t i ([92, 110]))) (hus : us.length ≤ 100000000) (hts : t.size ≤ 100000000) 
    (HK : ∀ (a' : Act) (w' : World), RD w p 68 f (us ++ [10]) (i + ([92, 110]).length) a' w' → K' a' w')
    : Code.wp Tryd.prog (blkOf 1 Tryd.f20) (Exit.then K' Q') (fr f) wr := by
  conv => arg 2; whnf
  obtain ⟨v, hv⟩ : ∃ v, v = f 11 := ⟨_, rfl⟩
  rw [← hv] at HS
  have hile : i + ([92, 110]).length ≤ t.size := HT.out.1
  have hb2 : i + 2 ≤ t.size := by simpa using hile
  have b0 : (i : Int) ≤ (t.size : Int) := by omega
  have b1 : (i : Int) + 1 ≤ (t.size : Int) := by omega
  have z0 : (0 : Int) ≤ (i : Int) := by omega
  have z1 : (0 : Int) ≤ (i : Int) + 1 := by omega
  have t1 : ((i : Int) + 1).toNat = i + 1 := by omega
  have cj := HS.out.js
  have D0 := Lib.hid (fun w hT => dcall1 HT.out (by decide) (by decide) w hT)
  have D1 := Lib.hid (fun w hT => dcall1 HT.out.tail (by decide) (by decide) w hT)
  clear HT
  unfold fr
  rw [h0, h2, h12, ← hv]
  clear hv
  go_wp2_with (first | (go_at_call 23; with_reducible refine (D0.out _ HS.out.tabs).mono ?_; rintro e wv ⟨rfl, hb⟩; have HS2 := Lib.hid (HS.out.dec hb); clear hb; have cj := HS2.out.js) | (go_at_call 23; with_reducible refine (D1.out _ HS2.out.tabs).mono ?_; rintro e wv ⟨rfl, hb⟩; have HS3 := Lib.hid (HS2.out.dec hb); clear hb; have cj := HS3.out.js) | (refine wpList_app16 _ rfl _ _ rfl w.heap.size _ _ rfl HS3.out.own [10] 1 rfl rfl (by have := hus; omega) HS3.out.bel.size ?_; intro A' n' c' w1 ho hg; have HS4 := Lib.hid (HS3.out.grow ho hg); clear ho hg))
  exact RDi rfl rfl h0.symm rfl h2.symm rfl (by go_num) _ rfl HS4
set_option maxRecDepth 100000 in
set_option maxHeartbeats 40000000 in
theorem esc20_11 {w wr : World} {p : Nat} {f : Nat → Value} {t : ByteArray} {i : Nat} {us : List Int} {K' : Act → World → Prop} {Q' : Exit → Act → World → Prop}
    (h0 : f 0 = .pointer (some ⟨p, 0, none⟩)) (h2 : f 2 = .string t) (h12 : f 12 = .int .i64 (i : Int)) (HS : Hid (St w wr p 68 (f 11) us)) (HT : Hid (Txt t i ([92, 118]))) (hus : us.length ≤ 100000000) (hts : t.size ≤ 100000000) 
    (HK : ∀ (a' : Act) (w' : World), RD w p 68 f (us ++ [11]) (i + ([92, 118]).length) a' w' → K' a' w')
    : Code.wp Tryd.prog (blkOf 1 Tryd.f20) (Exit.then K' Q') (fr f) wr := by
  conv => arg 2; whnf
  obtain ⟨v, hv⟩ : ∃ v, v = f 11 := ⟨_, rfl⟩
  rw [← hv] at HS
  have hile : i + ([92, 118]).length ≤ t.size := HT.out.1
  have hb2 : i + 2 ≤ t.size := by simpa using hile
  have b0 : (i : Int) ≤ (t.size : Int) := by omega
  have b1 : (i : Int) + 1 ≤ (t.size : Int) := by omega
  have z0 : (0 : Int) ≤ (i : Int) := by omega
  have z1 : (0 : Int) ≤ (i : Int) + 1 := by omega
  have t1 : ((i : Int) + 1).toNat = i + 1 := by omega
  have cj := HS.out.js
  have D0 := Lib.hid (fun w hT => dcall1 HT.out (by decide) (by decide) w hT)
  have D1 := Lib.hid (fun w hT => dcall1 HT.out.tail (by decide) (by decide) w hT)
  clear HT
  unfold fr
  rw [h0, h2, h12, ← hv]
  clear hv
  go_wp2_with (first | (go_at_call 23; with_reducible refine (D0.out _ HS.out.tabs).mono ?_; rintro e wv ⟨rfl, hb⟩; have HS2 := Lib.hid (HS.out.dec hb); clear hb; have cj := HS2.out.js) | (go_at_call 23; with_reducible refine (D1.out _ HS2.out.tabs).mono ?_; rintro e wv ⟨rfl, hb⟩; have HS3 := Lib.hid (HS2.out.dec hb); clear hb; have cj := HS3.out.js) | (refine wpList_app16 _ rfl _ _ rfl w.heap.size _ _ rfl HS3.out.own [11] 1 rfl rfl (by have := hus; omega) HS3.out.bel.size ?_; intro A' n' c' w1 ho hg; have HS4 := Lib.hid (HS3.out.grow ho hg); clear ho hg))
  exact RDi rfl rfl h0.symm rfl h2.symm rfl (by go_num) _ rfl HS4
set_option maxRecDepth 100000 in
set_option maxHeartbeats 40000000 in
theorem esc20_12 {w wr : World} {p : Nat} {f : Nat → Value} {t : ByteArray} {i : Nat} {us : List Int} {K' : Act → World → Prop} {Q' : Exit → Act → World → Prop}
    (h0 : f 0 = .pointer (some ⟨p, 0, none⟩)) (h2 : f 2 = .string t) (h12 : f 12 = .int .i64 (i : Int)) (HS : Hid (St w wr p 68 (f 11) us)) (HT : Hid (Txt t i ([92, 102]))) (hus : us.length ≤ 100000000) (hts : t.size ≤ 100000000) 
    (HK : ∀ (a' : Act) (w' : World), RD w p 68 f (us ++ [12]) (i + ([92, 102]).length) a' w' → K' a' w')
    : Code.wp Tryd.prog (blkOf 1 Tryd.f20) (Exit.then K' Q') (fr f) wr := by
  conv => arg 2; whnf
  obtain ⟨v, hv⟩ : ∃ v, v = f 11 := ⟨_, rfl⟩
  rw [← hv] at HS
  have hile : i + ([92, 102]).length ≤ t.size := HT.out.1
  have hb2 : i + 2 ≤ t.size := by simpa using hile
  have b0 : (i : Int) ≤ (t.size : Int) := by omega
  have b1 : (i : Int) + 1 ≤ (t.size : Int) := by omega
  have z0 : (0 : Int) ≤ (i : Int) := by omega
  have z1 : (0 : Int) ≤ (i : Int) + 1 := by omega
  have t1 : ((i : Int) + 1).toNat = i + 1 := by omega
  have cj := HS.out.js
  have D0 := Lib.hid (fun w hT => dcall1 HT.out (by decide) (by decide) w hT)
  have D1 := Lib.hid (fun w hT => dcall1 HT.out.tail (by decide) (by decide) w hT)
  clear HT
  unfold fr
  rw [h0, h2, h12, ← hv]
  clear hv
  go_wp2_with (first | (go_at_call 23; with_reducible refine (D0.out _ HS.out.tabs).mono ?_; rintro e wv ⟨rfl, hb⟩; have HS2 := Lib.hid (HS.out.dec hb); clear hb; have cj := HS2.out.js) | (go_at_call 23; with_reducible refine (D1.out _ HS2.out.tabs).mono ?_; rintro e wv ⟨rfl, hb⟩; have HS3 := Lib.hid (HS2.out.dec hb); clear hb; have cj := HS3.out.js) | (refine wpList_app16 _ rfl _ _ rfl w.heap.size _ _ rfl HS3.out.own [12] 1 rfl rfl (by have := hus; omega) HS3.out.bel.size ?_; intro A' n' c' w1 ho hg; have HS4 := Lib.hid (HS3.out.grow ho hg); clear ho hg))
  exact RDi rfl rfl h0.symm rfl h2.symm rfl (by go_num) _ rfl HS4
set_option maxRecDepth 100000 in
set_option maxHeartbeats 40000000 in
theorem esc20_13 {w wr : World} {p : Nat} {f : Nat → Value} {t : ByteArray} {i : Nat} {us : List Int} {K' : Act → World → Prop} {Q' : Exit → Act → World → Prop}
    (h0 : f 0 = .pointer (some ⟨p, 0, none⟩)) (h2 : f 2 = .string t) (h12 : f 12 = .int .i64 (i : Int)) (HS : Hid (St w wr p 68 (f 11) us)) (HT : Hid (Txt t i ([92, 114]))) (hus : us.length ≤ 100000000) (hts : t.size ≤ 100000000) 
    (HK : ∀ (a' : Act) (w' : World), RD w p 68 f (us ++ [13]) (i + ([92, 114]).length) a' w' → K' a' w')
    : Code.wp Tryd.prog (blkOf 1 Tryd.f20) (Exit.then K' Q') (fr f) wr := by
  conv => arg 2; whnf
  obtain ⟨v, hv⟩ : ∃ v, v = f 11 := ⟨_, rfl⟩
  rw [← hv] at HS
  have hile : i + ([92, 114]).length ≤ t.size := HT.out.1
  have hb2 : i + 2 ≤ t.size := by simpa using hile
  have b0 : (i : Int) ≤ (t.size : Int) := by omega
  have b1 : (i : Int) + 1 ≤ (t.size : Int) := by omega
  have z0 : (0 : Int) ≤ (i : Int) := by omega
  have z1 : (0 : Int) ≤ (i : Int) + 1 := by omega
  have t1 : ((i : Int) + 1).toNat = i + 1 := by omega
  have cj := HS.out.js
  have D0 := Lib.hid (fun w hT => dcall1 HT.out (by decide) (by decide) w hT)
  have D1 := Lib.hid (fun w hT => dcall1 HT.out.tail (by decide) (by decide) w hT)
  clear HT
  unfold fr
  rw [h0, h2, h12, ← hv]
  clear hv
  go_wp2_with (first | (go_at_call 23; with_reducible refine (D0.out _ HS.out.tabs).mono ?_; rintro e wv ⟨rfl, hb⟩; have HS2 := Lib.hid (HS.out.dec hb); clear hb; have cj := HS2.out.js) | (go_at_call 23; with_reducible refine (D1.out _ HS2.out.tabs).mono ?_; rintro e wv ⟨rfl, hb⟩; have HS3 := Lib.hid (HS2.out.dec hb); clear hb; have cj := HS3.out.js) | (refine wpList_app16 _ rfl _ _ rfl w.heap.size _ _ rfl HS3.out.own [13] 1 rfl rfl (by have := hus; omega) HS3.out.bel.size ?_; intro A' n' c' w1 ho hg; have HS4 := Lib.hid (HS3.out.grow ho hg); clear ho hg))
  exact RDi rfl rfl h0.symm rfl h2.symm rfl (by go_num) _ rfl HS4
end Go.Proofs.YtalpfbbceggcaaaDoor.CwDb
