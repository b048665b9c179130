/- FnCookedAndRawTemplateContentsWhole: the decoder, line continuations. -/
import Derived.Test.YtalpfbbceggcaaaDoorCwN
import Derived.Test.YtalpfbbceggcaaaDoorCwT
import Derived.Great.BuildSlice
import Derived.Deep.DeepCutAuto
import Derived.Deep.CutBlock
import Derived.WalkKit
import Derived.ProofKit
import Derived.OpenShut
import Derived.Below
import Derived.WalkLawsBesides
import Derived.Lib.Hide
import Derived.Outline
import Derived.RegionTactic
import Derived.Deep.QuietTactic
import Derived.BigQuiet
import Derived.WalkSpells
import Derived.Deep.OwnRows
import Derived.IntWalk
import Derived.Deep.DeepMust
namespace Go.Proofs.YtalpfbbceggcaaaDoor.CwDc
open Go.RowKit Mem Args Own Prn Str Dec Step CwP CwG CwK CwM CwU CwN
set_option linter.unusedVariables false
set_option linter.unusedSimpArgs false
set_option maxRecDepth 100000 in
set_option maxHeartbeats 40000000 in
theorem lc20_lf {w wr : World} {p : Nat} {f : Nat → Value} {t : ByteArray} {i : Nat} {us : List Int} {K' : Act → World → Prop} {Q' : Exit → Act → World → Prop}
    (h0 : f 0 = .pointer (some ⟨p, 0, none⟩)) (h2 : f 2 = .string t) (h12 : f 12 = .int .i64 (i : Int)) (HS : Hid (St w wr p 68 (f 11) us)) (HT : Hid (Txt t i ([92, 10]))) (hus : us.length ≤ 100000000) (hts : t.size ≤ 100000000) 
    (HK : ∀ (a' : Act) (w' : World), RD w p 68 f (us) (i + ([92, 10]).length) a' w' → K' a' w')
    : Code.wp Tryd.prog (blkOf 1 Tryd.f20) (Exit.then K' Q') (fr f) wr := by
  conv => arg 2; whnf
  obtain ⟨v, hv⟩ : ∃ v, v = f 11 := ⟨_, rfl⟩
  rw [← hv] at HS
  have hile : i + ([92, 10]).length ≤ t.size := HT.out.1
  have hb2 : i + 2 ≤ t.size := by simpa using hile
  have b0 : (i : Int) ≤ (t.size : Int) := by omega
  have b1 : (i : Int) + 1 ≤ (t.size : Int) := by omega
  have z0 : (0 : Int) ≤ (i : Int) := by omega
  have z1 : (0 : Int) ≤ (i : Int) + 1 := by omega
  have t1 : ((i : Int) + 1).toNat = i + 1 := by omega
  have cj := HS.out.js
  have D0 := Lib.hid (fun w hT => dcall1 HT.out (by decide) (by decide) w hT)
  have D1 := Lib.hid (fun w hT => dcall1 HT.out.tail (by decide) (by decide) w hT)
  clear HT
  unfold fr
  rw [h0, h2, h12, ← hv]
  clear hv
  go_wp2_with (first | (go_at_call 23; with_reducible refine (D0.out _ HS.out.tabs).mono ?_; rintro e wv ⟨rfl, hb⟩; have HS2 := Lib.hid (HS.out.dec hb); clear hb; have cj := HS2.out.js) | (go_at_call 23; with_reducible refine (D1.out _ HS2.out.tabs).mono ?_; rintro e wv ⟨rfl, hb⟩; have HS3 := Lib.hid (HS2.out.dec hb); clear hb; have cj := HS3.out.js))
  exact RDi rfl rfl h0.symm rfl h2.symm rfl (by go_num) _ rfl HS3
set_option maxRecDepth 100000 in
set_option maxHeartbeats 40000000 in
theorem lc20_ls {w wr : World} {p : Nat} {f : Nat → Value} {t : ByteArray} {i : Nat} {us : List Int} {K' : Act → World → Prop} {Q' : Exit → Act → World → Prop}
    (h0 : f 0 = .pointer (some ⟨p, 0, none⟩)) (h2 : f 2 = .string t) (h12 : f 12 = .int .i64 (i : Int)) (HS : Hid (St w wr p 68 (f 11) us)) (HT : Hid (Txt t i ([92, 226, 128, 168]))) (hus : us.length ≤ 100000000) (hts : t.size ≤ 100000000) 
    (HK : ∀ (a' : Act) (w' : World), RD w p 68 f (us) (i + ([92, 226, 128, 168]).length) a' w' → K' a' w')
    : Code.wp Tryd.prog (blkOf 1 Tryd.f20) (Exit.then K' Q') (fr f) wr := by
  conv => arg 2; whnf
  obtain ⟨v, hv⟩ : ∃ v, v = f 11 := ⟨_, rfl⟩
  rw [← hv] at HS
  have hile : i + ([92, 226, 128, 168]).length ≤ t.size := HT.out.1
  have hb2 : i + 4 ≤ t.size := by simpa using hile
  have b0 : (i : Int) ≤ (t.size : Int) := by omega
  have b1 : (i : Int) + 1 ≤ (t.size : Int) := by omega
  have z0 : (0 : Int) ≤ (i : Int) := by omega
  have z1 : (0 : Int) ≤ (i : Int) + 1 := by omega
  have t1 : ((i : Int) + 1).toNat = i + 1 := by omega
  have cj := HS.out.js
  have D0 := Lib.hid (fun w hT => dcall1 HT.out (by decide) (by decide) w hT)
  have D1 := Lib.hid (fun (w : World) (hT : Lib.Utf8Tabs 1 2 w) => show Calls Tryd.prog 23 #[.string (t.extract (i + 1) t.size)] w (fun e w' => e = .returned (.tuple #[.int .i32 8232, .int .i64 3]) ∧ Below w.heap.size w w') from dcallu (u := 8232) (p := []) HT.out.tail (by decide) (by decide) (by decide) w hT)
  clear HT
  unfold fr
  rw [h0, h2, h12, ← hv]
  clear hv
  go_wp2_with (first | (go_at_call 23; with_reducible refine (D0.out _ HS.out.tabs).mono ?_; rintro e wv ⟨rfl, hb⟩; have HS2 := Lib.hid (HS.out.dec hb); clear hb; have cj := HS2.out.js) | (go_at_call 23; with_reducible refine (D1.out _ HS2.out.tabs).mono ?_; rintro e wv ⟨rfl, hb⟩; have HS3 := Lib.hid (HS2.out.dec hb); clear hb; have cj := HS3.out.js))
  exact RDi rfl rfl h0.symm rfl h2.symm rfl (by go_num) _ rfl HS3
set_option maxRecDepth 100000 in
set_option maxHeartbeats 40000000 in
theorem lc20_ps {w wr : World} {p : Nat} {f : Nat → Value} {t : ByteArray} {i : Nat} {us : List Int} {K' : Act → World → Prop} {Q' : Exit → Act → World → Prop}
    (h0 : f 0 = .pointer (some ⟨p, 0, none⟩)) (h2 : f 2 = .string t) (h12 : f 12 = .int .i64 (i : Int)) (HS : Hid (St w wr p 68 (f 11) us)) (HT : Hid (Txt t i ([92, 226, 128, 169]))) (hus : us.length ≤ 100000000) (hts : t.size ≤ 100000000) 
    (HK : ∀ (a' : Act) (w' : World), RD w p 68 f (us) (i + ([92, 226, 128, 169]).length) a' w' → K' a' w')
    : Code.wp Tryd.prog (blkOf 1 Tryd.f20) (Exit.then K' Q') (fr f) wr := by
  conv => arg 2; whnf
  obtain ⟨v, hv⟩ : ∃ v, v = f 11 := ⟨_, rfl⟩
  rw [← hv] at HS
  have hile : i + ([92, 226, 128, 169]).length ≤ t.size := HT.out.1
  have hb2 : i + 4 ≤ t.size := by simpa using hile
  have b0 : (i : Int) ≤ (t.size : Int) := by omega
  have b1 : (i : Int) + 1 ≤ (t.size : Int) := by omega
  have z0 : (0 : Int) ≤ (i : Int) := by omega
  have z1 : (0 : Int) ≤ (i : Int) + 1 := by omega
  have t1 : ((i : Int) + 1).toNat = i + 1 := by omega
  have cj := HS.out.js
  have D0 := Lib.hid (fun w hT => dcall1 HT.out (by decide) (by decide) w hT)
  have D1 := Lib.hid (fun (w : World) (hT : Lib.Utf8Tabs 1 2 w) => show Calls Tryd.prog 23 #[.string (t.extract (i + 1) t.size)] w (fun e w' => e = .returned (.tuple #[.int .i32 8233, .int .i64 3]) ∧ Below w.heap.size w w') from dcallu (u := 8233) (p := []) HT.out.tail (by decide) (by decide) (by decide) w hT)
  clear HT
  unfold fr
  rw [h0, h2, h12, ← hv]
  clear hv
  go_wp2_with (first | (go_at_call 23; with_reducible refine (D0.out _ HS.out.tabs).mono ?_; rintro e wv ⟨rfl, hb⟩; have HS2 := Lib.hid (HS.out.dec hb); clear hb; have cj := HS2.out.js) | (go_at_call 23; with_reducible refine (D1.out _ HS2.out.tabs).mono ?_; rintro e wv ⟨rfl, hb⟩; have HS3 := Lib.hid (HS2.out.dec hb); clear hb; have cj := HS3.out.js))
  exact RDi rfl rfl h0.symm rfl h2.symm rfl (by go_num) _ rfl HS3
end Go.Proofs.YtalpfbbceggcaaaDoor.CwDc
