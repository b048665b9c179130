/- FnCookedAndRawTemplateContentsWhole: the decoder, a rune behind a backslash. -/
import Derived.Test.YtalpfbbceggcaaaDoorCwN
import Derived.Test.YtalpfbbceggcaaaDoorCwT
import Derived.Great.BuildSlice
import Derived.Deep.DeepCutAuto
import Derived.Deep.CutBlock
import Derived.WalkKit
import Derived.ProofKit
import Derived.OpenShut
import Derived.Below
import Derived.WalkLawsBesides
import Derived.Lib.Hide
import Derived.Outline
import Derived.RegionTactic
import Derived.Deep.QuietTactic
import Derived.BigQuiet
import Derived.WalkSpells
import Derived.Deep.OwnRows
import Derived.IntWalk
import Derived.Deep.DeepMust
namespace Go.Proofs.YtalpfbbceggcaaaDoor.CwDd
open Go.RowKit Mem Args Own Prn Str Dec Step CwP CwG CwK CwM CwU CwN
set_option linter.unusedVariables false
set_option linter.unusedSimpArgs false
set_option maxRecDepth 100000 in
set_option maxHeartbeats 40000000 in
theorem idn20 {w wr : World} {p : Nat} {f : Nat → Value} {t : ByteArray} {i : Nat} {us : List Int} {u : Int} {K' : Act → World → Prop} {Q' : Exit → Act → World → Prop}
    (h0 : f 0 = .pointer (some ⟨p, 0, none⟩)) (h2 : f 2 = .string t) (h12 : f 12 = .int .i64 (i : Int)) (HS : Hid (St w wr p 68 (f 11) us)) (HT : Hid (Txt t i (92 :: utf u))) (hus : us.length ≤ 100000000) (hts : t.size ≤ 100000000) (hub : 0 ≤ u ∧ u ≤ 65535) (hidn : idn u = true)
    (HK : ∀ (a' : Act) (w' : World), RD w p 68 f (us ++ [u]) (i + (92 :: utf u).length) a' w' → K' a' w')
    : Code.wp Tryd.prog (blkOf 1 Tryd.f20) (Exit.then K' Q') (fr f) wr := by
  conv => arg 2; whnf
  obtain ⟨v, hv⟩ : ∃ v, v = f 11 := ⟨_, rfl⟩
  rw [← hv] at HS
  have hile : i + (92 :: utf u).length ≤ t.size := HT.out.1
  have hi := hidn
  unfold idn at hi
  simp only [decide_eq_true_eq] at hi
  have hsur : sur u = false := by simp [sur]; omega
  obtain ⟨L, hL⟩ : ∃ L, L = (utf u).length := ⟨_, rfl⟩
  rw [List.length_cons, ← hL] at hile HK
  have hul : L ≤ 3 := by rw [hL]; exact CwT.utf_len u
  have b0 : (i : Int) ≤ (t.size : Int) := by omega
  have b1 : (i : Int) + 1 ≤ (t.size : Int) := by omega
  have z0 : (0 : Int) ≤ (i : Int) := by omega
  have z1 : (0 : Int) ≤ (i : Int) + 1 := by omega
  have t1 : ((i : Int) + 1).toNat = i + 1 := by omega
  have cj := HS.out.js
  have D0 := Lib.hid (fun w hT => dcall1 HT.out (by decide) (by decide) w hT)
  have D1 := Lib.hid (fun (w : World) (hT : Lib.Utf8Tabs 1 2 w) => show Calls Tryd.prog 23 #[.string (t.extract (i + 1) t.size)] w (fun e w' => e = .returned (.tuple #[.int .i32 u, .int .i64 (L : Int)]) ∧ Below w.heap.size w w') from (by rw [hL]; exact dcallu (u := u) (p := []) (by rw [List.append_nil]; exact HT.out.tail) hub.1 hub.2 hsur w hT))
  have g0 : (u == 98) = false := by simp; omega
  have g1 : (u == 102) = false := by simp; omega
  have g2 : (u == 110) = false := by simp; omega
  have g3 : (u == 114) = false := by simp; omega
  have g4 : (u == 116) = false := by simp; omega
  have g5 : (u == 118) = false := by simp; omega
  have g6 : (u == 48) = false := by simp; omega
  have g7 : (u == 49) = false := by simp; omega
  have g8 : (u == 50) = false := by simp; omega
  have g9 : (u == 51) = false := by simp; omega
  have g10 : (u == 52) = false := by simp; omega
  have g11 : (u == 53) = false := by simp; omega
  have g12 : (u == 54) = false := by simp; omega
  have g13 : (u == 55) = false := by simp; omega
  have g14 : (u == 56) = false := by simp; omega
  have g15 : (u == 57) = false := by simp; omega
  have g16 : (u == 120) = false := by simp; omega
  have g17 : (u == 117) = false := by simp; omega
  have g18 : (u == 13) = false := by simp; omega
  have g19 : (u == 10) = false := by simp; omega
  have g20 : (u == 8232) = false := by simp; omega
  have g21 : (u == 8233) = false := by simp; omega
  have gw : IntKind.u16.wrap u = u := by rw [IntKind.wrap_u16]; omega
  clear HT hidn hi hsur hL
  unfold fr
  rw [h0, h2, h12, ← hv]
  clear hv
  go_wp2_with (first | (go_at_call 23; with_reducible refine (D0.out _ HS.out.tabs).mono ?_; rintro e wv ⟨rfl, hb⟩; have HS2 := Lib.hid (HS.out.dec hb); clear hb; have cj := HS2.out.js) | (go_at_call 23; with_reducible refine (D1.out _ HS2.out.tabs).mono ?_; rintro e wv ⟨rfl, hb⟩; have HS3 := Lib.hid (HS2.out.dec hb); clear hb; have cj := HS3.out.js) | (refine wpList_app16 _ rfl _ _ rfl w.heap.size _ _ rfl HS3.out.own [u] 1 rfl rfl (by have := hus; omega) HS3.out.bel.size ?_; intro A' n' c' w1 ho hg; have HS4 := Lib.hid (HS3.out.grow ho hg); clear ho hg))
  exact RDi rfl rfl h0.symm rfl h2.symm rfl (by go_num) _ rfl HS4
end Go.Proofs.YtalpfbbceggcaaaDoor.CwDd
