/- FnDefaultLoaderMapIsFreshEachCall: the law. -/
import Derived.Test.YtjgomgagaolhgabRows
import Derived.Test.YtjgomgagaolhgabMem
import Derived.Test.YtjgomgagaolhgabSl
import Derived.Test.YtjgomgagaolhgabDlA
import Derived.WalkKit
import Derived.ProofKit
import Derived.OpenShut
import Derived.Below
import Derived.WalkLawsBesides
import Derived.Lib.Hide
import Derived.Outline
import Derived.RegionTactic
import Derived.Deep.QuietTactic
import Derived.BigQuiet
import Derived.WalkSpells
import Derived.Deep.OwnRows
import Derived.IntWalk
import Derived.Deep.DeepMust
namespace Go.Proofs.Ytjgomgagaolhgab.DlL
open Go.RowKit Mem Sl
set_option linter.unusedVariables false
open Go.Proofs.Ytjgomgagaolhgab.Map Go.MapKept DlA

theorem zero73 (w : World) : (zeroValue 73).run Try.prog w = .ok (.int .u8 0) w := by kernel_rfl
theorem look_tab {w : World} {b n : Nat} (h : MapF w b .string n (tabF tab)) (s : ByteArray) : (Instr.lookup 71 (.map (some b)) (.string s) true).run Try.prog w = .ok (.tuple #[.int .u8 ((tlook s tab).getD 0), .bool (tlook s tab).isSome]) w := by
  rw [h.look_ok (P := Try.prog) (t := 71) Try.underlying71 Try.underlying9 (k := .string s) trivial (zero73 w)]
  cases e : tlook s tab <;> simp [tabF, e]
theorem is39 (b : Nat) (w : World) (h : MapF w b .string 13 (tabF tab)) : Calls Try.prog 39 #[.map (some b)] w fun e w' => e = .returned (.bool true) ∧ w = w' := by
  have hl := fun ty => h.len (P := Try.prog) (t := 71) Try.underlying71 ty
  have HL := Lib.hid (look_tab h)
  clear h
  go_enter Try.func39, Try.ntmps39
  go_wp2_with fail
  clear hl
  go_loop [3] (fun i => ∃ k : Nat, k ≤ 13 ∧ i = .int .i64 k) (fun i => 13 - (intOf i).toNat)
  case atStart => exact ⟨0, by omega, rfl⟩
  case round =>
    obtain ⟨k, hk, rfl⟩ := hrel
    by_cases hlt : k < 13
    · have hlt' : (k : Int) < 13 := by omega
      go_wp2_with fail
      refine (key45 k hlt w).mono ?_
      rintro e w' ⟨⟨s, i, hs, rfl⟩, rfl⟩
      have hlk := HL.out s
      have HF := Lib.hid (load40 s w)
      rw [hs] at hlk HF
      have ei : (i != i) = false := by simp
      clear hs
      simp only [Option.getD_some, Option.isSome_some] at hlk HF
      go_wp2_with fail
      refine HF.out.mono ?_
      rintro e w' ⟨rfl, rfl⟩
      go_wp2_with fail
      go_round
      case rel => exact ⟨k + 1, by omega, by go_num⟩
      case measure => simp [intOf]; omega
    · go_wp2_with fail
      go_ret
      exact ⟨rfl, rfl⟩
theorem zz37 (a0 a2 : ByteArray) (a1 : Int) (w : World) (h0 : a0.size ≤ maxLen) (h2 : a2.size ≤ maxLen) : Calls Try.prog 37 #[.string a0, .int .u8 a1, .string a2] w fun e w' => (∃ b, e = .returned (.bool b)) ∧ w = w' := by
  unfold maxLen at h0 h2
  go_enter Try.func37, Try.ntmps37
  go_wp2
  all_goals go_ret
  all_goals exact ⟨⟨_, rfl⟩, rfl⟩
set_option maxHeartbeats 1000000 in
set_option maxRecDepth 100000 in
theorem law (a0 : ByteArray) (a1 : Int) (a2 : ByteArray) (w : World) (w0 : a0.size ≤ maxLen) (w1 : (Lit.int .u8 a1).wf = true) (w2 : a2.size ≤ maxLen) :
    Calls Try.prog 8 #[.string a0, .int .u8 a1, .string a2] w fun e w' => e = .returned (.bool true) ∧ Below w.heap.size w w' := by
  have M0 := Lib.hid w0
  have M2 := Lib.hid w2
  unfold maxLen at w0 w2
  clear w1
  go_enter Try.func8, Try.ntmps8
  go_wp2_with fail
  refine (zz37 a0 a2 a1 w M0.out M2.out).mono ?_
  rintro e w' ⟨⟨b, rfl⟩, rfl⟩
  cases b
  · go_wp2_with fail
    go_ret
    exact ⟨rfl, Below.refl _ _⟩
  by_cases q0 : 1048576 < a0.size
  · have g0 : decide (1048576 < (a0.size : Int)) = true := by simp; omega
    go_wp2_with fail
    go_ret
    exact ⟨rfl, Below.refl _ _⟩
  have g0 : decide (1048576 < (a0.size : Int)) = false := by simp; omega
  by_cases q1 : 1048576 < a2.size
  · have g1 : decide (1048576 < (a2.size : Int)) = true := by simp; omega
    go_wp2_with fail
    go_ret
    exact ⟨rfl, Below.refl _ _⟩
  have g1 : decide (1048576 < (a2.size : Int)) = false := by simp; omega
  by_cases q2 : 1048576 < (a0.size : Int) + a2.size
  · have g2 : decide (1048576 < (a0.size : Int) + a2.size) = true := by simp; omega
    go_wp2_with fail
    go_ret
    exact ⟨rfl, Below.refl _ _⟩
  have g2 : decide (1048576 < (a0.size : Int) + a2.size) = false := by simp; omega
  go_wp2_with fail
  clear g0 g1 g2 q0 q1 q2
  refine (made38 w).mono ?_
  rintro e u ⟨rfl, hm, hb, hs⟩
  have HM := Lib.hid hm
  have HB := Lib.hid hb
  clear hm hb hs
  go_wp2_with (first | (refine wpList_mapUpdate_f _ rfl _ _ _ 71 rfl 9 73 .string Try.underlying71 Try.underlying9 w.heap.size _ _ rfl HM.out _ _ rfl rfl trivial ?_; intro w1 h1 hg1 hs1; replace HM := Lib.hid h1; replace HB := Lib.hid (HB.out.trans (grown_below hg1 (Nat.le_refl _) HB.out.size)); clear h1 hg1 hs1) | (refine wpList_delete_f _ rfl _ _ 71 9 rfl 73 .string Try.underlying71 Try.underlying9 w.heap.size _ _ rfl HM.out _ rfl trivial ?_; intro w1 h1 hg1 hs1; replace HM := Lib.hid h1; replace HB := Lib.hid (HB.out.trans (grown_below hg1 (Nat.le_refl _) HB.out.size)); clear h1 hg1 hs1))

  clear HM
  refine (made38 w1).mono ?_
  rintro e x ⟨rfl, hm, hb, hs⟩
  replace HB := Lib.hid (HB.out.trans (hb.mono HB.out.size))
  have HI := Lib.hid (is39 _ x hm)
  have l0 := look_tab hm a0
  have l2 := look_tab hm a2
  have F0 := Lib.hid (load40 a0 x)
  have F2 := Lib.hid (load40 a2 x)
  clear hb hs hm
  generalize w1.heap.size = B at HI l0 l2 ⊢
  obtain ⟨i0, b0, r0, s0⟩ : ∃ i b, i = (tlook a0 tab).getD 0 ∧ b = (tlook a0 tab).isSome := ⟨_, _, rfl, rfl⟩
  obtain ⟨i2, b2, r2, s2⟩ : ∃ i b, i = (tlook a2 tab).getD 0 ∧ b = (tlook a2 tab).isSome := ⟨_, _, rfl, rfl⟩
  rw [← r0, ← s0] at l0 F0
  rw [← r2, ← s2] at l2 F2
  clear r0 s0 r2 s2
  have e0 : (i0 != i0) = false := by simp
  have e2 : (i2 == i2) = true := by simp
  go_wp2_with fail
  refine HI.out.mono ?_
  rintro e w' ⟨rfl, rfl⟩
  cases b0 <;> cases b2
  all_goals
    go_wp2_with fail
    refine F0.out.mono ?_
    rintro e w' ⟨rfl, rfl⟩
    go_wp2_with fail
    refine F2.out.mono ?_
    rintro e w' ⟨rfl, rfl⟩
    go_wp2_with fail
    go_ret
    exact ⟨rfl, HB.out⟩
end Go.Proofs.Ytjgomgagaolhgab.DlL
