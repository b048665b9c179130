/- FnAdvanceImportTrackerTypeScriptOnlyExcusesNoMatch: the exported step. -/
import Derived.Test.YtelcjpmaegacoaaDoorRows
import Derived.Test.YtelcjpmaegacoaaDoorMem
import Derived.Test.YtelcjpmaegacoaaDoorSl
import Derived.Test.YtelcjpmaegacoaaDoorAiW
import Derived.Deep.RegionHeld3
import Derived.Deep.RegionLaw
import Derived.Carry
import Derived.Deep.DeepCutAuto
import Derived.Laws.Rows
import Derived.WalkKit
import Derived.ProofKit
import Derived.OpenShut
import Derived.Below
import Derived.WalkLawsBesides
import Derived.Lib.Hide
import Derived.Outline
import Derived.RegionTactic
import Derived.Deep.QuietTactic
import Derived.BigQuiet
import Derived.WalkSpells
import Derived.Deep.OwnRows
import Derived.IntWalk
import Derived.Deep.DeepMust
namespace Go.Proofs.YtelcjpmaegacoaaDoor.AiZ
open Go.RowKit Mem Sl
set_option linter.unusedVariables false
open Args Fvs AiP AiA AiC AiJ AiS AiD MapK Go.Maps

def Ad8 (p : Pa) (ts : Bool) (w : World) (e : Ending) (w' : World) : Prop := ∃ a b c d st v, e = .returned (.tuple #[.int .u32 a, .int .i32 b, .agg #[.int .u32 c, .int .u32 d], .int .u8 st, v]) ∧ Pa.ans p (p.out ts) = (a, b, c, d, st) ∧ Am p w' v (p.out ts) ∧ Below w.heap.size w w'
theorem am_below {p : Pa} {w w' : World} {v : Value} {o : Nat} (h : Am p w v o) (hb : Below w.heap.size w w') : Am p w' v o := by
  unfold Am at h ⊢
  split at h
  · obtain ⟨b, e, h1, h2⟩ := h
    exact ⟨b, e, h1.below hb h1.lt, h2.below hb h2.lt⟩
  · obtain ⟨b, e, h1⟩ := h
    exact ⟨b, e, h1.below hb h1.lt⟩
  · exact h
theorem am_set {p : Pa} {w : World} {v : Value} {o g : Nat} {u0 u1 : Value} {x : Int} (h : Am p w v o) (hy : w.cell? ⟨g, 0, none⟩ = some (.int .u32 x)) : Am p ((w.setCell ⟨g, 0, none⟩ u0).setCell ⟨g, 1, none⟩ u1) v o := by
  have k : ∀ b o y, Ab w b o y → (o = 0 ∨ w.cell? ⟨b, 0, none⟩ = some (.slice none 0 0)) → Ab ((w.setCell ⟨g, 0, none⟩ u0).setCell ⟨g, 1, none⟩ u1) b o y := by
    intro b o y h ho
    have hne : b ≠ g := by
      rintro rfl
      rcases ho with rfl | ho
      · have := h.a0; rw [hy] at this; cases this
      · rw [hy] at ho; cases ho
    exact (h.far (p := ⟨g, 0, none⟩) hne _).far (p := ⟨g, 1, none⟩) hne _
  unfold Am at h ⊢
  split at h
  · obtain ⟨b, e, h1, h2⟩ := h
    exact ⟨b, e, k _ _ _ h1 (.inl rfl), k _ _ _ h2 (.inr h1.a0)⟩
  · obtain ⟨b, e, h1⟩ := h
    exact ⟨b, e, k _ _ _ h1 (.inl rfl)⟩
  · exact h
theorem am_drew {p : Pa} {w : World} {v : Value} {o : Nat} (h : Am p w v o) : Am p w.drew v o := am_below h (Below.refl _ _).drew
set_option maxRecDepth 100000 in
set_option maxHeartbeats 4000000 in
theorem adv8 (p : Pa) (ts : Bool) (c F I O : Nat) (w : World) (h : Cl p ts c F I O w) (hal0 : p.al.size ≤ maxLen) : Calls Tryd.prog 8 #[.pointer (some ⟨c, 0, none⟩), .int .u32 0, .agg #[.int .u32 0, .int .u32 0]] w (Ad8 p ts w) := by
  have hal : Below w.heap.size w ((w.alloc (.cells #[.int .u32 0, .int .u32 0] 31)).alloc (.cells #[.int .u32 0, .int .u32 0] 31)) := ((Below.refl _ _).alloc (Nat.le_refl _) _).alloc (by simp) _
  have r5 := (Row.newArr w 31 #[.int .u32 0, .int .u32 0]).alloc (.cells #[.int .u32 0, .int .u32 0] 31)
  have r8 := Row.newArr (w.alloc (.cells #[.int .u32 0, .int .u32 0] 31)) 31 #[.int .u32 0, .int .u32 0]
  simp only [World.size_alloc] at r8
  have HAL := Lib.hid hal0
  have HC := Lib.hid (h.later hal)
  have HW := Lib.hid hal
  clear hal0 h hal
  go_enter Tryd.func8, Tryd.ntmps8
  go_upto_region 1 with fail
  obtain ⟨w1, hw1⟩ : ∃ w1, w1 = (w.alloc (.cells #[.int .u32 0, .int .u32 0] 31)).alloc (.cells #[.int .u32 0, .int .u32 0] 31) := ⟨_, rfl⟩
  rw [← hw1] at r5 r8 HC HW ⊢
  obtain ⟨Z, hZ⟩ : ∃ Z, Z = w.heap.size := ⟨_, rfl⟩
  rw [← hZ] at r5 r8 HW ⊢
  have HZ := Lib.hid hZ
  have R8 := Lib.hid r8
  have q0 := r5.at_ (i := 0) rfl
  have q1 := r5.at_ (i := 1) rfl
  clear hw1 hZ r5 r8
  go_wp2_with fail
  refine (adv12 p ts c F I O w1 HC.out HAL.out).mono ?_
  rintro e w5 ⟨a, b, c', d, st, v, rfl, ha, hm, hb⟩
  have r8' := R8.out.below hb R8.out.lt
  have HB5 := Lib.hid hb
  have y0 := r8'.at_ (i := 0) rfl
  have y1 := r8'.at_ (i := 1) rfl
  have z0 := r8'.frozen 0
  have z1 := r8'.frozen 1
  have hlt : Z + 1 < w5.heap.size := r8'.lt
  have HM := Lib.hid hm
  have HA := Lib.hid ha
  clear hb hm ha r8' q0 q1 HC HAL R8
  go_upto_region 2 with fail
  have re := Row.newArr w5 194 #[.int .u32 a, .int .i32 b, .int .u32 c', .int .u32 d]
  have b6 : Below w5.heap.size w5 (w5.alloc (.cells #[.int .u32 a, .int .i32 b, .int .u32 c', .int .u32 d] 194)) := (Below.refl _ _).alloc (Nat.le_refl _) _
  obtain ⟨T, hT⟩ : ∃ T, T = w5.heap.size := ⟨_, rfl⟩
  obtain ⟨w6, hw6⟩ : ∃ w6, w6 = w5.alloc (.cells #[.int .u32 a, .int .i32 b, .int .u32 c', .int .u32 d] 194) := ⟨_, rfl⟩
  rw [← hw6] at re b6 ⊢
  rw [← hT] at re ⊢
  have HM6 := Lib.hid (am_below HM.out b6)
  have y0' := cell_later b6 y0
  have y1' := cell_later b6 y1
  have hne : T ≠ Z + 1 := by omega
  have zz : ∀ o, w6.frozen? ⟨Z + 1, o, none⟩ = w5.frozen? ⟨Z + 1, o, none⟩ := fun o => by simp [World.frozen?, b6.block (Z + 1) hlt]
  have z0' := (zz 0).trans z0
  have z1' := (zz 1).trans z1
  have t0 := re.at_ (i := 0) rfl
  have t1 := re.at_ (i := 1) rfl
  have t2 := re.at_ (i := 2) rfl
  have t3 := re.at_ (i := 3) rfl
  have e9 : ∀ (k o : Nat) (u : Value) (W : World), (W.setCell ⟨Z + 1, k, none⟩ u).cell? ⟨T, o, none⟩ = W.cell? ⟨T, o, none⟩ := fun k o u W => World.cell?_of_block (a := ⟨T, o, none⟩) (Below.heap_setCell W _ u T hne)
  have HS7 := Lib.hid (show (fun W : World => W.cell? ⟨T, 0, none⟩ = some (.int .u32 a) ∧ W.cell? ⟨T, 1, none⟩ = some (.int .i32 b) ∧ W.cell? ⟨T, 2, none⟩ = some (.int .u32 c') ∧ W.cell? ⟨T, 3, none⟩ = some (.int .u32 d)) ((w6.setCell ⟨Z + 1, 0, none⟩ (.int .u32 c')).setCell ⟨Z + 1, 1, none⟩ (.int .u32 d)) from ⟨by rw [e9, e9]; exact t0, by rw [e9, e9]; exact t1, by rw [e9, e9]; exact t2, by rw [e9, e9]; exact t3⟩)
  have HZZ := Lib.hid (show w.heap.size ≤ Z + 1 by have := HZ.out; omega)
  have HFIN := Lib.hid (fun (W : World) (hb : Below w.heap.size w6 W) (hm : Am p W v (p.out ts)) => (⟨a, b, c', d, st, v, rfl, HA.out, hm, ((HW.out.mono (by have := HZ.out; omega)).trans ((HB5.out.mono (by have := HW.out.size; have := HZ.out; omega)).trans (b6.mono (by have := HW.out.size; have := HB5.out.size; have := HZ.out; omega)))).trans hb⟩ : Ad8 p ts w (.returned (.tuple #[.int .u32 a, .int .i32 b, .agg #[.int .u32 c', .int .u32 d], .int .u8 st, v])) W))
  clear e9 zz re b6 y0 y1 z0 z1 hT hw6 HM HB5 HW hlt
  go_region_held3 (fun W => W.cell? ⟨T, 0, none⟩ = some (.int .u32 a) ∧ W.cell? ⟨T, 1, none⟩ = some (.int .i32 b) ∧ W.cell? ⟨T, 2, none⟩ = some (.int .u32 c') ∧ W.cell? ⟨T, 3, none⟩ = some (.int .u32 d)) (first | exact ⟨t0, t1, t2, t3⟩ | exact HS7.out) (fail)
  all_goals
    go_wp2_with fail
    have m8 := am_set (u0 := .int .u32 c') (u1 := .int .u32 d) HM6.out y0'
    exact bodyPost_ret (v := .tuple #[.int .u32 a, .int .i32 b, .agg #[.int .u32 c', .int .u32 d], .int .u8 st, v]) (by simp [results, Tryd.results8, go_sem, y0', y1']) rfl (HFIN.out _ ((((Below.refl _ _).setCell (p := ⟨Z + 1, 0, none⟩) HZZ.out _).setCell (p := ⟨Z + 1, 1, none⟩) HZZ.out _).drew) (am_drew m8))
end Go.Proofs.YtelcjpmaegacoaaDoor.AiZ
