/- NewMinifyRenamer. -/
import Derived.Test.YtjgomgagaolhgabRows
import Derived.Test.YtjgomgagaolhgabMem
import Derived.Test.YtjgomgagaolhgabSl
import Derived.Test.YtjgomgagaolhgabArrB
import Derived.Test.YtjgomgagaolhgabInv
import Derived.Test.YtjgomgagaolhgabMap
import Derived.WalkKit
import Derived.ProofKit
import Derived.OpenShut
import Derived.Below
import Derived.WalkLawsBesides
import Derived.Lib.Hide
import Derived.Outline
import Derived.RegionTactic
import Derived.Deep.QuietTactic
import Derived.BigQuiet
import Derived.WalkSpells
import Derived.Deep.OwnRows
import Derived.IntWalk
import Derived.Deep.DeepMust
namespace Go.Proofs.Ytjgomgagaolhgab.NmA
open Go.RowKit Mem Sl
set_option linter.unusedVariables false
open Go.Proofs.Ytjgomgagaolhgab.Inv Map ArrB

theorem info85 : (Try.prog.info? 85).map (fun i => (i.zero, i.size, i.bytes)) = some (some (.agg #[.string ByteArray.empty, .int .u32 0, .int .u32 0]), 3, 24) := by kernel_rfl
/-- Block g is n zero slots. -/
def Zs (w : World) (g n : Nat) : Prop := w.heap[g]? = some (.cells (madeCells #[.string ByteArray.empty, .int .u32 0, .int .u32 0] (n * 3)) 85)
theorem Zs.below {w w' : World} {g n : Nat} (h : Zs w g n) (hb : Below w.heap.size w w') : Zs w' g n := (hb.block g (Array.getElem?_eq_some_iff.1 h).1).trans h
def SlV (w : World) (n : Nat) (v : Value) : Prop := ∃ g, v = .slice (some ⟨g, 0, none⟩) n n ∧ Zs w g n
def Slots (w : World) (n0 n1 n2 n3 : Nat) (s0 s1 s2 s3 : Value) : Prop := SlV w n0 s0 ∧ SlV w n1 s1 ∧ SlV w n2 s2 ∧ SlV w n3 s3
def MpV (w : World) (v : Value) : Prop := ∃ b, v = .map (some b) ∧ w.heap[b]? = some (.map #[] 0)
theorem SlV.below {w w' : World} {n : Nat} {v : Value} (h : SlV w n v) (hb : Below w.heap.size w w') : SlV w' n v := by
  obtain ⟨g, h1, h2⟩ := h
  exact ⟨g, h1, h2.below hb⟩
theorem MpV.below {w w' : World} {v : Value} (h : MpV w v) (hb : Below w.heap.size w w') : MpV w' v := by
  obtain ⟨g, h1, h2⟩ := h
  exact ⟨g, h1, (hb.block g (Array.getElem?_eq_some_iff.1 h2).1).trans h2⟩
/-- The renamer: block p, its cells, the four rows of slots, the map. -/
def Ren (w : World) (n0 n1 n2 n3 : Nat) (v : Value) : Prop := ∃ p s0 s1 s2 s3 m, v = .pointer (some ⟨p, 0, none⟩) ∧ Row w p 83 [.map none, s0, s1, s2, s3, m, .slice none 0 0] ∧ Slots w n0 n1 n2 n3 s0 s1 s2 s3 ∧ MpV w m
def V (H : Nat) (n0 n1 n2 n3 : Nat) (t : Nat) (v : Value) (w : World) : Prop :=
  match t with
  | 2 => v = .map none
  | 3 => v = .pointer (some ⟨H, 0, none⟩)
  | 4 => v = .pointer (some ⟨H + 1, 0, none⟩)
  | 7 => v = .agg #[.slice none 0 0]
  | 8 => v = .map none
  | 9 => v = .pointer (some ⟨H + 1, 0, none⟩)
  | 12 => v = .pointer (some ⟨H + 1, 1, none⟩)
  | 15 => v = .pointer (some ⟨H + 1, 2, none⟩)
  | 18 => v = .pointer (some ⟨H + 1, 3, none⟩)
  | 10 => v = .int .u32 n0
  | 13 => v = .int .u32 n1
  | 16 => v = .int .u32 n2
  | 19 => v = .int .u32 n3
  | 11 => SlV w n0 v
  | 14 => SlV w n1 v
  | 17 => SlV w n2 v
  | 20 => SlV w n3 v
  | 21 => ∃ s0 s1 s2 s3, v = .agg #[s0, s1, s2, s3] ∧ Slots w n0 n1 n2 n3 s0 s1 s2 s3
  | 22 => MpV w v
  | 23 => ∃ s0 s1 s2 s3 m, v = .agg #[.map none, s0, s1, s2, s3, m, .slice none 0 0] ∧ Slots w n0 n1 n2 n3 s0 s1 s2 s3 ∧ MpV w m
  | 24 => Ren w n0 n1 n2 n3 v
  | 6 => Ren w n0 n1 n2 n3 v
  | _ => True
theorem Slots.below {w w' : World} {n0 n1 n2 n3 : Nat} {s0 s1 s2 s3 : Value} (h : Slots w n0 n1 n2 n3 s0 s1 s2 s3) (hb : Below w.heap.size w w') : Slots w' n0 n1 n2 n3 s0 s1 s2 s3 :=
  ⟨h.1.below hb, h.2.1.below hb, h.2.2.1.below hb, h.2.2.2.below hb⟩
theorem Ren.below {w w' : World} {n0 n1 n2 n3 : Nat} {v : Value} (h : Ren w n0 n1 n2 n3 v) (hb : Below w.heap.size w w') : Ren w' n0 n1 n2 n3 v := by
  obtain ⟨p, s0, s1, s2, s3, m, h1, h2, h3, h4⟩ := h
  exact ⟨p, s0, s1, s2, s3, m, h1, h2.below hb h2.lt, h3.below hb, h4.below hb⟩
theorem V_mono (H n0 n1 n2 n3 t : Nat) (v : Value) (w w' : World) (h : V H n0 n1 n2 n3 t v w) (hb : Below w.heap.size w w') : V H n0 n1 n2 n3 t v w' := by
  unfold V at h ⊢
  split at h
  all_goals first | exact h | exact SlV.below h hb | exact MpV.below h hb | exact Ren.below h hb | skip
  · obtain ⟨s0, s1, s2, s3, h1, h2⟩ := h
    exact ⟨s0, s1, s2, s3, h1, h2.below hb⟩
  · obtain ⟨s0, s1, s2, s3, m, h1, h2, h3⟩ := h
    exact ⟨s0, s1, s2, s3, m, h1, h2.below hb, h3.below hb⟩
set_option maxHeartbeats 1000000 in
set_option maxRecDepth 100000 in
theorem new27 (n0 n1 n2 n3 : Nat) (w : World) (h0 : n0 ≤ 65536) (h1 : n1 ≤ 65536) (h2 : n2 ≤ 65536) (h3 : n3 ≤ 65536) :
    Calls Try.prog 27 #[.agg #[.slice none 0 0], .agg #[.int .u32 n0, .int .u32 n1, .int .u32 n2, .int .u32 n3], .map none] w fun e w' => (∃ v, e = .returned v ∧ Ren w' n0 n1 n2 n3 v) ∧ Below w.heap.size w w' := by
  go_enter Try.func27, Try.ntmps27
  go_wp2
  rename_i K hK
  have hw : Row ((w.alloc (Obj.cells #[Value.slice none 0 0] 58)).alloc (Obj.cells #[.int .u32 n0, .int .u32 n1, .int .u32 n2, .int .u32 n3] 60)) w.heap.size 58 [.slice none 0 0] := (Row.new w 58 [.slice none 0 0]).alloc _
  have hw1 : Row ((w.alloc (Obj.cells #[Value.slice none 0 0] 58)).alloc (Obj.cells #[.int .u32 n0, .int .u32 n1, .int .u32 n2, .int .u32 n3] 60)) (w.heap.size + 1) 60 [.int .u32 n0, .int .u32 n1, .int .u32 n2, .int .u32 n3] := by
    have := Row.new (w.alloc (Obj.cells #[Value.slice none 0 0] 58)) 60 [.int .u32 n0, .int .u32 n1, .int .u32 n2, .int .u32 n3]
    simpa using this
  have hbel : Below w.heap.size w ((w.alloc (Obj.cells #[Value.slice none 0 0] 58)).alloc (Obj.cells #[.int .u32 n0, .int .u32 n1, .int .u32 n2, .int .u32 n3] 60)) := ((Below.refl _ _).alloc (Nat.le_refl _) _).alloc (by simp) _
  generalize (w.alloc (Obj.cells #[Value.slice none 0 0] 58)).alloc (Obj.cells #[.int .u32 n0, .int .u32 n1, .int .u32 n2, .int .u32 n3] 60) = W at hw hw1 hbel ⊢
  refine wp_region_vals (by kernel_rfl) [2, 3, 4] (V w.heap.size n0 n1 n2 n3) (fun w' => Row w' w.heap.size 58 [.slice none 0 0] ∧ Row w' (w.heap.size + 1) 60 [.int .u32 n0, .int .u32 n1, .int .u32 n2, .int .u32 n3] ∧ Below w.heap.size w w') 25 rfl (by decide +kernel) (V_mono _ _ _ _ _) ⟨hw, hw1, hbel.drew⟩ ?_ ?_ ?_
  · intro t ht
    simp at ht
    rcases ht with rfl | rfl | rfl <;> rfl
  · simp only [List.forall_mem_cons]
    refine ⟨?_, ?_, ?_, ?_, ?_, ?_, ?_, ?_, ?_, ?_, ?_, ?_, ?_, ?_, ?_, ?_, ?_, ?_, ?_, by simp⟩
    · rintro a' w' ⟨g1, g2, g3⟩ hV
      have v3 : a'.tmps.getD 3 undef = .pointer (some ⟨w.heap.size, 0, none⟩) := hV 3 (by simp [tmpsOf, Op.operands])
      have c0 := g1.at_ (i := 0) rfl
      unfold Oper.wp
      simp [execOp, Act.eval, go_sem, v3, c0]
      exact ⟨_, rfl, rfl, Below.refl _ _, g1, g2, g3⟩
    · rintro a' w' ⟨g1, g2, g3⟩ hV
      have v2 : a'.tmps.getD 2 undef = .map none := hV 2 (by simp [tmpsOf, Op.operands])
      unfold Oper.wp
      simp [execOp, Act.eval, go_sem, v2]
      exact ⟨_, rfl, rfl, Below.refl _ _, g1, g2, g3⟩
    · rintro a' w' ⟨g1, g2, g3⟩ hV
      have v4 : a'.tmps.getD 4 undef = .pointer (some ⟨w.heap.size + 1, 0, none⟩) := hV 4 (by simp [tmpsOf, Op.operands])
      unfold Oper.wp
      simp [execOp, Act.eval, go_sem, v4]
      exact ⟨_, rfl, rfl, Below.refl _ _, g1, g2, g3⟩
    · rintro a' w' ⟨g1, g2, g3⟩ hV
      have v9 : a'.tmps.getD 9 undef = .pointer (some ⟨w.heap.size + 1, 0, none⟩) := hV 9 (by simp [tmpsOf, Op.operands])
      have c0 := g2.at_ (i := 0) rfl
      unfold Oper.wp
      simp [execOp, Act.eval, go_sem, v9, c0]
      exact ⟨_, rfl, rfl, Below.refl _ _, g1, g2, g3⟩
    · rintro a' w' ⟨g1, g2, g3⟩ hV
      have v10 : a'.tmps.getD 10 undef = .int .u32 n0 := hV 10 (by simp [tmpsOf, Op.operands])
      have hmk := run_make_wide (P := Try.prog) 79 85 _ 3 24 _ Try.underlying79 info85 rfl .u32 .u32 n0 (by omega) (by omega) w'
      unfold Oper.wp
      simp [execOp, Act.eval, go_sem, v10, hmk]
      exact ⟨_, rfl, ⟨_, rfl, heap_alloc_new _ _⟩, (Below.refl _ _).alloc (Nat.le_refl _) _, g1.alloc _, g2.alloc _, g3.alloc g3.size _⟩
    · rintro a' w' ⟨g1, g2, g3⟩ hV
      have v4 : a'.tmps.getD 4 undef = .pointer (some ⟨w.heap.size + 1, 0, none⟩) := hV 4 (by simp [tmpsOf, Op.operands])
      unfold Oper.wp
      simp [execOp, Act.eval, go_sem, v4]
      exact ⟨_, rfl, rfl, Below.refl _ _, g1, g2, g3⟩
    · rintro a' w' ⟨g1, g2, g3⟩ hV
      have v12 : a'.tmps.getD 12 undef = .pointer (some ⟨w.heap.size + 1, 1, none⟩) := hV 12 (by simp [tmpsOf, Op.operands])
      have c0 := g2.at_ (i := 1) rfl
      unfold Oper.wp
      simp [execOp, Act.eval, go_sem, v12, c0]
      exact ⟨_, rfl, rfl, Below.refl _ _, g1, g2, g3⟩
    · rintro a' w' ⟨g1, g2, g3⟩ hV
      have v13 : a'.tmps.getD 13 undef = .int .u32 n1 := hV 13 (by simp [tmpsOf, Op.operands])
      have hmk := run_make_wide (P := Try.prog) 79 85 _ 3 24 _ Try.underlying79 info85 rfl .u32 .u32 n1 (by omega) (by omega) w'
      unfold Oper.wp
      simp [execOp, Act.eval, go_sem, v13, hmk]
      exact ⟨_, rfl, ⟨_, rfl, heap_alloc_new _ _⟩, (Below.refl _ _).alloc (Nat.le_refl _) _, g1.alloc _, g2.alloc _, g3.alloc g3.size _⟩
    · rintro a' w' ⟨g1, g2, g3⟩ hV
      have v4 : a'.tmps.getD 4 undef = .pointer (some ⟨w.heap.size + 1, 0, none⟩) := hV 4 (by simp [tmpsOf, Op.operands])
      unfold Oper.wp
      simp [execOp, Act.eval, go_sem, v4]
      exact ⟨_, rfl, rfl, Below.refl _ _, g1, g2, g3⟩
    · rintro a' w' ⟨g1, g2, g3⟩ hV
      have v15 : a'.tmps.getD 15 undef = .pointer (some ⟨w.heap.size + 1, 2, none⟩) := hV 15 (by simp [tmpsOf, Op.operands])
      have c0 := g2.at_ (i := 2) rfl
      unfold Oper.wp
      simp [execOp, Act.eval, go_sem, v15, c0]
      exact ⟨_, rfl, rfl, Below.refl _ _, g1, g2, g3⟩
    · rintro a' w' ⟨g1, g2, g3⟩ hV
      have v16 : a'.tmps.getD 16 undef = .int .u32 n2 := hV 16 (by simp [tmpsOf, Op.operands])
      have hmk := run_make_wide (P := Try.prog) 79 85 _ 3 24 _ Try.underlying79 info85 rfl .u32 .u32 n2 (by omega) (by omega) w'
      unfold Oper.wp
      simp [execOp, Act.eval, go_sem, v16, hmk]
      exact ⟨_, rfl, ⟨_, rfl, heap_alloc_new _ _⟩, (Below.refl _ _).alloc (Nat.le_refl _) _, g1.alloc _, g2.alloc _, g3.alloc g3.size _⟩
    · rintro a' w' ⟨g1, g2, g3⟩ hV
      have v4 : a'.tmps.getD 4 undef = .pointer (some ⟨w.heap.size + 1, 0, none⟩) := hV 4 (by simp [tmpsOf, Op.operands])
      unfold Oper.wp
      simp [execOp, Act.eval, go_sem, v4]
      exact ⟨_, rfl, rfl, Below.refl _ _, g1, g2, g3⟩
    · rintro a' w' ⟨g1, g2, g3⟩ hV
      have v18 : a'.tmps.getD 18 undef = .pointer (some ⟨w.heap.size + 1, 3, none⟩) := hV 18 (by simp [tmpsOf, Op.operands])
      have c0 := g2.at_ (i := 3) rfl
      unfold Oper.wp
      simp [execOp, Act.eval, go_sem, v18, c0]
      exact ⟨_, rfl, rfl, Below.refl _ _, g1, g2, g3⟩
    · rintro a' w' ⟨g1, g2, g3⟩ hV
      have v19 : a'.tmps.getD 19 undef = .int .u32 n3 := hV 19 (by simp [tmpsOf, Op.operands])
      have hmk := run_make_wide (P := Try.prog) 79 85 _ 3 24 _ Try.underlying79 info85 rfl .u32 .u32 n3 (by omega) (by omega) w'
      unfold Oper.wp
      simp [execOp, Act.eval, go_sem, v19, hmk]
      exact ⟨_, rfl, ⟨_, rfl, heap_alloc_new _ _⟩, (Below.refl _ _).alloc (Nat.le_refl _) _, g1.alloc _, g2.alloc _, g3.alloc g3.size _⟩
    · rintro a' w' ⟨g1, g2, g3⟩ hV
      obtain ⟨b0, e0, z0⟩ : SlV w' n0 _ := hV 11 (by simp [tmpsOf, Op.operands])
      obtain ⟨b1, e1, z1⟩ : SlV w' n1 _ := hV 14 (by simp [tmpsOf, Op.operands])
      obtain ⟨b2, e2, z2⟩ : SlV w' n2 _ := hV 17 (by simp [tmpsOf, Op.operands])
      obtain ⟨b3, e3, z3⟩ : SlV w' n3 _ := hV 20 (by simp [tmpsOf, Op.operands])
      rw [Array.getD_eq_getD_getElem?] at e0 e1 e2 e3
      unfold Oper.wp
      simp [execOp, Act.eval, go_sem, e0, e1, e2, e3]
      exact ⟨_, rfl, ⟨_, _, _, _, rfl, ⟨b0, rfl, z0⟩, ⟨b1, rfl, z1⟩, ⟨b2, rfl, z2⟩, ⟨b3, rfl, z3⟩⟩, Below.refl _ _, g1, g2, g3⟩
    · rintro a' w' ⟨g1, g2, g3⟩ hV
      have hmm := @run_makeMap Try.prog
      unfold Oper.wp
      simp [execOp, go_sem, hmm]
      exact ⟨_, rfl, ⟨_, rfl, heap_alloc_new _ _⟩, (Below.refl _ _).alloc (Nat.le_refl _) _, g1.alloc _, g2.alloc _, g3.alloc g3.size _⟩
    · rintro a' w' ⟨g1, g2, g3⟩ hV
      have v7 : a'.tmps.getD 7 undef = .agg #[.slice none 0 0] := hV 7 (by simp [tmpsOf, Op.operands])
      have v8 : a'.tmps.getD 8 undef = .map none := hV 8 (by simp [tmpsOf, Op.operands])
      obtain ⟨s0, s1, s2, s3, e0, hs⟩ : ∃ s0 s1 s2 s3, _ = Value.agg #[s0, s1, s2, s3] ∧ Slots w' n0 n1 n2 n3 s0 s1 s2 s3 := hV 21 (by simp [tmpsOf, Op.operands])
      obtain ⟨b, e1, hm⟩ : MpV w' _ := hV 22 (by simp [tmpsOf, Op.operands])
      have HS := hs
      obtain ⟨⟨b0, rfl, z0⟩, ⟨b1, rfl, z1⟩, ⟨b2, rfl, z2⟩, ⟨b3, rfl, z3⟩⟩ := hs
      rw [Array.getD_eq_getD_getElem?] at v7 v8 e0 e1
      unfold Oper.wp
      simp [execOp, Act.eval, go_sem, v7, v8, e0, e1]
      exact ⟨_, rfl, ⟨_, _, _, _, _, rfl, HS, ⟨b, rfl, hm⟩⟩, Below.refl _ _, g1, g2, g3⟩
    · rintro a' w' ⟨g1, g2, g3⟩ hV
      obtain ⟨s0, s1, s2, s3, m, e0, hs, hm⟩ : ∃ s0 s1 s2 s3 m, _ = Value.agg #[.map none, s0, s1, s2, s3, m, .slice none 0 0] ∧ Slots w' n0 n1 n2 n3 s0 s1 s2 s3 ∧ MpV w' m := hV 23 (by simp [tmpsOf, Op.operands])
      unfold Oper.wp
      simp [execOp, Act.eval, go_sem, e0]
      exact ⟨_, rfl, ⟨_, s0, s1, s2, s3, m, rfl, Row.newArr _ _ _, hs.below ((Below.refl _ _).alloc (Nat.le_refl _) _), hm.below ((Below.refl _ _).alloc (Nat.le_refl _) _)⟩, (Below.refl _ _).alloc (Nat.le_refl _) _, g1.alloc _, g2.alloc _, g3.alloc g3.size _⟩
    · rintro a' w' ⟨g1, g2, g3⟩ hV
      have e0 : Ren w' n0 n1 n2 n3 _ := hV 24 (by simp [tmpsOf, Op.operands])
      rw [Array.getD_eq_getD_getElem?] at e0
      unfold Oper.wp
      simp [execOp, Act.eval, go_sem]
      exact ⟨_, rfl, e0, Below.refl _ _, g1, g2, g3⟩
  · rintro a' w' ⟨g1, g2, g3⟩ hdf hsz hkeep hV
    have h6 : Ren w' n0 n1 n2 n3 (a'.tmps.getD 6 undef) := hV 18 6 rfl
    apply hK
    apply wp_ret
    refine bodyPost_ret (v := a'.tmps.getD 6 undef) ?_ hdf ?_
    · simp [results, Try.results27]
    · exact ⟨⟨_, rfl, h6⟩, g3⟩
end Go.Proofs.Ytjgomgagaolhgab.NmA
