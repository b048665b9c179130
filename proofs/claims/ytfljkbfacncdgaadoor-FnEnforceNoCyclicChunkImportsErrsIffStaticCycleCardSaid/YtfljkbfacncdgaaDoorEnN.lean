/- FnEnforceNoCyclicChunkImportsErrsIffStaticCycle: a new context. -/
import Derived.Test.YtfljkbfacncdgaaDoorRows
import Derived.Test.YtfljkbfacncdgaaDoorMem
import Derived.Test.YtfljkbfacncdgaaDoorSl
import Derived.Test.YtfljkbfacncdgaaDoorEnF
import Derived.Test.YtfljkbfacncdgaaDoorInv
import Derived.Great.BuildSlice
import Derived.WalkKit
import Derived.ProofKit
import Derived.OpenShut
import Derived.Below
import Derived.WalkLawsBesides
import Derived.Lib.Hide
import Derived.Outline
import Derived.RegionTactic
import Derived.Deep.QuietTactic
import Derived.BigQuiet
import Derived.WalkSpells
import Derived.Deep.OwnRows
import Derived.IntWalk
import Derived.Deep.DeepMust
namespace Go.Proofs.YtfljkbfacncdgaaDoor.EnN
open Go.RowKit Mem Sl
set_option linter.unusedVariables false
open Args Fvs EnA EnL EnF Go.Proofs.YtfljkbfacncdgaaDoor.Inv
theorem run_make_wide {P : Program} (t e : TypeId) (z : Value) (size bytes : Nat) (cs : Array Value) (ht : P.underlying t = some (.slice e)) (hinfo : (P.info? e).map (fun i => (i.zero, i.size, i.bytes)) = some (some z, size, bytes)) (hz1 : z.cells = cs)
    (kl kc : IntKind) (n : Nat) (hbytes : bytes * n ≤ 281474976710656) (h63 : n ≤ 9223372036854775807) (w : World) :
    (Instr.makeSlice t (.int kl (n : Int)) (.int kc (n : Int))).run P w = .ok (.slice (some ⟨w.heap.size, 0, none⟩) n n) (w.alloc (.cells (madeCells cs (n * size)) e)) := by
  obtain ⟨i, hi, hzz⟩ := Option.map_eq_some_iff.1 hinfo
  simp only [Prod.mk.injEq] at hzz
  obtain ⟨hz, hs, hb⟩ := hzz
  have hb' : (i.bytes : Int) * (n : Int) ≤ 281474976710656 := by
    have h : ((i.bytes * n : Nat) : Int) ≤ 281474976710656 := by rw [hb]; omega
    rwa [Int.natCast_mul] at h
  have hr := run_make (P := P) w t e i z ht hi hz kl kc n n (by omega) (Int.le_refl _) hb' (by omega)
  simp only [Int.toNat_natCast, hs, hz1] at hr
  exact hr

noncomputable def c90 : Array Value := (Tryd.prog.built 90 []).getD #[]
theorem built90 : Tryd.prog.built 90 [] = some c90 := by kernel_rfl
noncomputable def c121 (g M K n : Nat) : Array Value := (Tryd.prog.built 121 [(0, .pointer (some ⟨g, 0, none⟩)), (2, logV M), (6, .slice (some ⟨K, 0, none⟩) n n)]).getD #[]
theorem built121 (g M K n : Nat) : Tryd.prog.built 121 [(0, .pointer (some ⟨g, 0, none⟩)), (2, logV M), (6, .slice (some ⟨K, 0, none⟩) n n)] = some (c121 g M K n) := by kernel_rfl
/-- The cells of a context. -/
structure CD (D : Array Value) (M K n : Nat) : Prop where
  q0 : D[17]? = some (.slice (some ⟨K, 0, none⟩) n n)
  q1 : D[2]? = some (.func (.func 20) #[] #[.pointer (some ⟨M, 0, none⟩), .pointer (some ⟨M + 1, 0, none⟩), .pointer (some ⟨M + 2, 0, none⟩)])
  q2 : D[3]? = some (.func (.func 23) #[] #[.pointer (some ⟨M, 0, none⟩), .pointer (some ⟨M + 1, 0, none⟩)])
  q3 : D[4]? = some .nilFunc
  q4 : D[5]? = some .nilFunc
  q5 : D[6]? = some (.int .i8 0)
  q6 : D[7]? = some (.map none)
theorem c121_at (g M K n : Nat) : CD (c121 g M K n) M K n := ⟨by kernel_rfl, by kernel_rfl, by kernel_rfl, by kernel_rfl, by kernel_rfl, by kernel_rfl, by kernel_rfl⟩
noncomputable def z142 : Value := ((Tryd.prog.info? 142).bind (·.zero)).getD undef
noncomputable def bytes142 : Nat := ((Tryd.prog.info? 142).map (·.bytes)).getD 0
theorem info142 : (Tryd.prog.info? 142).map (fun i => (i.zero, i.size, i.bytes)) = some (some z142, 22, bytes142) := by kernel_rfl
theorem bytes142_le : bytes142 ≤ 100000 := by decide +kernel
theorem z142_size : z142.cells.size = 22 := by kernel_rfl
theorem z142_at : z142.cells[3]? = some (.slice none 0 0) ∧ z142.cells[0]? = some (.string ByteArray.empty) := ⟨by kernel_rfl, by kernel_rfl⟩
theorem made_at (z : Array Value) (n i j : Nat) (hz : z.size = 22) (hi : i < n) (hj : j < 22) : (madeCells z (n * 22))[i * 22 + j]? = z[j]? := by
  unfold madeCells
  have h1 : i * 22 + j < n * 22 := by omega
  rw [Array.getElem?_map, Array.getElem?_range, if_pos h1]
  simp only [Option.map_some, hz]
  have h2 : (i * 22 + j) % 22 = j := by omega
  rw [h2, getElem!_pos z j (by omega), Array.getElem?_eq_getElem (by omega)]
/-- New chunks. -/
structure Ck (w : World) (K n : Nat) : Prop where
  lt : K < w.heap.size
  cell : ∀ i, i < n → w.cell? ⟨K, i * 22 + 3, none⟩ = some (.slice none 0 0)
  frozen : ∀ o, w.frozen? ⟨K, o, none⟩ = false
  str : ∀ v, w.cell? ⟨K, 0, none⟩ = some v → v = .string ByteArray.empty
theorem Ck.later {w w' : World} {K n : Nat} (h : Ck w K n) (hb : Below w.heap.size w w') : Ck w' K n := by
  have b := hb.block K h.lt
  exact ⟨Nat.lt_of_lt_of_le h.lt hb.size, fun i hi => by rw [← h.cell i hi]; simp [World.cell?, b], fun o => by rw [← h.frozen o]; simp [World.frozen?, b], fun v hv => h.str v (by rw [← hv]; simp [World.cell?, b])⟩
theorem ck_made (w : World) (n : Nat) : Ck (w.alloc (.cells (madeCells z142.cells (n * 22)) 142)) w.heap.size n := by
  have h : (w.alloc (.cells (madeCells z142.cells (n * 22)) 142)).heap[w.heap.size]? = some (.cells (madeCells z142.cells (n * 22)) 142 (0, 0)) := heap_alloc_new w _
  have hc : ∀ o, (w.alloc (.cells (madeCells z142.cells (n * 22)) 142)).cell? ⟨w.heap.size, o, none⟩ = (madeCells z142.cells (n * 22))[o]? := fun o => cell_of_row _ w.heap.size o _ 142 (0, 0) h
  refine ⟨(Array.getElem?_eq_some_iff.1 h).1, fun i hi => ?_, fun o => (Row.newArr w 142 (madeCells z142.cells (n * 22))).frozen o, fun v hv => ?_⟩
  · rw [hc, made_at _ n i 3 z142_size hi (by omega)]; exact z142_at.1
  · rw [hc] at hv
    rcases Nat.eq_zero_or_pos n with h0 | h0
    · subst h0
      simp [madeCells] at hv
    · have := made_at z142.cells n 0 0 z142_size h0 (by omega)
      rw [Nat.zero_mul, Nat.zero_add, hv, z142_at.2] at this
      exact Option.some.inj this
theorem cx_new {w : World} {D : Array Value} {M K n : Nat} (q : CD D M K n) (hl : Lg w M false) (hk : Ck w K n) : Cx (w.alloc (.cells D 121)) w.heap.size K M n (fun _ => .slice none 0 0) (fun _ => []) false := by
  have h : (w.alloc (.cells D 121)).heap[w.heap.size]? = some (.cells D 121 (0, 0)) := heap_alloc_new w _
  have hb : Below w.heap.size w (w.alloc (.cells D 121)) := (Below.refl _ _).alloc (Nat.le_refl _) _
  have hc : ∀ o, (w.alloc (.cells D 121)).cell? ⟨w.heap.size, o, none⟩ = D[o]? := fun o => cell_of_row _ w.heap.size o _ 121 (0, 0) h
  have hk' := hk.later hb
  refine ⟨(hc _).trans q.q0, (hc _).trans q.q1, (hc _).trans q.q2, (hc _).trans q.q3, (hc _).trans q.q4, (hc _).trans q.q5, (hc _).trans q.q6, ⟨hk'.lt, by have := hk.lt; omega, by simp, hk'.cell, hk'.frozen, fun i _ => World.ownsRow_nil _ _ 144 2, fun i j _ _ _ => .inl rfl⟩, hl.later hb, hk.lt, hl.lt, ?_⟩
  refine ⟨?_, ?_, ?_⟩ <;> rintro rfl
  · have := hk.str _ hl.m0; cases this
  · have := hk.str _ hl.e0; cases this
  · have := hk.str _ hl.d0; cases this
def Ctx (B n : Nat) (v : Value) (w : World) : Prop := ∃ c K M, v = .pointer (some ⟨c, 0, none⟩) ∧ B ≤ K ∧ B ≤ M ∧ Cx w c K M n (fun _ => .slice none 0 0) (fun _ => []) false
/-- What each slot holds. -/
def Vs (B n : Nat) : Nat → Value → World → Prop
  | 0, v, _ => v = .int .i64 (n : Int)
  | 3, v, _ => v = .agg c90
  | 4, v, _ => ∃ g, v = .pointer (some ⟨g, 0, none⟩)
  | 5, v, w => ∃ M, v = logV M ∧ B ≤ M ∧ Lg w M false
  | 6, v, _ => v = .int .i64 (n : Int)
  | 7, v, w => ∃ K, v = .slice (some ⟨K, 0, none⟩) n n ∧ B ≤ K ∧ Ck w K n
  | 8, v, w => ∃ D M K, v = .agg D ∧ CD D M K n ∧ B ≤ M ∧ Lg w M false ∧ B ≤ K ∧ Ck w K n
  | 9, v, w => Ctx B n v w
  | 2, v, w => Ctx B n v w
  | _, _, _ => True
theorem ctx_later {B n : Nat} {v : Value} {w w' : World} (h : Ctx B n v w) (hb : Below w.heap.size w w') : Ctx B n v w' := by
  obtain ⟨c, K, M, a, b, d, e⟩ := h
  exact ⟨c, K, M, a, b, d, e.later hb⟩
theorem vs_mono (B n : Nat) : ∀ t v (w w' : World), Vs B n t v w → Below w.heap.size w w' → Vs B n t v w' := by
  intro t v w w' h hb
  match t, h with
  | 0, h => exact h
  | 1, h => exact h
  | 2, h => exact ctx_later h hb
  | 3, h => exact h
  | 4, h => exact h
  | 5, h => obtain ⟨M, a, b, c⟩ := h; exact ⟨M, a, b, c.later hb⟩
  | 6, h => exact h
  | 7, h => obtain ⟨K, a, b, c⟩ := h; exact ⟨K, a, b, c.later hb⟩
  | 8, h => obtain ⟨g, M, K, a, q, b, c, d, e⟩ := h; exact ⟨g, M, K, a, q, b, c.later hb, d, e.later hb⟩
  | 9, h => exact ctx_later h hb
  | _ + 10, h => exact h
/-- What a new context is. -/
def Nc (n : Nat) (w : World) (e : Ending) (w' : World) : Prop := (∃ v, e = .returned v ∧ Ctx w.heap.size n v w') ∧ Below w.heap.size w w'
set_option maxRecDepth 100000 in
set_option maxHeartbeats 4000000 in
theorem new10 (n : Nat) (w : World) (hn : n ≤ 4096) : Calls Tryd.prog 10 #[.int .i64 (n : Int)] w (Nc n w) := by
  have hby := bytes142_le
  have hbn : bytes142 * n ≤ 281474976710656 := Nat.le_trans (Nat.mul_le_mul hby hn) (by decide)
  go_enter Tryd.func10, Tryd.ntmps10
  go_wp2
  rename_i K hK
  refine wp_region_vals (by kernel_rfl) [0] (Vs w.heap.size n) (fun w' => Below w.heap.size w w') 10 rfl (by decide +kernel) (vs_mono _ _) (Below.refl _ _).drew ?_ ?_ ?_
  · intro t ht
    simp at ht
    subst ht
    rfl
  · simp only [List.forall_mem_cons]
    refine ⟨?_, ?_, ?_, ?_, ?_, ?_, ?_, ?_, by simp⟩
    · rintro a' w' g1 hV
      have hb : (Instr.build 90 #[]).run Tryd.prog w' = .ok (.agg c90) w' := run_build w' 90 _ _ built90
      unfold Oper.wp
      simp [execOp, hb, Result.andThen]
      exact ⟨_, rfl, rfl, Below.refl _ _, g1⟩
    · rintro a' w' g1 hV
      have v3 : a'.tmps.getD 3 undef = .agg c90 := hV 3 (by simp [tmpsOf, Op.operands])
      have hbx : (Instr.box 90 (.agg c90)).run Tryd.prog w' = .ok (.pointer (some ⟨w'.heap.size, 0, none⟩)) (w'.alloc (.cells c90 90)) := rfl
      rw [Array.getD_eq_getD_getElem?] at v3
      unfold Oper.wp
      simp [execOp, Act.eval, v3, hbx, Result.andThen]
      exact ⟨_, rfl, ⟨_, rfl⟩, (Below.refl _ _).alloc (Nat.le_refl _) _, g1.alloc g1.size _⟩
    · rintro a' w' g1 hV
      unfold Oper.wp
      simp [go_sem]
      refine (log14 w').mono ?_
      rintro e w2 ⟨M, rfl, hM, hl, hb⟩
      exact ⟨_, rfl, ⟨M, rfl, Nat.le_trans g1.size hM, hl⟩, hb, g1.trans (hb.mono g1.size)⟩
    · rintro a' w' g1 hV
      have v0 : a'.tmps.getD 0 undef = .int .i64 (n : Int) := hV 0 (by simp [tmpsOf, Op.operands])
      unfold Oper.wp
      simp [execOp, Act.eval, go_sem, v0]
      exact ⟨_, rfl, rfl, Below.refl _ _, g1⟩
    · rintro a' w' g1 hV
      have v6 : a'.tmps.getD 6 undef = .int .i64 (n : Int) := hV 6 (by simp [tmpsOf, Op.operands])
      have hmk := run_make_wide (P := Tryd.prog) 100 142 z142 22 bytes142 _ Tryd.underlying100 info142 rfl .i64 .i64 n hbn (by omega) w'
      rw [Array.getD_eq_getD_getElem?] at v6
      unfold Oper.wp
      simp [execOp, Act.eval, go_sem, v6, hmk]
      exact ⟨_, rfl, ⟨_, rfl, g1.size, ck_made w' n⟩, (Below.refl _ _).alloc (Nat.le_refl _) _, g1.alloc g1.size _⟩
    · rintro a' w' g1 hV
      obtain ⟨g, e4⟩ : ∃ g, _ = Value.pointer (some ⟨g, 0, none⟩) := hV 4 (by simp [tmpsOf, Op.operands])
      obtain ⟨M, e5, hM, hl⟩ : ∃ M, _ = logV M ∧ _ := hV 5 (by simp [tmpsOf, Op.operands])
      obtain ⟨kb, e7, hkb, hk⟩ : ∃ kb, _ = Value.slice (some ⟨kb, 0, none⟩) n n ∧ _ := hV 7 (by simp [tmpsOf, Op.operands])
      rw [Array.getD_eq_getD_getElem?] at e4 e5 e7
      have hb : (Instr.build 121 #[(0, a'.eval (.tmp 4)), (2, a'.eval (.tmp 5)), (6, a'.eval (.tmp 7))]).run Tryd.prog w' = .ok (.agg (c121 g M kb n)) w' := run_build w' 121 _ _ (by simp [Act.eval, e4, e5, e7]; exact built121 g M kb n)
      unfold Oper.wp
      simp [execOp, hb, Result.andThen]
      exact ⟨_, rfl, ⟨_, _, _, rfl, c121_at g M kb n, hM, hl, hkb, hk⟩, Below.refl _ _, g1⟩
    · rintro a' w' g1 hV
      obtain ⟨D, M, kb, e8, q, hM, hl, hkb, hk⟩ : ∃ D M kb, _ = Value.agg D ∧ _ := hV 8 (by simp [tmpsOf, Op.operands])
      have hbx : (Instr.box 121 (.agg D)).run Tryd.prog w' = .ok (.pointer (some ⟨w'.heap.size, 0, none⟩)) (w'.alloc (.cells D 121)) := rfl
      rw [Array.getD_eq_getD_getElem?] at e8
      unfold Oper.wp
      simp [execOp, Act.eval, e8, hbx, Result.andThen]
      exact ⟨_, rfl, ⟨_, _, _, rfl, hkb, hM, cx_new q hl hk⟩, (Below.refl _ _).alloc (Nat.le_refl _) _, g1.alloc g1.size _⟩
    · rintro a' w' g1 hV
      have v9 : Ctx w.heap.size n (a'.tmps.getD 9 undef) w' := hV 9 (by simp [tmpsOf, Op.operands])
      rw [Array.getD_eq_getD_getElem?] at v9
      unfold Oper.wp
      simp [execOp, Act.eval, go_sem]
      exact ⟨_, rfl, v9, Below.refl _ _, g1⟩
  · rintro a' w' g1 hdf hsz hkeep hV
    have h2 : Ctx w.heap.size n (a'.tmps.getD 2 undef) w' := hV 7 2 rfl
    apply hK
    apply wp_ret
    refine bodyPost_ret (v := a'.tmps.getD 2 undef) ?_ hdf ?_
    · simp [results, Tryd.results10]
    · exact ⟨⟨_, rfl, h2⟩, g1⟩
end Go.Proofs.YtfljkbfacncdgaaDoor.EnN
