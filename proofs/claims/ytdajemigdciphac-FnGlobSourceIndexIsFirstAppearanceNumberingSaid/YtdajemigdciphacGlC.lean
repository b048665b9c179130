/- allocateGlobSourceIndex. -/
import Derived.Test.YtdajemigdciphacRows
import Derived.Test.YtdajemigdciphacMem
import Derived.Test.YtdajemigdciphacSl
import Derived.Test.YtdajemigdciphacGlB
import Derived.Deep.RegionLaw
import Derived.Laws.AppendOwn
import Derived.Laws.MakeOwn
import Derived.OwnWalk
import Derived.Laws.CopyOwn
import Derived.WalkKit
import Derived.ProofKit
import Derived.OpenShut
import Derived.Below
import Derived.WalkLawsBesides
import Derived.Lib.Hide
import Derived.Outline
import Derived.RegionTactic
import Derived.Deep.QuietTactic
import Derived.BigQuiet
import Derived.WalkSpells
import Derived.Deep.OwnRows
import Derived.IntWalk
import Derived.Deep.DeepMust
namespace Go.Proofs.Ytdajemigdciphac.GlC
open Go.RowKit Mem Sl
set_option linter.unusedVariables false
open Map Locks Go.MapKept GlA GlB

theorem info218 : (Try.prog.info? 218).map (fun i => (i.zero.map (fun z => (z.cells.size == i.size) && z.cells.all Value.oneCell'), decide (i.bytes ≤ 2000), decide (0 < i.size))) = some (some true, true, true) := by kernel_rfl
theorem info218' : ∃ i z, Try.prog.info? 218 = some i ∧ i.zero = some z ∧ i.bytes ≤ 2000 ∧ z.cells.size = i.size ∧ (∀ v ∈ z.cells.toList, v.oneCell' = true) ∧ 0 < i.size := by
  obtain ⟨i, hi, h⟩ := Option.map_eq_some_iff.1 info218
  simp only [Prod.mk.injEq, decide_eq_true_eq] at h
  obtain ⟨h1, h2, h3⟩ := h
  obtain ⟨z, hz, h4⟩ := Option.map_eq_some_iff.1 h1
  simp only [Bool.and_eq_true, beq_iff_eq] at h4
  exact ⟨i, z, hi, hz, h2, h4.1, fun v hv => by simpa using (Array.all_eq_true'.1 h4.2) v (by simpa using hv), h3⟩
/-- The size of a result in cells. -/
noncomputable def SZ : Nat := ((Try.prog.info? 218).map (·.size)).getD 0
/-- rv is nil or lies at the head of a block of results; all of its places bear one cell each. -/
def Res (w : World) (rv : Value) (n c : Nat) : Prop :=
  n ≤ c ∧ c ≤ 20000 ∧ ((rv = .slice none 0 0 ∧ n = 0 ∧ c = 0) ∨ ∃ g cs, rv = .slice (some ⟨g, 0, none⟩) n c ∧ w.heap[g]? = some (.cells cs 218 (0, 0)) ∧ cs.size = c * SZ ∧ ∀ v ∈ cs.toList, v.oneCell' = true)
/-- Nothing but the blocks p, q and g has turned. -/
structure Fr (p q g : Nat) (w w' : World) : Prop where
  os : w'.os = w.os
  tape : w'.tape = w.tape
  output : w'.output = w.output
  size : w.heap.size ≤ w'.heap.size
  block : ∀ i, i < w.heap.size → i ≠ p → i ≠ q → i ≠ g → w'.heap[i]? = w.heap[i]?
theorem Fr.of_two {p q g : Nat} {w w' : World} (h : Two q g w w') : Fr p q g w w' := ⟨h.os, h.tape, h.output, Nat.le_of_eq h.size.symm, fun i _ _ h1 h2 => h.block i h1 h2⟩
theorem Fr.trans {p q g : Nat} {w w' w2 : World} (h : Fr p q g w w') (k : Fr p q g w' w2) : Fr p q g w w2 :=
  ⟨k.os.trans h.os, k.tape.trans h.tape, k.output.trans h.output, Nat.le_trans h.size k.size, fun i hi h1 h2 h3 => (k.block i (Nat.lt_of_lt_of_le hi h.size) h1 h2 h3).trans (h.block i hi h1 h2 h3)⟩
theorem Fr.of_below {p q g : Nat} {w w' : World} (h : Below w.heap.size w w') : Fr p q g w w' := ⟨h.os, h.tape, h.output, h.size, fun i hi _ _ _ => h.block i hi⟩
theorem Fr.set {p q g : Nat} {w w' : World} (h : Fr p q g w w') (i : Nat) (u : Value) : Fr p q g w (w'.setCell ⟨p, i, none⟩ u) :=
  ⟨h.os, h.tape, h.output, by simpa [World.setCell] using h.size, fun j hj h1 h2 h3 => (Below.heap_setCell w' ⟨p, i, none⟩ u j h1).trans (h.block j hj h1 h2 h3)⟩
theorem Fr.below {p q g B : Nat} {w w' : World} (h : Fr p q g w w') (hp : B ≤ p) (hq : B ≤ q) (hg : B ≤ g) (hB : B ≤ w.heap.size) : Below B w w' :=
  ⟨h.os, h.tape, h.output, h.size, fun i hi => h.block i (by omega) (by omega) (by omega) (by omega)⟩
theorem Res.kept {w w' : World} {rv : Value} {n c : Nat} (h : Res w rv n c) (hk : ∀ (g : Nat) cs, rv.ownBlock = some g → w.heap[g]? = some (.cells cs 218 (0, 0)) → w'.heap[g]? = w.heap[g]?) : Res w' rv n c := by
  obtain ⟨h1, h2, h3 | ⟨g, cs, rfl, hh, h4⟩⟩ := h
  · exact ⟨h1, h2, .inl h3⟩
  · exact ⟨h1, h2, .inr ⟨g, cs, rfl, (hk g cs rfl hh).trans hh, h4⟩⟩
theorem made_one (cs : Array Value) (n : Nat) (h : ∀ v ∈ cs.toList, v.oneCell' = true) (h0 : 0 < cs.size) : ∀ v ∈ (madeCells cs n).toList, v.oneCell' = true := by
  intro v hv
  simp only [madeCells, Array.toList_map, List.mem_map] at hv
  obtain ⟨k, _, rfl⟩ := hv
  have hk : k % cs.size < cs.size := Nat.mod_lt _ h0
  exact h _ (by simp [getElem!_pos, hk])
/-- append(make([]T, 0, c2), rv...) where there is room. -/
theorem grow_res (w : World) (rv : Value) (n c c2 ty : Nat) (h : Res w rv n c) (hc : n ≤ c2) (hc2 : c2 ≤ 20000) :
    ∃ o W, (∀ V : World, (Instr.makeSlice 45 (.int .i64 0) (.int .i64 (c2 : Int))).run Try.prog V = .ok (.slice (some ⟨V.heap.size, 0, none⟩) 0 c2) (V.alloc o)) ∧
      (Builtin.append_ #[45, 45] ty #[.slice (some ⟨w.heap.size, 0, none⟩) 0 c2, rv]).run Try.prog (w.alloc o).drew = .ok (.slice (some ⟨w.heap.size, 0, none⟩) n c2) W ∧
      Res W (.slice (some ⟨w.heap.size, 0, none⟩) n c2) n c2 ∧ Below w.heap.size w W := by
  obtain ⟨i, z, hi, hz, hb, hzs, h1, h0⟩ := info218'
  have hSZ : SZ = i.size := by simp [SZ, hi]
  have hsz : (madeCells z.cells (c2 * i.size)).size = c2 * i.size := by simp [madeCells]
  have hone := made_one z.cells (c2 * i.size) h1 (by omega)
  have hnew : (w.alloc (.cells (madeCells z.cells (c2 * i.size)) 218)).drew.heap[w.heap.size]? = some (.cells (madeCells z.cells (c2 * i.size)) 218 (0, 0)) := heap_alloc_new w _
  have hmk : ∀ V : World, (Instr.makeSlice 45 (.int .i64 0) (.int .i64 (c2 : Int))).run Try.prog V = .ok (.slice (some ⟨V.heap.size, 0, none⟩) 0 c2) (V.alloc (.cells (madeCells z.cells (c2 * i.size)) 218)) := by
    intro V
    have hb' : (i.bytes : Int) * (c2 : Int) ≤ 281474976710656 := by
      have : i.bytes * c2 ≤ 2000 * 20000 := Nat.mul_le_mul hb hc2
      have h2 : ((i.bytes * c2 : Nat) : Int) ≤ 281474976710656 := by omega
      rwa [Int.natCast_mul] at h2
    have hr := run_make (P := Try.prog) V 45 218 i z Try.underlying45 hi hz .i64 .i64 0 c2 (by omega) (by omega) hb' (by omega)
    simpa using hr
  obtain ⟨hnc, hc3, ⟨rfl, rfl, rfl⟩ | ⟨g, cs, rfl, hh, hcs, hc1⟩⟩ := h
  · refine ⟨_, (w.alloc (.cells (madeCells z.cells (c2 * i.size)) 218)).drew, hmk, ?_, ⟨Nat.zero_le _, hc2, .inr ⟨w.heap.size, _, rfl, hnew, by rw [hSZ, hsz], hone⟩⟩, ((Below.refl _ _).alloc (Nat.le_refl _) _).drew⟩
    exact run_append_owned_none (P := Try.prog) _ 0 45 ty 218 i i.size Try.underlying45 hi _ 0 [] ⟨by simp, .inr ⟨w.heap.size, c2, _, rfl, Nat.zero_le _, hnew, Nat.zero_le _, by unfold maxLen; omega, by rw [hsz], by simp⟩⟩
  · have hg : g < w.heap.size := (Array.getElem?_eq_some_iff.1 hh).1
    have hmul : n * i.size ≤ c * i.size := Nat.mul_le_mul_right _ hnc
    have hmul2 : n * i.size ≤ c2 * i.size := Nat.mul_le_mul_right _ hc
    rw [hSZ] at hcs
    have hlen : (cs.toList.take (n * i.size)).length = n * i.size := by simp; omega
    have hgo := run_append_room (P := Try.prog) (w.alloc (.cells (madeCells z.cells (c2 * i.size)) 218)).drew 45 ty 218 i Try.underlying45 hi w.heap.size 0 c2 _ hnew ⟨g, 0, none⟩ n c (cs.toList.take (n * i.size)) hlen
      (fun j u hu => by
        have hj : j < n * i.size := by have := (List.getElem?_eq_some_iff.1 hu).1; omega
        have hadd : (⟨g, 0, none⟩ : Addr).add j = ⟨g, j, none⟩ := by unfold Addr.add; split <;> simp_all
        rw [hadd]
        have hh2 : (w.alloc (.cells (madeCells z.cells (c2 * i.size)) 218)).drew.heap[g]? = some (.cells cs 218 (0, 0)) := (Below.heap_alloc w _ g hg).trans hh
        rw [cell_of_row _ g j cs 218 (0, 0) hh2]
        rw [List.getElem?_take, if_pos hj] at hu
        simpa using hu)
      (fun u hu => hc1 u (List.mem_of_mem_take hu)) (by omega) (by rw [hlen, hsz]; omega)
    rw [Nat.zero_add] at hgo
    refine ⟨_, _, hmk, hgo, ⟨hc, hc2, .inr ⟨w.heap.size, _, rfl, setRow_heap _ w.heap.size _ _ 218 (0, 0) hnew, ?_, ?_⟩⟩, ?_⟩
    · rw [hSZ]
      simp only [Nat.zero_mul, List.take_zero, List.nil_append, Nat.zero_add, List.size_toArray, List.length_append, List.length_drop, Array.length_toList, hsz, hlen]
      omega
    · intro v hv
      simp only [Nat.zero_mul, List.take_zero, List.nil_append, Nat.zero_add, List.mem_append] at hv
      rcases hv with hv | hv
      · exact hc1 v (List.mem_of_mem_take hv)
      · exact hone v (List.mem_of_mem_drop hv)
    · exact below_setRow (((Below.refl _ _).alloc (Nat.le_refl _) _).drew) (Nat.le_refl _) _
theorem step_append_run {P : Program} {ops : Array Oper} {o : Oper} {a : Act} {w : World} {K : Act → World → Prop} {Q : Exit → Act → World → Prop} {E : Prop}
    (hg : o.guard = none) (s x : Operand) (t : TypeId) (hop : o.op = Op.call { callee := Callee.builtin Builtin.append, args := #[s, x], argTypes := #[t, t] })
    (vs vx v : Value) (W : World) (hs : a.eval s = vs) (hx : a.eval x = vx) (hrun : (Builtin.append_ #[t, t] o.type #[vs, vx]).run P w = .ok v W) (hK : K (a.put o.dst v) W) :
    if Region.wanted o (yielded ops a.tmps) = true then Oper.wp P o a w K Q else E := by
  have hw : Region.wanted o (yielded ops a.tmps) = true := by simp [Region.wanted, hg]
  rw [if_pos hw]
  unfold Oper.wp
  simp [execOp, hop, resolve, invoke, builtin, hs, hx, hrun, Result.andThen]
  exact hK
/-- The index that GetGlob hands back. -/
def Idx (w : World) (q g n nx : Nat) (f : Value → Option Value) (k : Value) (r : Nat) (w' : World) : Prop :=
  (f k = some (.int .u32 (r : Int)) ∧ Cac w' q g n nx f) ∨ (f k = none ∧ r = nx ∧ Cac w' q g (n + 1) (nx + 1) (put f k (.int .u32 (nx : Int))))
def Got (w : World) (p q g n nx : Nat) (f : Value → Option Value) (k : Value) (e : Ending) (w' : World) : Prop :=
  ∃ r : Nat, e = .returned (.int .u32 (r : Int)) ∧ r ≤ nx ∧ Idx w q g n nx f k r w' ∧ Two q g w w'
theorem got12 (w : World) (p q g n nx a b : Nat) (f : Value → Option Value) (hC : Cac w q g n nx f) (ha : a < 4294967296) (hb : b < 4294967296) (hnx : nx < 4294967295) (hval : ∀ k v, f k = some v → ∃ r : Nat, v = .int .u32 (r : Int) ∧ r < nx) :
    Calls Try.prog 12 #[.pointer (some ⟨q, 12, none⟩), .int .u32 (a : Int), .int .u32 (b : Int)] w (Got w p q g n nx f (ky a b)) := by
  refine (gg12 w q g n nx a b f hC ha hb hnx (fun k v h => by obtain ⟨r, h1, _⟩ := hval k v h; exact ⟨r, h1⟩)).mono ?_
  rintro e w' ⟨h2, ⟨r, hf, he, hC'⟩ | ⟨hf, he, hC'⟩⟩
  · obtain ⟨r', hr, hlt⟩ := hval _ _ hf
    injection hr with _ hr
    subst hr
    exact ⟨r', he, by omega, .inl ⟨hf, hC'⟩, h2⟩
  · exact ⟨nx, he, Nat.le_refl _, .inr ⟨hf, rfl, hC'⟩, h2⟩
/-- What allocateGlobSourceIndex leaves. -/
def Al (w : World) (p q g n nx : Nat) (f : Value → Option Value) (k : Value) (e : Ending) (w' : World) : Prop :=
  ∃ (r : Nat) (rv : Value) (nr cr : Nat), e = .returned (.int .u32 (r : Int)) ∧ Idx w q g n nx f k r w' ∧ Sca w' p q rv ∧ Res w' rv nr cr ∧ Fr p q g w w'
theorem Idx.kept {w w1 w2 : World} {q g n nx r : Nat} {f : Value → Option Value} {k : Value} (h : Idx w q g n nx f k r w1) (hq : w2.heap[q]? = w1.heap[q]?) (hg : w2.heap[g]? = w1.heap[g]?) : Idx w q g n nx f k r w2 := by
  have hc : ∀ n nx f, Cac w1 q g n nx f → Cac w2 q g n nx f := by
    intro n nx f hC
    obtain ⟨⟨xs, h1, h2⟩, ⟨es, c, h3, h4⟩⟩ := hC
    exact ⟨⟨xs, hq.trans h1, h2⟩, ⟨es, c, hg.trans h3, h4⟩⟩
  rcases h with ⟨h1, h2⟩ | ⟨h1, h2, h3⟩
  · exact .inl ⟨h1, hc _ _ _ h2⟩
  · exact .inr ⟨h1, h2, hc _ _ _ h3⟩
theorem Idx.q_lt {w w1 : World} {q g n nx r : Nat} {f : Value → Option Value} {k : Value} (h : Idx w q g n nx f k r w1) : q < w1.heap.size ∧ g < w1.heap.size := by
  have hc : ∀ n nx f, Cac w1 q g n nx f → q < w1.heap.size ∧ g < w1.heap.size := by
    intro n nx f hC
    obtain ⟨⟨xs, h1, h2⟩, ⟨es, c, h3, h4⟩⟩ := hC
    exact ⟨h1.lt, (Array.getElem?_eq_some_iff.1 h3).1⟩
  rcases h with ⟨h1, h2⟩ | ⟨h1, h2, h3⟩
  · exact hc _ _ _ h2
  · exact hc _ _ _ h3
set_option maxHeartbeats 4000000 in
set_option maxRecDepth 100000 in
theorem al11 (w : World) (p q g n nx a b nr cr : Nat) (rv : Value) (f : Value → Option Value) (hS : Sca w p q rv) (hC : Cac w q g n nx f) (hR : Res w rv nr cr) (ha : a < 4294967296) (hb : b < 4294967296) (hnx : nx ≤ 5000) (hval : ∀ k v, f k = some v → ∃ r : Nat, v = .int .u32 (r : Int) ∧ r < nx) :
    Calls Try.prog 11 #[.pointer (some ⟨p, 0, none⟩), .int .u32 (a : Int), .int .u32 (b : Int)] w (Al w p q g n nx f (ky a b)) := by
  obtain ⟨ys, hr, hyl, h8, h11⟩ := hS.row
  have hpq : p ≠ q := by
    obtain ⟨⟨xs, h1, _⟩, _⟩ := hC
    exact hr.ne_ h1 (by decide)
  have hpg : p ≠ g := by
    rintro rfl
    obtain ⟨_, ⟨es, c, h1, _⟩⟩ := hC
    unfold Row at hr
    rw [h1] at hr
    cases hr
  have c8 := hr.at_ h8
  have K12 := Lib.hid (got12 w p q g n nx a b f hC ha hb (by omega) hval)
  have HR := Lib.hid hr
  have HY := Lib.hid (And.intro hyl (And.intro h8 h11))
  have HRS := Lib.hid hR
  have HPQ := Lib.hid hpq
  have HPG := Lib.hid hpg
  have HCC := Lib.hid hC
  clear hr hyl h8 h11 hR hS hC hval hpq hpg
  go_enter Try.func11, Try.ntmps11
  go_wp2_with fail
  refine K12.out.mono ?_
  rintro e w1 ⟨r, rfl, hrn, hidx, htwo⟩
  have hr1 : Row w1 p 105 ys := (htwo.block p HPQ.out HPG.out).trans HR.out
  have hRS : Res w1 rv nr cr := HRS.out.kept (fun g' cs hv hh => htwo.block g' (by
      rintro rfl
      obtain ⟨⟨xs, h1, _⟩, _⟩ := HCC.out
      unfold Row at h1
      rw [hh] at h1
      cases h1) (by
      rintro rfl
      obtain ⟨_, ⟨es, c, h1, _⟩⟩ := HCC.out
      rw [hh] at h1
      cases h1))
  have c11 := hr1.at_ HY.out.2.2
  have f11 := hr1.frozen 11
  have hq := hidx.q_lt
  obtain ⟨hnc, hc2, -⟩ := id hRS
  have hform : ∃ A, rv = .slice A nr cr := by
    obtain ⟨_, _, ⟨h1, h2, h3⟩ | ⟨g', cs, h1, _⟩⟩ := id hRS
    · exact ⟨none, by rw [h1, h2, h3]⟩
    · exact ⟨_, h1⟩
  obtain ⟨A, rfl⟩ := hform
  have HID := Lib.hid hidx
  have HTW := Lib.hid htwo
  have HR1 := Lib.hid hr1
  have HRS1 := Lib.hid hRS
  have HQ := Lib.hid hq
  have hp1 := hr1.lt
  clear hidx htwo hr1 hRS hq HRS K12 HCC
  by_cases h1 : r + 1 ≤ nr
  · have t1 : decide ((nr : Int) < (r : Int) + 1) = false := by simp; omega
    go_wp2_with fail
    go_ret
    exact ⟨r, _, nr, cr, rfl, HID.out, ⟨⟨ys, HR1.out, HY.out⟩⟩, HRS1.out, .of_two HTW.out⟩
  · have t1 : decide ((nr : Int) < (r : Int) + 1) = true := by simp; omega
    by_cases h2 : r + 1 ≤ cr
    · have t2 : decide ((cr : Int) < (r : Int) + 1) = false := by simp; omega
      obtain ⟨g', cs, hA, hh, hcs, hc1⟩ : ∃ g' cs, A = some ⟨g', 0, none⟩ ∧ w1.heap[g']? = some (.cells cs 218 (0, 0)) ∧ cs.size = cr * SZ ∧ ∀ v ∈ cs.toList, v.oneCell' = true := by
        obtain ⟨_, _, ⟨h1, h2, h3⟩ | ⟨g', cs, h1, h⟩⟩ := HRS1.out
        · omega
        · injection h1 with h1; exact ⟨g', cs, h1, h⟩
      subst hA
      have HH := Lib.hid (And.intro hh (And.intro hcs hc1))
      clear hh hcs hc1
      go_wp2_with fail
      go_ret
      have hgp : g' ≠ p := by
        rintro rfl
        have h3 := HH.out.1
        have h4 := HR1.out
        unfold Row at h4
        rw [h3] at h4
        cases h4
      refine ⟨r, .slice (some ⟨g', 0, none⟩) (r + 1) cr, r + 1, cr, rfl, ?_, ⟨⟨_, HR1.out.set 11 _, ?_⟩⟩, ⟨h2, hc2, .inr ⟨g', cs, rfl, ?_, HH.out.2⟩⟩, (Fr.of_two HTW.out).set 11 _⟩
      · exact HID.out.kept (Below.heap_setCell _ _ _ _ (Ne.symm HPQ.out)) (Below.heap_setCell _ _ _ _ (Ne.symm HPG.out))
      · obtain ⟨y1, y2, y3⟩ := HY.out
        exact ⟨by simp [y1], by simpa using y2, by simp [y1]⟩
      · exact (Below.heap_setCell _ _ _ _ hgp).trans HH.out.1
    · have t2 : decide ((cr : Int) < (r : Int) + 1) = true := by simp; omega
      obtain ⟨o, W, hmk, hap, hres, hbel⟩ := grow_res w1 (.slice A nr cr) nr cr (2 * (r + 1)) 45 HRS1.out (by omega) (by omega)
      have hmk' : ∀ V : World, (Instr.makeSlice 45 (.int .i64 0) (.int .i64 (2 * ((r : Int) + 1)))).run Try.prog V = .ok (.slice (some ⟨V.heap.size, 0, none⟩) 0 (2 * (r + 1))) (V.alloc o) := by
        intro V
        have := hmk V
        rwa [show ((2 * (r + 1) : Nat) : Int) = 2 * ((r : Int) + 1) by omega] at this
      have hr2 := HR1.out.below hbel hp1
      have d11 := hr2.at_ HY.out.2.2
      have g11 := hr2.frozen 11
      have e11 : ∀ u, (W.setCell ⟨p, 11, none⟩ u).cell? ⟨p, 11, none⟩ = some u := fun u => (hr2.set 11 u).at_ (by have := HY.out.1; simp [this])
      have k11 : ∀ u, (W.setCell ⟨p, 11, none⟩ u).frozen? ⟨p, 11, none⟩ = false := fun u => (hr2.set 11 u).frozen 11
      have HR2 := Lib.hid hr2
      have HAP := Lib.hid hap
      have HRES := Lib.hid hres
      have HBEL := Lib.hid hbel
      clear hmk hap hres hbel hr2
      have hwr : IntKind.i64.wrap (2 * ((r : Int) + 1)) = 2 * ((r : Int) + 1) := IntWalk.i64_in _ (by omega)
      go_wp2_with fail
      go_region_law (first | (refine step_append_run rfl _ _ 45 rfl _ _ _ W rfl rfl HAP.out ?_))
      all_goals
        clear hwr hmk' d11 g11
        go_wp2_with fail
        go_ret
        have hpw : w1.heap.size ≠ p := by omega
        obtain ⟨cs, hh⟩ : ∃ cs, W.heap[w1.heap.size]? = some (.cells cs 218 (0, 0)) ∧ cs.size = 2 * (r + 1) * SZ ∧ ∀ v ∈ cs.toList, v.oneCell' = true := by
          obtain ⟨_, _, ⟨h1, _⟩ | ⟨g', cs, h1, h⟩⟩ := HRES.out
          · cases h1
          · injection h1 with h1
            injection h1 with h1
            injection h1 with h1
            subst h1
            exact ⟨cs, h⟩
        have hq1 := HQ.out.1
        have hq2 := HQ.out.2
        refine ⟨r, .slice (some ⟨w1.heap.size, 0, none⟩) (r + 1) (2 * (r + 1)), r + 1, 2 * (r + 1), rfl, ?_, ⟨⟨_, (HR2.out.set 11 _).set 11 _, ?_⟩⟩, ⟨by omega, by omega, .inr ⟨w1.heap.size, cs, rfl, ?_, hh.2⟩⟩, (((Fr.of_two HTW.out).trans (.of_below HBEL.out)).set 11 _).set 11 _⟩
        · refine HID.out.kept ?_ ?_
          · exact ((Below.heap_setCell _ _ _ _ (Ne.symm HPQ.out)).trans (Below.heap_setCell _ _ _ _ (Ne.symm HPQ.out))).trans (HBEL.out.block q hq1)
          · exact ((Below.heap_setCell _ _ _ _ (Ne.symm HPG.out)).trans (Below.heap_setCell _ _ _ _ (Ne.symm HPG.out))).trans (HBEL.out.block g hq2)
        · obtain ⟨y1, y2, y3⟩ := HY.out
          exact ⟨by simp [y1], by simpa using y2, by simp [y1]⟩
        · exact ((Below.heap_setCell _ _ _ _ hpw).trans (Below.heap_setCell _ _ _ _ hpw)).trans hh.1
theorem al8 (w : World) (p a b : Nat) (Q : Ending → World → Prop) (hQ : ∀ e w', Q e w' → ∃ r : Nat, e = .returned (.int .u32 (r : Int))) (h : Calls Try.prog 11 #[.pointer (some ⟨p, 0, none⟩), .int .u32 (a : Int), .int .u32 (b : Int)] w Q) :
    Calls Try.prog 8 #[.pointer (some ⟨p, 0, none⟩), .int .u32 (a : Int), .int .u32 (b : Int)] w Q := by
  have H := Lib.hid h
  have HQ := Lib.hid hQ
  clear h hQ
  go_enter Try.func8, Try.ntmps8
  go_wp2_with fail
  refine H.out.mono ?_
  intro e w' hq
  obtain ⟨v, rfl⟩ := HQ.out e w' hq
  have HQQ := Lib.hid hq
  clear hq
  go_wp2_with fail
  exact HQQ.out
end Go.Proofs.Ytdajemigdciphac.GlC
