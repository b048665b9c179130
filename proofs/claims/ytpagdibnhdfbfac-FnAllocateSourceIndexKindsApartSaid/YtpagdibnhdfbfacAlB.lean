/- allocateSourceIndex. -/
import Derived.Test.YtpagdibnhdfbfacRows
import Derived.Test.YtpagdibnhdfbfacMem
import Derived.Test.YtpagdibnhdfbfacSl
import Derived.Test.YtpagdibnhdfbfacAlA
import Derived.Deep.RegionLaw
import Derived.Deep.RegionHeld3
import Derived.Laws.AppendOwn
import Derived.Laws.MakeOwn
import Derived.OwnWalk
import Derived.Laws.CopyOwn
import Derived.Great.BuildSlice
import Derived.WalkKit
import Derived.ProofKit
import Derived.OpenShut
import Derived.Below
import Derived.WalkLawsBesides
import Derived.Lib.Hide
import Derived.Outline
import Derived.RegionTactic
import Derived.Deep.QuietTactic
import Derived.BigQuiet
import Derived.WalkSpells
import Derived.Deep.OwnRows
import Derived.IntWalk
import Derived.Deep.DeepMust
namespace Go.Proofs.Ytpagdibnhdfbfac.AlB
open Go.RowKit Mem Sl
set_option linter.unusedVariables false
open Locks Go.MapKept AlA

/-- The scanner at p: its caches at q, its results rv. -/
structure Sca (w : World) (p q : Nat) (rv : Value) : Prop where
  row : ∃ ys, Row w p 102 ys ∧ ys.length = 117 ∧ ys[8]? = some (.pointer (some ⟨q, 0, none⟩)) ∧ ys[11]? = some rv

theorem info219 : (Try.prog.info? 219).map (fun i => (i.zero.map (fun z => (z.cells.size == i.size) && z.cells.all Value.oneCell'), decide (i.bytes ≤ 2000), decide (0 < i.size))) = some (some true, true, true) := by kernel_rfl
theorem info219' : ∃ i z, Try.prog.info? 219 = some i ∧ i.zero = some z ∧ i.bytes ≤ 2000 ∧ z.cells.size = i.size ∧ (∀ v ∈ z.cells.toList, v.oneCell' = true) ∧ 0 < i.size := by
  obtain ⟨i, hi, h⟩ := Option.map_eq_some_iff.1 info219
  simp only [Prod.mk.injEq, decide_eq_true_eq] at h
  obtain ⟨h1, h2, h3⟩ := h
  obtain ⟨z, hz, h4⟩ := Option.map_eq_some_iff.1 h1
  simp only [Bool.and_eq_true, beq_iff_eq] at h4
  exact ⟨i, z, hi, hz, h2, h4.1, fun v hv => by simpa using (Array.all_eq_true'.1 h4.2) v (by simpa using hv), h3⟩
/-- The size of a result in cells. -/
noncomputable def SZ : Nat := ((Try.prog.info? 219).map (·.size)).getD 0
/-- rv is nil or lies at the head of a block of results; all of its places bear one cell each. -/
def Res (w : World) (rv : Value) (n c : Nat) : Prop :=
  n ≤ c ∧ c ≤ 20000 ∧ ((rv = .slice none 0 0 ∧ n = 0 ∧ c = 0) ∨ ∃ g cs, rv = .slice (some ⟨g, 0, none⟩) n c ∧ w.heap[g]? = some (.cells cs 219 (0, 0)) ∧ cs.size = c * SZ ∧ ∀ v ∈ cs.toList, v.oneCell' = true)
theorem Res.kept {w w' : World} {rv : Value} {n c : Nat} (h : Res w rv n c) (hk : ∀ (g : Nat) cs, rv.ownBlock = some g → w.heap[g]? = some (.cells cs 219 (0, 0)) → w'.heap[g]? = w.heap[g]?) : Res w' rv n c := by
  obtain ⟨h1, h2, h3 | ⟨g, cs, rfl, hh, h4⟩⟩ := h
  · exact ⟨h1, h2, .inl h3⟩
  · exact ⟨h1, h2, .inr ⟨g, cs, rfl, (hk g cs rfl hh).trans hh, h4⟩⟩
theorem made_one (cs : Array Value) (n : Nat) (h : ∀ v ∈ cs.toList, v.oneCell' = true) (h0 : 0 < cs.size) : ∀ v ∈ (madeCells cs n).toList, v.oneCell' = true := by
  intro v hv
  simp only [madeCells, Array.toList_map, List.mem_map] at hv
  obtain ⟨k, _, rfl⟩ := hv
  have hk : k % cs.size < cs.size := Nat.mod_lt _ h0
  exact h _ (by simp [getElem!_pos, hk])
/-- append(make([]T, 0, c2), rv...) where there is room. -/
theorem grow_res (w : World) (rv : Value) (n c c2 ty : Nat) (h : Res w rv n c) (hc : n ≤ c2) (hc2 : c2 ≤ 20000) :
    ∃ o W, (∀ V : World, (Instr.makeSlice 43 (.int .i64 0) (.int .i64 (c2 : Int))).run Try.prog V = .ok (.slice (some ⟨V.heap.size, 0, none⟩) 0 c2) (V.alloc o)) ∧
      (Builtin.append_ #[43, 43] ty #[.slice (some ⟨w.heap.size, 0, none⟩) 0 c2, rv]).run Try.prog (w.alloc o).drew = .ok (.slice (some ⟨w.heap.size, 0, none⟩) n c2) W ∧
      Res W (.slice (some ⟨w.heap.size, 0, none⟩) n c2) n c2 ∧ Below w.heap.size w W := by
  obtain ⟨i, z, hi, hz, hb, hzs, h1, h0⟩ := info219'
  have hSZ : SZ = i.size := by simp [SZ, hi]
  have hsz : (madeCells z.cells (c2 * i.size)).size = c2 * i.size := by simp [madeCells]
  have hone := made_one z.cells (c2 * i.size) h1 (by omega)
  have hnew : (w.alloc (.cells (madeCells z.cells (c2 * i.size)) 219)).drew.heap[w.heap.size]? = some (.cells (madeCells z.cells (c2 * i.size)) 219 (0, 0)) := heap_alloc_new w _
  have hmk : ∀ V : World, (Instr.makeSlice 43 (.int .i64 0) (.int .i64 (c2 : Int))).run Try.prog V = .ok (.slice (some ⟨V.heap.size, 0, none⟩) 0 c2) (V.alloc (.cells (madeCells z.cells (c2 * i.size)) 219)) := by
    intro V
    have hb' : (i.bytes : Int) * (c2 : Int) ≤ 281474976710656 := by
      have : i.bytes * c2 ≤ 2000 * 20000 := Nat.mul_le_mul hb hc2
      have h2 : ((i.bytes * c2 : Nat) : Int) ≤ 281474976710656 := by omega
      rwa [Int.natCast_mul] at h2
    have hr := run_make (P := Try.prog) V 43 219 i z Try.underlying43 hi hz .i64 .i64 0 c2 (by omega) (by omega) hb' (by omega)
    simpa using hr
  obtain ⟨hnc, hc3, ⟨rfl, rfl, rfl⟩ | ⟨g, cs, rfl, hh, hcs, hc1⟩⟩ := h
  · refine ⟨_, (w.alloc (.cells (madeCells z.cells (c2 * i.size)) 219)).drew, hmk, ?_, ⟨Nat.zero_le _, hc2, .inr ⟨w.heap.size, _, rfl, hnew, by rw [hSZ, hsz], hone⟩⟩, ((Below.refl _ _).alloc (Nat.le_refl _) _).drew⟩
    exact run_append_owned_none (P := Try.prog) _ 0 43 ty 219 i i.size Try.underlying43 hi _ 0 [] ⟨by simp, .inr ⟨w.heap.size, c2, _, rfl, Nat.zero_le _, hnew, Nat.zero_le _, by unfold maxLen; omega, by rw [hsz], by simp⟩⟩
  · have hg : g < w.heap.size := (Array.getElem?_eq_some_iff.1 hh).1
    have hmul : n * i.size ≤ c * i.size := Nat.mul_le_mul_right _ hnc
    have hmul2 : n * i.size ≤ c2 * i.size := Nat.mul_le_mul_right _ hc
    rw [hSZ] at hcs
    have hlen : (cs.toList.take (n * i.size)).length = n * i.size := by simp; omega
    have hgo := run_append_room (P := Try.prog) (w.alloc (.cells (madeCells z.cells (c2 * i.size)) 219)).drew 43 ty 219 i Try.underlying43 hi w.heap.size 0 c2 _ hnew ⟨g, 0, none⟩ n c (cs.toList.take (n * i.size)) hlen
      (fun j u hu => by
        have hj : j < n * i.size := by have := (List.getElem?_eq_some_iff.1 hu).1; omega
        have hadd : (⟨g, 0, none⟩ : Addr).add j = ⟨g, j, none⟩ := by unfold Addr.add; split <;> simp_all
        rw [hadd]
        have hh2 : (w.alloc (.cells (madeCells z.cells (c2 * i.size)) 219)).drew.heap[g]? = some (.cells cs 219 (0, 0)) := (Below.heap_alloc w _ g hg).trans hh
        rw [cell_of_row _ g j cs 219 (0, 0) hh2]
        rw [List.getElem?_take, if_pos hj] at hu
        simpa using hu)
      (fun u hu => hc1 u (List.mem_of_mem_take hu)) (by omega) (by rw [hlen, hsz]; omega)
    rw [Nat.zero_add] at hgo
    refine ⟨_, _, hmk, hgo, ⟨hc, hc2, .inr ⟨w.heap.size, _, rfl, setRow_heap _ w.heap.size _ _ 219 (0, 0) hnew, ?_, ?_⟩⟩, ?_⟩
    · rw [hSZ]
      simp only [Nat.zero_mul, List.take_zero, List.nil_append, Nat.zero_add, List.size_toArray, List.length_append, List.length_drop, Array.length_toList, hsz, hlen]
      omega
    · intro v hv
      simp only [Nat.zero_mul, List.take_zero, List.nil_append, Nat.zero_add, List.mem_append] at hv
      rcases hv with hv | hv
      · exact hc1 v (List.mem_of_mem_take hv)
      · exact hone v (List.mem_of_mem_drop hv)
    · exact below_setRow (((Below.refl _ _).alloc (Nat.le_refl _) _).drew) (Nat.le_refl _) _
theorem step_append_run {P : Program} {ops : Array Oper} {o : Oper} {a : Act} {w : World} {K : Act → World → Prop} {Q : Exit → Act → World → Prop} {E : Prop}
    (hg : o.guard = none) (s x : Operand) (t : TypeId) (hop : o.op = Op.call { callee := Callee.builtin Builtin.append, args := #[s, x], argTypes := #[t, t] })
    (vs vx v : Value) (W : World) (hs : a.eval s = vs) (hx : a.eval x = vx) (hrun : (Builtin.append_ #[t, t] o.type #[vs, vx]).run P w = .ok v W) (hK : K (a.put o.dst v) W) :
    if Region.wanted o (yielded ops a.tmps) = true then Oper.wp P o a w K Q else E := by
  have hw : Region.wanted o (yielded ops a.tmps) = true := by simp [Region.wanted, hg]
  rw [if_pos hw]
  unfold Oper.wp
  simp [execOp, hop, resolve, invoke, builtin, hs, hx, hrun, Result.andThen]
  exact hK
/-- What allocateSourceIndex leaves. -/
def Al (w : World) (p q g nx nr : Nat) (t : ByteArray) (al : List (Bool × Nat)) (b : Bool) (e : Ending) (w' : World) : Prop :=
  ∃ (r : Nat) (rv : Value) (nr' cr : Nat), e = .returned (.int .u32 (r : Int)) ∧ nr' = max nr (r + 1) ∧ Idx q g nx t al b r w' ∧ Sca w' p q rv ∧ Res w' rv nr' cr ∧ Fr p q g w w'
theorem _root_.Go.Proofs.Ytpagdibnhdfbfac.AlA.Cac.kept {w w' : World} {q g nx : Nat} {t : ByteArray} {al : List (Bool × Nat)} (h : Cac w q g nx t al) (hq : w'.heap[q]? = w.heap[q]?) (hg : w'.heap[g]? = w.heap[g]?) : Cac w' q g nx t al := by
  obtain ⟨⟨xs, h1, h2⟩, h3⟩ := h
  exact ⟨⟨xs, hq.trans h1, h2⟩, h3.kept hg⟩
theorem _root_.Go.Proofs.Ytpagdibnhdfbfac.AlA.Cac.lt {w : World} {q g nx : Nat} {t : ByteArray} {al : List (Bool × Nat)} (h : Cac w q g nx t al) : q < w.heap.size ∧ g < w.heap.size := by
  obtain ⟨⟨xs, h1, h2⟩, ⟨es, c, h3, h4⟩⟩ := h
  exact ⟨h1.lt, (Array.getElem?_eq_some_iff.1 h3).1⟩
theorem _root_.Go.Proofs.Ytpagdibnhdfbfac.AlA.Idx.kept {w1 w2 : World} {q g nx r : Nat} {t : ByteArray} {al : List (Bool × Nat)} {b : Bool} (h : Idx q g nx t al b r w1) (hq : w2.heap[q]? = w1.heap[q]?) (hg : w2.heap[g]? = w1.heap[g]?) : Idx q g nx t al b r w2 := by
  rcases h with ⟨h1, h2⟩ | ⟨h1, h2, h3⟩
  · exact .inl ⟨h1, h2.kept hq hg⟩
  · exact .inr ⟨h1, h2, h3.kept hq hg⟩
theorem _root_.Go.Proofs.Ytpagdibnhdfbfac.AlA.Idx.q_lt {w1 : World} {q g nx r : Nat} {t : ByteArray} {al : List (Bool × Nat)} {b : Bool} (h : Idx q g nx t al b r w1) : q < w1.heap.size ∧ g < w1.heap.size := by
  rcases h with ⟨h1, h2⟩ | ⟨h1, h2, h3⟩
  · exact h2.lt
  · exact h3.lt
theorem fr_pq {p q g : Nat} {w w' : World} (h : Fr q q g w w') : Fr p q g w w' := ⟨h.os, h.tape, h.output, h.size, fun i hi _ h2 h3 => h.block i hi h2 h2 h3⟩
set_option maxHeartbeats 4000000 in
set_option maxRecDepth 100000 in
theorem al10 (w : World) (p q g nx nr cr : Nat) (rv : Value) (t : ByteArray) (al : List (Bool × Nat)) (b : Bool) (hS : Sca w p q rv) (hC : Cac w q g nx t al) (hR : Res w rv nr cr) (hnx : nx ≤ 5000) (hval : ∀ r, AlA.look al b = some r → r < nx) :
    Calls Try.prog 10 #[.pointer (some ⟨p, 0, none⟩), .agg (pth t), .int .u8 (kd b)] w (Al w p q g nx nr t al b) := by
  obtain ⟨ys, hr, hyl, h8, h11⟩ := hS.row
  have hpq : p ≠ q := by
    obtain ⟨⟨xs, h1, _⟩, _⟩ := hC
    exact hr.ne_ h1 (by decide)
  have hpg : p ≠ g := by
    rintro rfl
    obtain ⟨_, ⟨es, c, h1, _⟩⟩ := hC
    unfold Row at hr
    rw [h1] at hr
    cases hr
  have hp0 := hr.lt
  obtain ⟨hq0, hg0⟩ := hC.lt
  obtain ⟨W, hW, hPW, hBW, hszW⟩ := made_box w 108 (pth t)
  have hrW := hr.below hBW hp0
  have hCW : Cac W q g nx t al := hC.kept (hBW.block q hq0) (hBW.block g hg0)
  have c8 := hrW.at_ h8
  have k0 := hPW.at_ (i := 0) rfl
  have k1 := hPW.at_ (i := 1) rfl
  have k2 := hPW.at_ (i := 2) rfl
  have k3 := hPW.at_ (i := 3) rfl
  have k4 := hPW.at_ (i := 4) rfl
  have K11 := Lib.hid (fun (V : World) (hV : Cac V q g nx t al) => get11 V q g nx t al b hV hnx)
  have hRW : Res W rv nr cr := hR.kept (fun g' cs hv hh => hBW.block g' (Array.getElem?_eq_some_iff.1 hh).1)
  have HVAL := Lib.hid hval
  have HW := Lib.hid hW
  have HBW := Lib.hid hBW
  have HR := Lib.hid hrW
  have HY := Lib.hid (And.intro hyl (And.intro h8 h11))
  have HRS := Lib.hid hRW
  have HPQ := Lib.hid hpq
  have HPG := Lib.hid hpg
  have HCC := Lib.hid hCW
  have HC0 := Lib.hid (And.intro hq0 hg0)
  have hpW : p < W.heap.size := hrW.lt
  generalize kd b = kb at *
  clear hr hyl h8 h11 hR hS hC hval hpq hpg hW hBW hrW hCW hRW hPW hszW hq0 hg0
  unfold pth at *
  go_enter Try.func10, Try.ntmps10
  go_wp2_with fail
  rw [HW.out]
  go_region_with (go_at_call 11; refine (K11.out W.drew (HCC.out.kept rfl rfl)).mono ?_; rintro e w1 ⟨r, rfl, hidx, htwo⟩; have HID := Lib.hid hidx; have HT0 := Lib.hid htwo; clear hidx htwo)
  all_goals
    have hidx := HID.out
    have htwo := HT0.out
    have hrn : r ≤ nx := by
      rcases hidx with ⟨h, _⟩ | ⟨_, h, _⟩
      · have := HVAL.out r h
        omega
      · omega
    have hr1 : Row w1 p 102 ys := (htwo.block p hpW HPQ.out HPQ.out HPG.out).trans HR.out
    have hRS : Res w1 rv nr cr := HRS.out.kept (fun g' cs hv hh => by
      have e1 : g' ≠ q := by
        rintro rfl
        obtain ⟨⟨xs, h1, _⟩, _⟩ := HCC.out
        unfold Row at h1
        rw [hh] at h1
        cases h1
      have e2 : g' ≠ g := by
        rintro rfl
        obtain ⟨_, ⟨es, c, h1, _⟩⟩ := HCC.out
        rw [hh] at h1
        cases h1
      exact htwo.block g' (Array.getElem?_eq_some_iff.1 hh).1 e1 e1 e2)
    have c11 := hr1.at_ HY.out.2.2
    have f11 := hr1.frozen 11
    have hq := hidx.q_lt
    obtain ⟨hnc, hc2, -⟩ := id hRS
    have hform : ∃ A, rv = .slice A nr cr := by
      obtain ⟨_, _, ⟨h1, h2, h3⟩ | ⟨g', cs, h1, _⟩⟩ := id hRS
      · exact ⟨none, by rw [h1, h2, h3]⟩
      · exact ⟨_, h1⟩
    obtain ⟨A, rfl⟩ := hform
    have HTW := Lib.hid ((Fr.of_below (p := p) (q := q) (g := g) HBW.out.drew).trans (fr_pq htwo))
    have HR1 := Lib.hid hr1
    have HRS1 := Lib.hid hRS
    have HQ := Lib.hid hq
    have hp1 := hr1.lt
    clear hidx htwo hr1 hRS hq HRS HCC K11 HVAL c8 k0 k1 k2 k3 k4 HT0
    by_cases h1 : r + 1 ≤ nr
    · have t1 : decide ((nr : Int) < (r : Int) + 1) = false := by simp; omega
      go_wp2_with fail
      go_ret
      exact ⟨r, _, nr, cr, rfl, by omega, HID.out, ⟨⟨ys, HR1.out, HY.out⟩⟩, HRS1.out, HTW.out⟩
    · have t1 : decide ((nr : Int) < (r : Int) + 1) = true := by simp; omega
      by_cases h2 : r + 1 ≤ cr
      · have t2 : decide ((cr : Int) < (r : Int) + 1) = false := by simp; omega
        obtain ⟨g', cs, hA, hh, hcs, hc1⟩ : ∃ g' cs, A = some ⟨g', 0, none⟩ ∧ w1.heap[g']? = some (.cells cs 219 (0, 0)) ∧ cs.size = cr * SZ ∧ ∀ v ∈ cs.toList, v.oneCell' = true := by
          obtain ⟨_, _, ⟨h1, h2, h3⟩ | ⟨g', cs, h1, h⟩⟩ := HRS1.out
          · omega
          · injection h1 with h1; exact ⟨g', cs, h1, h⟩
        subst hA
        have HH := Lib.hid (And.intro hh (And.intro hcs hc1))
        clear hh hcs hc1
        go_wp2_with fail
        go_ret
        have hgp : g' ≠ p := by
          rintro rfl
          have h3 := HH.out.1
          have h4 := HR1.out
          unfold Row at h4
          rw [h3] at h4
          cases h4
        refine ⟨r, .slice (some ⟨g', 0, none⟩) (r + 1) cr, r + 1, cr, rfl, by omega, ?_, ⟨⟨_, HR1.out.set 11 _, ?_⟩⟩, ⟨h2, hc2, .inr ⟨g', cs, rfl, ?_, HH.out.2⟩⟩, HTW.out.set 11 _⟩
        · exact HID.out.kept (Below.heap_setCell _ _ _ _ (Ne.symm HPQ.out)) (Below.heap_setCell _ _ _ _ (Ne.symm HPG.out))
        · obtain ⟨y1, y2, y3⟩ := HY.out
          exact ⟨by simp [y1], by simpa using y2, by simp [y1]⟩
        · exact (Below.heap_setCell _ _ _ _ hgp).trans HH.out.1
      · have t2 : decide ((cr : Int) < (r : Int) + 1) = true := by simp; omega
        obtain ⟨o, W, hmk, hap, hres, hbel⟩ := grow_res w1 (.slice A nr cr) nr cr (2 * (r + 1)) 43 HRS1.out (by omega) (by omega)
        have hmk' : ∀ V : World, (Instr.makeSlice 43 (.int .i64 0) (.int .i64 (2 * ((r : Int) + 1)))).run Try.prog V = .ok (.slice (some ⟨V.heap.size, 0, none⟩) 0 (2 * (r + 1))) (V.alloc o) := by
          intro V
          have := hmk V
          rwa [show ((2 * (r + 1) : Nat) : Int) = 2 * ((r : Int) + 1) by omega] at this
        have hr2 := HR1.out.below hbel hp1
        have d11 := hr2.at_ HY.out.2.2
        have g11 := hr2.frozen 11
        have e11 : ∀ u, (W.setCell ⟨p, 11, none⟩ u).cell? ⟨p, 11, none⟩ = some u := fun u => (hr2.set 11 u).at_ (by have := HY.out.1; simp [this])
        have k11 : ∀ u, (W.setCell ⟨p, 11, none⟩ u).frozen? ⟨p, 11, none⟩ = false := fun u => (hr2.set 11 u).frozen 11
        have HR2 := Lib.hid hr2
        have HAP := Lib.hid hap
        have HRES := Lib.hid hres
        have HBEL := Lib.hid hbel
        clear hmk hap hres hbel hr2
        have hwr : IntKind.i64.wrap (2 * ((r : Int) + 1)) = 2 * ((r : Int) + 1) := IntWalk.i64_in _ (by omega)
        go_wp2_with fail
        go_region_law (first | (refine step_append_run rfl _ _ 43 rfl _ _ _ W rfl rfl HAP.out ?_))
        all_goals
          clear hwr hmk' d11 g11
          go_wp2_with fail
          go_ret
          have hpw : w1.heap.size ≠ p := by omega
          obtain ⟨cs, hh⟩ : ∃ cs, W.heap[w1.heap.size]? = some (.cells cs 219 (0, 0)) ∧ cs.size = 2 * (r + 1) * SZ ∧ ∀ v ∈ cs.toList, v.oneCell' = true := by
            obtain ⟨_, _, ⟨h1, _⟩ | ⟨g', cs, h1, h⟩⟩ := HRES.out
            · cases h1
            · injection h1 with h1
              injection h1 with h1
              injection h1 with h1
              subst h1
              exact ⟨cs, h⟩
          have hq1 := HQ.out.1
          have hq2 := HQ.out.2
          refine ⟨r, .slice (some ⟨w1.heap.size, 0, none⟩) (r + 1) (2 * (r + 1)), r + 1, 2 * (r + 1), rfl, by omega, ?_, ⟨⟨_, (HR2.out.set 11 _).set 11 _, ?_⟩⟩, ⟨by omega, by omega, .inr ⟨w1.heap.size, cs, rfl, ?_, hh.2⟩⟩, ((HTW.out.trans (.of_below HBEL.out)).set 11 _).set 11 _⟩
          · refine HID.out.kept ?_ ?_
            · exact ((Below.heap_setCell _ _ _ _ (Ne.symm HPQ.out)).trans (Below.heap_setCell _ _ _ _ (Ne.symm HPQ.out))).trans (HBEL.out.block q hq1)
            · exact ((Below.heap_setCell _ _ _ _ (Ne.symm HPG.out)).trans (Below.heap_setCell _ _ _ _ (Ne.symm HPG.out))).trans (HBEL.out.block g hq2)
          · obtain ⟨y1, y2, y3⟩ := HY.out
            exact ⟨by simp [y1], by simpa using y2, by simp [y1]⟩
          · exact ((Below.heap_setCell _ _ _ _ hpw).trans (Below.heap_setCell _ _ _ _ hpw)).trans hh.1
end Go.Proofs.Ytpagdibnhdfbfac.AlB
