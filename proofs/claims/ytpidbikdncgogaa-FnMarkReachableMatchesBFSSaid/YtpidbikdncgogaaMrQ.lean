/- FnMarkReachableMatchesBFS: the model's queue. -/
import Derived.Test.YtpidbikdncgogaaRows
import Derived.Test.YtpidbikdncgogaaMem
import Derived.Test.YtpidbikdncgogaaSl
import Derived.Test.YtpidbikdncgogaaMrP
import Derived.Test.YtpidbikdncgogaaMrI
import Derived.Test.YtpidbikdncgogaaMrC
import Derived.Test.YtpidbikdncgogaaMrG
import Derived.Test.YtpidbikdncgogaaMrX
import Derived.Test.YtpidbikdncgogaaOwn
import Derived.Test.YtpidbikdncgogaaOwg
import Derived.Carry
import Derived.Deep.DeepCutAuto
import Derived.WalkKit
import Derived.ProofKit
import Derived.OpenShut
import Derived.Below
import Derived.WalkLawsBesides
import Derived.Lib.Hide
import Derived.Outline
import Derived.RegionTactic
import Derived.Deep.QuietTactic
import Derived.BigQuiet
import Derived.WalkSpells
import Derived.Deep.OwnRows
import Derived.IntWalk
import Derived.Deep.DeepMust
namespace Go.Proofs.Ytpidbikdncgogaa.MrQ
open Go.RowKit Mem Sl
set_option linter.unusedVariables false
open Args Fvs Fxs Argn Tab MrI MrC MrG MrX Own Owg
open MrP (INF Gr Path Sound Rel Bfs)

theorem cell_new {w : World} {t : TypeId} {v : Value} : (w.alloc (.cells #[v] t)).cell? ⟨w.heap.size, 0, none⟩ = some v := (Row.newArr w t #[v]).at_ (i := 0) rfl
theorem one_cell {w : World} {t : TypeId} {x : Int} {i : Nat} (hi : i < 1) : (w.alloc (.cells #[.int .u32 x] t)).cell? ⟨w.heap.size, 0 + i, none⟩ = some (.int .u32 ([x].getD i 0)) := by
  obtain rfl : i = 0 := by omega
  exact cell_new
def il (q : List Nat) : List Int := q.map (fun x : Nat => (x : Int))
theorem il_length (q : List Nat) : (il q).length = q.length := by simp [il]
/-- The model's distances and its queue. -/
structure Qw (w : World) (Q1 n : Nat) (D : Nat → Nat) (A : Option Addr) (c : Nat) (q : List Nat) : Prop where
  dist : Fv w Q1 n (fun i => .int .u32 (D i : Int))
  own : Own w (Q1 + 1) 23 .u32 (.slice A q.length c) (il q)
theorem Qw.later {w w' : World} {Q1 n c : Nat} {D : Nat → Nat} {A : Option Addr} {q : List Nat} (h : Qw w Q1 n D A c q) (hb : Below w.heap.size w w') : Qw w' Q1 n D A c q := ⟨h.dist.below hb h.dist.lt, h.own.later hb (Nat.le_refl _)⟩
theorem il_push {w : World} {B : Nat} {v : Value} {q : List Nat} {x : Nat} (h : Own w B 23 .u32 v (il q ++ [(x : Int)])) : ∃ A c, v = .slice A (q ++ [x]).length c ∧ Own w B 23 .u32 (.slice A (q ++ [x]).length c) (il (q ++ [x])) := by
  obtain ⟨A, c, hv⟩ := h.form
  have e : il q ++ [(x : Int)] = il (q ++ [x]) := by simp [il]
  rw [e] at h hv
  rw [il_length] at hv
  subst hv
  exact ⟨A, c, rfl, h⟩
def ob (A : Option Addr) : Option Nat := A.map (·.block)
theorem ob_own (A : Option Addr) (n c : Nat) : Value.ownBlock (.slice A n c) = ob A := by cases A <;> rfl
/-- x is offered at distance dd. -/
def Of (n Q1 : Nat) (d : Dat) (D : Nat → Nat) (A0 : Option Addr) (q : List Nat) (x dd : Nat) (w : World) (e : Ending) (w' : World) : Prop :=
  ∃ A c D' q', e = .returned (.slice A q'.length c) ∧ Qw w' Q1 n D' A c q' ∧ Fx (fun j => j = Q1 ∨ some j = ob A0) w w' ∧ (ob A = ob A0 ∨ ∃ g, ob A = some g ∧ w.heap.size ≤ g) ∧ ((D' = D ∧ q' = q ∧ (d.lv x = false ∨ D x ≠ INF)) ∨ (D' = MrP.up D x dd ∧ q' = q ++ [x] ∧ d.lv x = true ∧ D x = INF))
theorem info23 : (Try.prog.info? 23).map (fun i => (i.zero, i.size, i.bytes)) = some (some (.int .u32 0), 1, 4) := by kernel_rfl
set_option maxRecDepth 100000 in
set_option maxHeartbeats 4000000 in
theorem reach17 (n Q1 : Nat) (d : Dat) (D : Nat → Nat) (q : List Nat) (x dd : Nat) (FA : Option Addr) (fc : Nat) (h : Hdr) (A : Option Addr) (c : Nat) (w : World) (hf : Fs w FA n d h) (hx : x < n) (hq : Qw w Q1 n D A c q) (hn : n ≤ 256) (hql : q.length ≤ 256) :
    Calls Try.prog 17 #[.slice FA n fc, .slice (some ⟨Q1, 0, none⟩) n n, .slice A q.length c, .int .u32 (x : Int), .int .u32 (dd : Int)] w (Of n Q1 d D A q x dd w) := by
  obtain ⟨b, o, rfl, hb, _, _, e2, _⟩ := hf.file x hx
  have e3 := hq.dist.cell x hx
  have z3 := hq.dist.frozen x
  obtain ⟨y, hy⟩ : ∃ y, y = D x := ⟨_, rfl⟩
  rw [← hy] at e3
  obtain ⟨lv, hlv⟩ : ∃ y, y = d.lv x := ⟨_, rfl⟩
  rw [← hlv] at e2
  have hxn : (x : Int) < (n : Int) := by omega
  have HQ := Lib.hid hq
  have HY := Lib.hid hy
  have HL := Lib.hid hlv
  have BR := Lib.hid (Fx.refl (fun j => j = Q1 ∨ some j = ob A) w)
  obtain ⟨m, hm⟩ : ∃ m, m = q.length := ⟨_, rfl⟩
  rw [← hm]
  have HM := Lib.hid hm
  clear hf hq hy hlv hb hm
  cases lv
  · go_enter Try.func17, Try.ntmps17
    go_wp2
    go_ret
    exact ⟨A, c, D, q, by rw [HM.out]; rfl, HQ.out, BR.out, .inl rfl, .inl ⟨rfl, rfl, .inl HL.out.symm⟩⟩
  · by_cases hi : y = INF
    · have t0 : ((y : Int) == 4294967295) = true := by rw [hi]; rfl
      obtain ⟨w1, hw1⟩ : ∃ w1, w1 = w.setCell ⟨Q1, x, none⟩ (.int .u32 (dd : Int)) := ⟨_, rfl⟩
      have HI := Lib.hid hi
      have F1 := Lib.hid (show Fv w1 Q1 n (fun i => .int .u32 ((MrP.up D x dd i : Nat) : Int)) from by
        rw [hw1]
        refine (HQ.out.dist.set hx (.int .u32 (dd : Int))).congr (fun i _ => ?_)
        unfold Fvs.up MrP.up
        split <;> rfl)
      have B1 := Lib.hid (show Fx (fun j => j = Q1 ∨ some j = ob A) w w1 from by rw [hw1]; exact BR.out.setCell (p := ⟨Q1, x, none⟩) (.inl rfl) _)
      have O1 := Lib.hid (show Own w1 (Q1 + 1) 23 .u32 (.slice A m c) (il q) from by
        rw [hw1, HM.out]
        have h0 := HQ.out.own
        refine ⟨h0.1, ?_⟩
        rcases h0.2 with h1 | ⟨g, cap, cur, h1, a, hh, b⟩
        · exact .inl h1
        · exact .inr ⟨g, cap, cur, h1, a, (Below.heap_setCell w ⟨Q1, x, none⟩ _ g (by show g ≠ Q1; omega)).trans hh, b⟩)
      have HQL := Lib.hid (show (il q).length + 1 ≤ 1000000000 by rw [il_length]; omega)
      have HSZ := Lib.hid (show Q1 + 1 ≤ (w1.alloc (.cells #[.int .u32 (x : Int)] 23)).heap.size by have := F1.out.lt; simp; omega)
      clear hi
      go_enter Try.func17, Try.ntmps17
      go_upto_region 3 with fail
      rw [← hw1]
      clear hw1 e3 z3 e2
      go_wp2_with (refine wpList_own_g _ rfl _ _ 34 rfl (Q1 + 1) 23 .u32 4 Try.underlying34 info23 (by decide) (.slice A m c) (il q) rfl (Own.alloc O1.out _) w1.heap.size 0 1 1 [(x : Int)] rfl rfl (fun i hi => one_cell hi) HQL.out HSZ.out ?_; intro A' n' c' w5 ho hgr hob; obtain ⟨A2, c2, hv, hq'⟩ := il_push ho; injection hv with hv1 hv2 hv3; subst hv1; subst hv2; subst hv3; have HQ1 := Lib.hid hq'; have HG1 := Lib.hid hgr; have HO1 := Lib.hid hob; clear ho hq' hgr hob)
      go_ret
      have BA := (Below.refl w1.heap.size w1).alloc (Nat.le_refl _) (.cells #[.int .u32 (x : Int)] 23)
      have F2 : Fx (fun j => j = Q1 ∨ some j = ob A) w1 w5 := (Fx.of_below BA).trans ⟨HG1.out.os, HG1.out.tape, HG1.out.output, HG1.out.size, fun j hj hp => HG1.out.block j hj (fun e => hp (.inr (e.trans (ob_own _ _ _))))⟩
      have hge : ∀ g, ob A = some g → Q1 + 1 ≤ g := fun g hg => (O1.out.lt g ((ob_own _ _ _).trans hg)).1
      have hsz := B1.out.size
      refine ⟨A', c', MrP.up D x dd, q ++ [x], by rw [List.length_append]; rfl, ⟨⟨Nat.lt_of_lt_of_le F1.out.lt F2.size, fun i hi => ?_, fun i => ?_⟩, HQ1.out⟩, B1.out.trans F2, ?_, .inr ⟨rfl, rfl, HL.out.symm, by rw [← HY.out]; exact HI.out⟩⟩
      · have hb0 : w5.heap[Q1]? = w1.heap[Q1]? := (HG1.out.block Q1 (by have := F1.out.lt; simp; omega) (fun e => by have := hge Q1 ((ob_own _ _ _).symm.trans e.symm); omega)).trans (BA.block Q1 F1.out.lt)
        exact (World.cell?_of_block (a := ⟨Q1, i, none⟩) hb0).trans (F1.out.cell i hi)
      · have hb0 : w5.heap[Q1]? = w1.heap[Q1]? := (HG1.out.block Q1 (by have := F1.out.lt; simp; omega) (fun e => by have := hge Q1 ((ob_own _ _ _).symm.trans e.symm); omega)).trans (BA.block Q1 F1.out.lt)
        exact (World.frozen?_of_block (a := ⟨Q1, i, none⟩) hb0).trans (F1.out.frozen i)
      · rcases HO1.out with e | e
        · exact .inl ((ob_own _ _ _).symm.trans (e.trans (ob_own _ _ _)))
        · exact .inr ⟨_, (ob_own _ _ _).symm.trans e, by simp; omega⟩
    · have t0 : ((y : Int) == 4294967295) = false := by
        simp
        unfold INF at hi
        omega
      have HI := Lib.hid hi
      clear hi
      go_enter Try.func17, Try.ntmps17
      go_wp2
      go_ret
      exact ⟨A, c, D, q, by rw [HM.out]; rfl, HQ.out, BR.out, .inl rfl, .inl ⟨rfl, rfl, .inr (by rw [← HY.out]; exact HI.out)⟩⟩
theorem own_at {w : World} {B m c : Nat} {A : Option Addr} {q : List Nat} (h : Own w B 23 .u32 (.slice A m c) (il q)) {i u : Nat} (hu : q[i]? = some u) : ∃ g, A = some ⟨g, 0, none⟩ ∧ g < w.heap.size ∧ w.cell? ⟨g, i, none⟩ = some (.int .u32 (u : Int)) := by
  have hi : i < q.length := (List.getElem?_eq_some_iff.1 hu).1
  rcases h.2 with ⟨_, h0⟩ | ⟨g, cap, cur, hv, hb, hh, hn, hcm, hcs, htk⟩
  · rw [il_length] at h0; omega
  · injection hv with h1 h2 h3
    refine ⟨g, h1, (Array.getElem?_eq_some_iff.1 hh).1, ?_⟩
    rw [cell_of_row w g i cur 23 (0, 0) hh]
    have h1 : (cur.toList.take ((il q).length * 1))[i]? = (iv .u32 (il q))[i]? := by rw [htk]
    rw [List.getElem?_take, if_pos (by rw [il_length]; omega)] at h1
    rw [show iv IntKind.u32 (il q) = q.map (fun x : Nat => Value.int .u32 (x : Int)) by simp [iv, il]] at h1
    rw [List.getElem?_map, hu] at h1
    simpa using h1
/-- At file u of the queue. -/
def Bq (n Q1 s hd u du g5 : Nat) (d : Dat) (L : List Value) (w0 : World) (part : Nat → Prop) (v : Value) (wx : World) : Prop :=
  ∃ A c D q, v = .slice A q.length c ∧ Qw wx Q1 n D A c q ∧ Below Q1 w0 wx ∧ Bfs (gr n d) s D q hd part ∧ q[hd]? = some u ∧ D u = du ∧ Row wx g5 68 L ∧ g5 ≠ Q1 ∧ ob A ≠ some g5
section
variable {n Q1 s hd u du g5 : Nat} {d : Dat} {L : List Value} {w0 wx w' : World} {part p' : Nat → Prop} {v : Value}
theorem Bq.weaker (h : Bq n Q1 s hd u du g5 d L w0 part v wx) (hp : ∀ y, p' y → part y) : Bq n Q1 s hd u du g5 d L w0 p' v wx := by
  obtain ⟨A, c, D, q, h1, h2, h3, h4, h5⟩ := h
  exact ⟨A, c, D, q, h1, h2, h3, ⟨h4.snd, h4.inf, h4.nd, h4.mem, h4.ltn, h4.idx, h4.srt, h4.bnd, h4.rel, fun a ha x hx => h4.cur a ha x (hp x hx), h4.seed⟩, h5⟩
theorem bq_step {A : Option Addr} {c x : Nat} {D : Nat → Nat} {q : List Nat} {e : Ending} (hn : n ≤ 256) (h2 : Qw wx Q1 n D A c q) (h3 : Below Q1 w0 wx) (h4 : Bfs (gr n d) s D q hd part) (h5 : q[hd]? = some u) (h6 : D u = du) (h7 : Row wx g5 68 L) (h8 : g5 ≠ Q1) (h9 : ob A ≠ some g5)
    (hx : Adj d u x) (hxn : x < n) (ho : Of n Q1 d D A q x (du + 1) wx e w') (hs0 : Q1 ≤ w0.heap.size) (hp : ∀ y, p' y → part y ∨ y = x) : ∃ v', e = .returned v' ∧ Bq n Q1 s hd u du g5 d L w0 p' v' w' := by
  obtain ⟨A', c', D', q', rfl, k1, k2, k3, k4⟩ := ho
  have hge : ∀ g, ob A = some g → Q1 + 1 ≤ g := fun g hg => (h2.own.lt g ((ob_own _ _ _).trans hg)).1
  have hb : Below Q1 w0 w' := h3.trans (k2.below (Nat.le_trans hs0 h3.size) (fun j hj => by
    rcases hj with rfl | hj
    · exact Nat.le_refl _
    · have := hge j hj.symm; omega))
  have hr : Row w' g5 68 L := (k2.block g5 h7.lt (fun hh => by
    rcases hh with hh | hh
    · exact h8 hh
    · exact h9 hh.symm)).trans h7
  have ho' : ob A' ≠ some g5 := fun e => by
    rcases k3 with k3 | ⟨g, k3, k5⟩
    · exact h9 (k3.symm.trans e)
    · rw [k3] at e; injection e with e; have := h7.lt; omega
  refine ⟨_, rfl, Bq.weaker (part := fun y => part y ∨ y = x) ?_ hp⟩
  rcases k4 with ⟨rfl, rfl, k5⟩ | ⟨rfl, rfl, k5, k6⟩
  · exact ⟨A', c', _, _, rfl, k1, hb, h4.seen (List.getElem?_eq_some_iff.1 h5).1 k5, h5, h6, hr, h8, ho'⟩
  · have hux : u ≠ x := by
      rintro rfl
      exact (h4.mem u).1 (List.mem_of_getElem? h5) k6
    refine ⟨A', c', _, _, rfl, k1, hb, ?_, ?_, ?_, hr, h8, ho'⟩
    · have := h4.push h5 (show n ≤ 65536 by omega) hx k5 k6 hxn
      rw [h6] at this
      exact this
    · rw [List.getElem?_append_left (List.getElem?_eq_some_iff.1 h5).1]; exact h5
    · rw [MrP.up_ne _ _ hux]; exact h6
end
end Go.Proofs.Ytpidbikdncgogaa.MrQ
