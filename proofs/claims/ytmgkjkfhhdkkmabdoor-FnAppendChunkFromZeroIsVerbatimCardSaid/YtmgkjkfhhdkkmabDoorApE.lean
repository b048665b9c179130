/- FnAppendChunkFromZeroIsVerbatim: AddBytes, LastByte. -/
import Derived.Test.YtmgkjkfhhdkkmabDoorRows
import Derived.Test.YtmgkjkfhhdkkmabDoorMem
import Derived.Test.YtmgkjkfhhdkkmabDoorSl
import Derived.Test.YtmgkjkfhhdkkmabDoorApJ
import Derived.Test.YtmgkjkfhhdkkmabDoorApC
import Derived.Deep.RegionLaw
import Derived.Deep.DeepCutAuto
import Derived.WalkKit
import Derived.ProofKit
import Derived.OpenShut
import Derived.Below
import Derived.WalkLawsBesides
import Derived.Lib.Hide
import Derived.Outline
import Derived.RegionTactic
import Derived.Deep.QuietTactic
import Derived.BigQuiet
import Derived.WalkSpells
import Derived.Deep.OwnRows
import Derived.IntWalk
import Derived.Deep.DeepMust
namespace Go.Proofs.YtmgkjkfhhdkkmabDoor.ApE
open Go.RowKit Mem Sl
set_option linter.unusedVariables false
open Own Vq ApA ApJ Args
theorem step_append_run {P : Program} {ops : Array Oper} {o : Oper} {a : Act} {w : World} {K : Act → World → Prop} {Q : Exit → Act → World → Prop} {E : Prop}
    (hg : o.guard = none) (s x : Operand) (t : TypeId) (hop : o.op = Op.call { callee := Callee.builtin Builtin.append, args := #[s, x], argTypes := #[t, t] })
    (vs vx v : Value) (W : World) (hs : a.eval s = vs) (hx : a.eval x = vx) (hrun : (Builtin.append_ #[t, t] o.type #[vs, vx]).run P w = .ok v W) (hK : K (a.put o.dst v) W) :
    if Region.wanted o (yielded ops a.tmps) = true then Oper.wp P o a w K Q else E := by
  have hw : Region.wanted o (yielded ops a.tmps) = true := by simp [Region.wanted, hg]
  rw [if_pos hw]
  unfold Oper.wp
  simp [execOp, hop, resolve, invoke, builtin, hs, hx, hrun, Result.andThen]
  exact hK

theorem info61 : (Tryd.prog.info? 61).map (fun i => (i.zero, i.size, i.bytes)) = some (some (.agg #[.slice none 0 0, .int .u32 0]), 2, 32) := by kernel_rfl
/-- Every block that is no joiner's is as it was. -/
def KeepsJ (w w' : World) : Prop := ∀ (g : Nat) (cur : Array Value) (t : TypeId), t ≠ 35 → t ≠ 61 → w.heap[g]? = some (Obj.cells cur t (0, 0)) → w'.heap[g]? = some (Obj.cells cur t (0, 0))
theorem KeepsJ.trans {w w' w'' : World} (h : KeepsJ w w') (h' : KeepsJ w' w'') : KeepsJ w w'' := fun g cur t a b hg => h' g cur t a b (h g cur t a b hg)
theorem KeepsJ.keeps {w w' : World} (h : KeepsJ w w') : Keeps w w' := fun g cur hg => h g cur 5 (by decide) (by decide) hg
theorem KeepsJ.row {w w' : World} (h : KeepsJ w w') {g : Nat} {t : TypeId} {xs : List Value} (hr : Row w g t xs) (h1 : t ≠ 35) (h2 : t ≠ 61) : Row w' g t xs := h g xs.toArray t h1 h2 hr
theorem keepsJ_below {w w' : World} (h : Below w.heap.size w w') : KeepsJ w w' := fun g _ _ _ _ hg => (h.block g (Array.getElem?_eq_some_iff.1 hg).1).trans hg
theorem keepsJ_set {w : World} {j : Nat} {xs : List Value} (h : Row w j 35 xs) (i : Nat) (u : Value) : KeepsJ w (w.setCell ⟨j, i, none⟩ u) := by
  intro g cur t h1 h2 hg
  have hne : g ≠ j := by
    rintro rfl
    unfold Row at h
    rw [hg] at h
    injection h with h
    injection h with _ h
    exact h1 h
  exact (Below.heap_setCell w ⟨j, i, none⟩ u g hne).trans hg
theorem keepsJ_grown {w w' : World} {B n k : Nat} {v : Value} {xs : List Value} (h : w.ownsRow B 61 k v n xs) (hg : w.grownBy w' v.ownBlock) : KeepsJ w w' := by
  intro g cur t h1 h2 hgc
  refine (hg.block g (Array.getElem?_eq_some_iff.1 hgc).1 ?_).trans hgc
  intro e
  rcases h.2 with ⟨rfl, _⟩ | ⟨g', cap, cur', rfl, _, hh, _⟩
  · simp [Value.ownBlock] at e
  · have : g' = g := by simpa [Value.ownBlock] using e.symm
    subst this
    rw [hgc] at hh
    injection hh with hh
    injection hh with _ hh
    exact h2 hh
/-- What AddBytes leaves. -/
def Added (w : World) (B j : Nat) (x : Value) (zs : List Int) (segs : List (Value × Nat)) (L : Nat) (lb : Int) (e : Ending) (w' : World) : Prop :=
  e = .returned (.tuple #[]) ∧ ∃ v', Jn w' B j v' (segs ++ [(x, L)]) (L + zs.length) (if zs.length = 0 then lb else zs.getD (zs.length - 1) 0) ∧ KeepsJ w w' ∧ Below B w w'
theorem below_set {w w' : World} {B j : Nat} (h : Below B w w') (hj : B ≤ j) (i : Nat) (u : Value) : Below B w (w'.setCell ⟨j, i, none⟩ u) := h.setCell hj _
/-- The append of one piece, and where it leads. -/
theorem push_run {w : World} {B j L : Nat} {v x : Value} {segs : List (Value × Nat)} {lb : Int} (h : Jn w B j v segs L lb) (hx : x.oneCell' = true) (hs : segs.length ≤ 1000) :
    ∃ A n c w5, (Builtin.append_ #[32, 32] 32 #[v, .slice (some ⟨w.heap.size, 0, none⟩) 1 1]).run Tryd.prog (w.alloc (.cells #[x, .int .u32 (L : Int)] 61)).drew = .ok (.slice A n c) w5 ∧
      Jn (w5.setCell ⟨j, 1, none⟩ (.slice A n c)) B j (.slice A n c) (segs ++ [(x, L)]) L lb ∧ w5.cell? ⟨j, 1, none⟩ = some v ∧ w5.frozen? ⟨j, 1, none⟩ = false ∧ KeepsJ w (w5.setCell ⟨j, 1, none⟩ (.slice A n c)) ∧ Below B w (w5.setCell ⟨j, 1, none⟩ (.slice A n c)) := by
  obtain ⟨i, hi, hzz⟩ := Option.map_eq_some_iff.1 info61
  simp only [Prod.mk.injEq] at hzz
  obtain ⟨hz, hsz, hby⟩ := hzz
  obtain ⟨W1, hW1⟩ : ∃ W, W = (w.alloc (.cells #[x, .int .u32 (L : Int)] 61)).drew := ⟨_, rfl⟩
  have hb1 : Below w.heap.size w W1 := by rw [hW1]; exact ((Below.refl _ _).alloc (Nat.le_refl _) _).drew
  have h1 := h.later hb1
  have hnew : W1.heap[w.heap.size]? = some (.cells #[x, .int .u32 (L : Int)] 61 (0, 0)) := by rw [hW1]; exact heap_alloc_new w _
  obtain ⟨v', w5, hr, k1, k2, _⟩ := run_append_own (P := Tryd.prog) W1 B 32 32 61 i (.agg #[.slice none 0 0, .int .u32 0]) 2 32 Tryd.underlying32 hi hz hsz hby rfl (by decide) v segs.length (cellsOf segs) h1.own ⟨w.heap.size, 0, none⟩ 1 1 [x, .int .u32 (L : Int)] rfl
    (fun p u hu => by
      have hadd : (⟨w.heap.size, 0, none⟩ : Addr).add p = ⟨w.heap.size, p, none⟩ := by unfold Addr.add; split <;> simp_all
      rw [hadd, cell_of_row W1 w.heap.size p _ 61 (0, 0) hnew]
      simpa using hu)
    (fun u hu => by simp at hu; rcases hu with rfl | rfl; exact hx; rfl) (by unfold maxLen; omega) (by omega) h1.hB
  have hf : ∃ A c, v' = .slice A (segs.length + 1) c := by
    rcases k1.2 with ⟨_, h0⟩ | ⟨g, cap, cur, rfl, _⟩
    · omega
    · exact ⟨_, _, rfl⟩
  obtain ⟨A, c, rfl⟩ := hf
  have hrow := h1.row.grown k2 (fun e => h1.ne e.symm)
  have hk5 : KeepsJ W1 w5 := keepsJ_grown h1.own k2
  have hgb : Below B W1 w5 := ⟨k2.os, k2.tape, k2.output, k2.size, fun g hg => k2.block g (Nat.lt_of_lt_of_le hg h1.hB) (fun e => by
    rcases h1.own.2 with ⟨h0, _⟩ | ⟨g', cap, cur, h0, hb, _⟩
    · rw [h0] at e; simp [Value.ownBlock] at e
    · rw [h0] at e
      have : g' = g := by simpa [Value.ownBlock] using e.symm
      omega)⟩
  have hset := hrow.set 1 (.slice A (segs.length + 1) c)
  have hnej : Value.ownBlock (.slice A (segs.length + 1) c) ≠ some j := by
    intro e
    rcases k1.2 with ⟨_, h0⟩ | ⟨g, cap, cur, h0, _, hh, _⟩
    · omega
    · rw [h0] at e
      have : g = j := by simpa [Value.ownBlock] using e
      subst this
      have h2 := hrow
      unfold Row at h2
      rw [hh] at h2
      cases h2
  refine ⟨A, segs.length + 1, c, w5, by rw [← hW1]; exact hr, ⟨hset, ?_, h.hj, ?_⟩, hrow.at_ rfl, hrow.frozen 1, ?_, ?_⟩
  · rw [cellsOf_snoc, List.length_append]
    exact own_keep k1 fun g hg => Below.heap_setCell w5 ⟨j, 1, none⟩ _ g (by rintro rfl; exact hnej hg)
  · have := hgb.size; have := h1.hB; simp; omega
  · exact ((keepsJ_below hb1).trans hk5).trans (keepsJ_set hrow _ _)
  · exact ((hb1.mono h.hB).trans hgb).setCell h.hj _
theorem last19 (B j : Nat) (v : Value) (segs : List (Value × Nat)) (L : Nat) (lb : Int) (w : World) (h : Jn w B j v segs L lb) :
    Calls Tryd.prog 19 #[.pointer (some ⟨j, 0, none⟩)] w fun e w' => e = .returned (.int .u8 lb) ∧ w = w' := by
  have c3 := h.row.at_ (i := 3) rfl
  clear h
  go_enter Tryd.func19, Tryd.ntmps19
  go_wp2
  go_ret
  exact ⟨rfl, rfl⟩
theorem add_end {w W6 : World} {B j L : Nat} {v' : Value} {segs' : List (Value × Nat)} {lb : Int} (h : Jn W6 B j v' segs' L lb) (hk : KeepsJ w W6) (hb : Below B w W6) (L2 : Nat) (x : Int) (hx : x = (L2 : Int)) :
    Jn (W6.setCell ⟨j, 2, none⟩ (.int .u32 x)) B j v' segs' L2 lb ∧ KeepsJ w (W6.setCell ⟨j, 2, none⟩ (.int .u32 x)) ∧ Below B w (W6.setCell ⟨j, 2, none⟩ (.int .u32 x)) := by
  subst hx
  refine ⟨⟨h.row.set 2 _, h.set 2 _, h.hj, ?_⟩, hk.trans (keepsJ_set h.row _ _), hb.setCell h.hj _⟩
  have := h.hB
  simpa using this
set_option maxRecDepth 100000 in
set_option maxHeartbeats 4000000 in
theorem add14 (B j : Nat) (v : Value) (segs : List (Value × Nat)) (L : Nat) (lb : Int) (x : Value) (zs : List Int) (w : World) (h : Jn w B j v segs L lb) (hx : Pc w x zs) (hs : segs.length ≤ 1000) (hz : zs.length ≤ 100000000) (hL : L ≤ 100000000) :
    Calls Tryd.prog 14 #[.pointer (some ⟨j, 0, none⟩), x] w (Added w B j x zs segs L lb) := by
  obtain ⟨A, c, rfl, hi⟩ := hx.ints
  have HSZ := Lib.hid hs
  have r0 := h.row
  generalize hn : zs.length = n at hi hz
  rcases Nat.eq_zero_or_pos n with h0 | h0
  · subst h0
    obtain rfl : zs = [] := List.eq_nil_of_length_eq_zero hn
    obtain ⟨A5, n5, c5, w5, hrun, hj5, k3, k4, hk5, hb5⟩ := push_run (x := .slice A 0 c) h rfl hs
    have HJ := Lib.hid hj5
    have HRUN := Lib.hid hrun
    have HK := Lib.hid hk5
    have HB := Lib.hid hb5
    have HH := Lib.hid h
    have c1 := r0.at_ (i := 1) rfl
    have c2 := r0.at_ (i := 2) rfl
    have c1a := fun o => (r0.alloc o).at_ (i := 1) rfl
    have c2a := fun o => (r0.alloc o).at_ (i := 2) rfl
    clear hrun hj5 hk5 hb5 h hi hx r0 hn hs
    go_enter Tryd.func14, Tryd.ntmps14
    go_wp2_with fail
    go_region_law (first | (refine step_append_run rfl _ _ 32 rfl _ _ _ w5 rfl rfl HRUN.out ?_))
    all_goals
      clear c1 c2 c1a c2a k3 k4
      generalize hW6 : w5.setCell ⟨j, 1, none⟩ (.slice A5 n5 c5) = W6 at HJ HK HB ⊢
      clear hW6 HRUN
      have d2 := HJ.out.row.at_ (i := 2) rfl
      have f2 := HJ.out.row.frozen 2
      go_wp2_with fail
      go_end0
      obtain ⟨q1, q2, q3⟩ := add_end HJ.out HK.out HB.out L _ rfl
      exact ⟨rfl, _, by simpa using q1, q2, q3⟩
  · obtain ⟨b, off, ha, hb, hcell⟩ := hi.read (n - 1) (by omega)
    subst ha
    obtain ⟨y, hy⟩ : ∃ y, zs.getD (n - 1) 0 = y := ⟨_, rfl⟩
    rw [hy] at hcell
    have hwy := hi.wf_at (n - 1) (by omega)
    rw [hy] at hwy
    have hj3 : Jn (w.setCell ⟨j, 3, none⟩ (.int .u8 y)) B j v segs L y := ⟨h.row.set 3 _, h.set 3 _, h.hj, by simpa using h.hB⟩
    have hk3 : KeepsJ w (w.setCell ⟨j, 3, none⟩ (.int .u8 y)) := keepsJ_set h.row _ _
    have hb3 : Below B w (w.setCell ⟨j, 3, none⟩ (.int .u8 y)) := (Below.refl _ _).setCell h.hj _
    have d3 := r0.at_ (i := 3) rfl
    have f3 := r0.frozen 3
    have eN : ((n : Int) - 1) = ((n - 1 : Nat) : Int) := by omega
    have i0 : (0 : Int) ≤ (n : Int) - 1 := by omega
    have i1 : (n : Int) - 1 < (n : Int) := by omega
    have hcell' : w.cell? ⟨b, off + ((n : Int) - 1).toNat, none⟩ = some (.int .u8 y) := by rw [show ((n : Int) - 1).toNat = n - 1 by omega]; exact hcell
    have HJ3 := Lib.hid hj3
    have HK3 := Lib.hid hk3
    have HB3 := Lib.hid hb3
    have HY := Lib.hid hy
    have HN := Lib.hid hn
    have HE := Lib.hid eN
    have gt : decide (0 < (n : Int)) = true := by simp; omega
    clear hj3 hk3 hb3 h hi hx r0 hn hs hy eN hwy
    go_enter Tryd.func14, Tryd.ntmps14
    go_upto_region 2 with fail
    generalize hW1 : w.setCell ⟨j, 3, none⟩ (.int .u8 y) = W1 at HJ3 HK3 HB3 ⊢
    clear hW1 d3 f3 hcell hcell' i0 i1 gt
    obtain ⟨A5, n5, c5, w5, hrun, hj5, k3, k4, hk5, hb5⟩ := push_run (x := .slice (some ⟨b, off, none⟩) n c) HJ3.out rfl HSZ.out
    have HJ := Lib.hid hj5
    have HRUN := Lib.hid hrun
    have HK := Lib.hid hk5
    have HB := Lib.hid hb5
    have c1 := HJ3.out.row.at_ (i := 1) rfl
    have c2 := HJ3.out.row.at_ (i := 2) rfl
    have c1a := fun o => (HJ3.out.row.alloc o).at_ (i := 1) rfl
    have c2a := fun o => (HJ3.out.row.alloc o).at_ (i := 2) rfl
    clear hrun hj5 hk5 hb5
    go_wp2_with fail
    go_region_law (first | (refine step_append_run rfl _ _ 32 rfl _ _ _ w5 rfl rfl HRUN.out ?_))
    all_goals
      clear c1 c2 c1a c2a k3 k4
      generalize hW6 : w5.setCell ⟨j, 1, none⟩ (.slice A5 n5 c5) = W6 at HJ HK HB ⊢
      clear hW6 HRUN
      have d2 := HJ.out.row.at_ (i := 2) rfl
      have f2 := HJ.out.row.frozen 2
      go_wp2_with fail
      go_end0
      obtain ⟨q1, q2, q3⟩ := add_end HJ.out HK.out HB.out (L + n) _ (Int.natCast_add L n).symm
      refine ⟨rfl, .slice A5 n5 c5, ?_, HK3.out.trans q2, HB3.out.trans q3⟩
      rw [HN.out, if_neg (by omega), HY.out]
      exact q1
end Go.Proofs.YtmgkjkfhhdkkmabDoor.ApE
