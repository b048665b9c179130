/- FnUpdateGeneratedLineAndColumnExact: the loop of updateGeneratedLineAndColumn, its words. -/
import Derived.Test.YtmakaafjkeeooacDoorRows
import Derived.Test.YtmakaafjkeeooacDoorMem
import Derived.Test.YtmakaafjkeeooacDoorSl
import Derived.Test.YtmakaafjkeeooacDoorUgF
import Derived.Test.YtmakaafjkeeooacDoorUgE
import Derived.Test.YtmakaafjkeeooacDoorUgP
import Derived.Test.YtmakaafjkeeooacDoorStep
import Derived.Deep.DeepCutAuto
import Derived.Deep.RegionHeld3
import Derived.WalkMore
import Derived.ScopeJumps
import Derived.Laws.RangeAny
import Derived.WalkKit
import Derived.ProofKit
import Derived.OpenShut
import Derived.Below
import Derived.WalkLawsBesides
import Derived.Lib.Hide
import Derived.Outline
import Derived.RegionTactic
import Derived.Deep.QuietTactic
import Derived.BigQuiet
import Derived.WalkSpells
import Derived.Deep.OwnRows
import Derived.IntWalk
import Derived.Deep.DeepMust
namespace Go.Proofs.YtmakaafjkeeooacDoor.UgG
open Go.RowKit Mem Sl
set_option linter.unusedVariables false
open Own Vq Dec Lin Str Prn Owg UgA UgB UgC UgD UgE UgF UgP Args

theorem run_slice0 (A : Option Addr) (n : Nat) (W : World) : (Instr.slice 22 (.slice A n n) (some (.int .i64 0)) none none).run Tryd.prog W = .ok (.slice A n n) W := by
  have e : Tryd.prog.elem 22 = 5 := by kernel_rfl
  have sz : ∀ W : World, (Go.sizeOf 5).run Tryd.prog W = .ok 1 W := fun _ => by kernel_rfl
  rw [run_slice_l W 22 A n n (by rw [e]; exact Tryd.underlying22) .i64 0 (by omega) (by omega), e, sz]
  show Result.ok (Value.slice (if n = 0 then A else A.map (·.add (0 * 1))) (n - 0) (n - 0)) W = _
  have h : A.map (·.add (0 * 1)) = A := by cases A <;> rfl
  rw [h, Nat.sub_zero]
  split <;> rfl
theorem nums_at (s : ByteArray) (k : Nat) (h : k < s.size) : (nums s).getD k 0 = (((s[k]'h).toNat : Nat) : Int) := by
  have h2 : k < s.data.toList.length := by simpa using h
  unfold nums
  rw [List.getD, List.getElem?_map, List.getElem?_eq_getElem h2]
  rfl
theorem tx_ints {w : World} {A : Option Addr} {n : Nat} {s : ByteArray} (h : Tx w A n n s) : IsInts .u8 w A n n (nums s) := by
  obtain ⟨h1, h2, h3, h4⟩ := h
  refine ⟨h2, h3, by rw [nums_length, h1], nums_wf s, fun hA => ?_, fun hn => ?_⟩
  · rcases Nat.eq_zero_or_pos n with h0 | h0
    · exact h0
    · obtain ⟨b, ha, _⟩ := h4 h0
      rw [hA] at ha
      cases ha
  · obtain ⟨b, ha, hb, hc⟩ := h4 hn
    refine ⟨b, 0, ha, hb, fun i hi => ?_⟩
    rw [Nat.zero_add, hc i hi]
    have hs : i < s.size := by omega
    rw [by_at s i hs, nums_at s i hs]
theorem conv_tx {w : World} {A : Option Addr} {n : Nat} {s : ByteArray} (h : Tx w A n n s) : (convert 22 9 (.slice A n n)).run Tryd.prog w = .ok (.string s) w := by
  rw [run_string Tryd.underlying22 Tryd.underlying5 Tryd.underlying9 (tx_ints h), bytesOf_nums]
/-- In the midst of the scan: the builder, the iterator in block i at pos; L breaks, U units since the last one. -/
structure Mid2 (w : World) (B j i : Nat) (q : Value) (s : ByteArray) (hp : Bool) (cv g a o c : Int) (pos L U : Nat) (v0 v : Value) (wr : World) : Prop where
  stp : Prn.Step j w v0 wr v
  bd : Bd wr B j q v (outB hp cv L) (L : Int) g a o c 0 (U : Int) hp
  it : wr.heap[i]? = some (.stringIter s pos)
  bel : Below B w wr
section
variable {w wr w' : World} {B j i : Nat} {q v v' v0 : Value} {zs : List Int} {s : ByteArray} {hp : Bool} {cv l g a o c upd col : Int} {pos pos' L U : Nat}
theorem row_not_iter {g' : Nat} {t : TypeId} {xs : List Value} (hr : Row w g' t xs) (h : w.heap[i]? = some (.stringIter s pos)) : g' ≠ i := by
  rintro rfl
  unfold Row at hr
  rw [hr] at h
  cases h
theorem step_next (h : Prn.Step j w v0 wr v) (hg : wr.grownBy w' (some i)) (hi : w.heap.size ≤ i) : Prn.Step j w v0 w' v :=
  ⟨hg.os.trans h.os, hg.tape.trans h.tape, hg.output.trans h.output, Nat.le_trans h.size hg.size, fun k hk hp hv => (hg.block k (Nat.lt_of_lt_of_le hk h.size) (by intro e; injection e with e; omega)).trans (h.block k hk hp hv), h.at_⟩
theorem Mid2.next (h : Mid2 w B j i q s hp cv g a o c pos L U v0 v wr) (hg : wr.grownBy w' (some i)) (hi : B ≤ i) : Bd w' B j q v (outB hp cv L) (L : Int) g a o c 0 (U : Int) hp ∧ Below B w w' := by
  have hne := row_not_iter h.bd.row h.it
  have hlt : i < wr.heap.size := (Array.getElem?_eq_some_iff.1 h.it).1
  exact ⟨⟨h.bd.row.grown hg (by intro e; injection e with e; exact hne e), own_other h.bd.own hg (own_not_iter h.bd.own h.it), h.bd.hj⟩, h.bel.trans (grown_below hg hi (by omega))⟩
theorem bd_set_ (h : Bd w B j q v zs l g a o c upd col hp) {l' g' a' o' c' upd' col' : Int} {v' : Value} {hp' : Bool} (k : Nat) (u : Value) (he : (cb q v l g a o c upd col hp).set k u = cb q v' l' g' a' o' c' upd' col' hp') (hv : v' = v) : Bd (w.setCell ⟨j, k, none⟩ u) B j q v zs l' g' a' o' c' upd' col' hp' := by
  subst hv
  have hr := h.row.set k u
  rw [he] at hr
  exact ⟨hr, own_set h.own (own_ne h.own h.row (by decide)) k u, h.hj⟩
theorem bd_setL (h : Bd w B j q v zs l g a o c upd col hp) (x : Int) : Bd (w.setCell ⟨j, 6, none⟩ (.int .i64 x)) B j q v zs x g a o c upd col hp := bd_set_ h 6 _ rfl rfl
theorem bd_setG (h : Bd w B j q v zs l g a o c upd col hp) (x : Int) : Bd (w.setCell ⟨j, 7, none⟩ (.int .i64 x)) B j q v zs l x a o c upd col hp := bd_set_ h 7 _ rfl rfl
theorem bd_setC (h : Bd w B j q v zs l g a o c upd col hp) (x : Int) : Bd (w.setCell ⟨j, 14, none⟩ (.int .i64 x)) B j q v zs l g a o c upd x hp := bd_set_ h 14 _ rfl rfl
theorem bd_setU (h : Bd w B j q v zs l g a o c upd col hp) (x : Int) : Bd (w.setCell ⟨j, 13, none⟩ (.int .i64 x)) B j q v zs l g a o c x col hp := bd_set_ h 13 _ rfl rfl
theorem bd_setF (h : Bd w B j q v zs l g a o c upd col hp) : Bd (w.setCell ⟨j, 20, none⟩ (.bool false)) B j q v zs l g a o c upd col hp := bd_set_ h 20 _ rfl rfl
theorem bd_setV {xs : List Int} {v0 : Value} (hr : Row w j 52 (cb q v0 l g a o c upd col hp)) (ho : Own w B 5 .u8 v xs) (hj : B ≤ j) : Bd (w.setCell ⟨j, 1, none⟩ v) B j q v xs l g a o c upd col hp :=
  ⟨hr.set 1 v, own_set ho (own_ne ho hr (by decide)) 1 v, hj⟩
/-- A store into the builder leaves the iterator alone. -/
theorem it_set (hr : Row w j 52 (cb q v l g a o c upd col hp)) (h : w.heap[i]? = some (.stringIter s pos)) (k : Nat) (u : Value) : (w.setCell ⟨j, k, none⟩ u).heap[i]? = some (.stringIter s pos) :=
  (Below.heap_setCell w ⟨j, k, none⟩ u i (fun e => row_not_iter hr h e.symm)).trans h
end
/-- The column of the last mapping. -/
def gq (cv : Int) (L : Nat) : Int := if L = 0 then cv else 0
def sq (L : Nat) : List Int := if L = 0 then [44] else []
def lq (L : Nat) : Int := if L = 0 then 71 else 59
theorem outB_no1 (cv : Int) (L : Nat) : outB false cv L ++ [59] = outB false cv (L + 1) := by
  rw [outB]
  simp
theorem outB_yes1 (cv : Int) (L : Nat) : (outB true cv L ++ sq L ++ seg4 (0 - gq cv L) (1 - 1) (2 - 2) (3 - 3)) ++ [59] = outB true cv (L + 1) := by
  rw [outB]
  unfold sq gq
  by_cases h : L = 0
  · simp [h]
  · simp [h]
theorem sz_out (cv : Int) (L : Nat) : Sz (outB true cv L) (lq L) (sq L) := by
  unfold lq sq
  cases L with
  | zero => exact .inr ⟨(lb_first cv).1, (lb_first cv).2, .inr ⟨rfl, rfl⟩⟩
  | succ L => exact .inr ⟨(lb_next true cv L).1, (lb_next true cv L).2, .inl ⟨rfl, rfl⟩⟩
theorem sm_gq {cv : Int} (h : Sm cv) (L : Nat) : Sm (gq cv L) := by
  unfold gq
  split
  · exact h
  · exact ⟨by omega, by omega⟩
/-- Behind a break's stores (but for the last two). -/
structure Brk (w : World) (B j i : Nat) (q : Value) (s : ByteArray) (hp : Bool) (zs : List Int) (a o c : Int) (pos : Nat) (l : Int) (v0 v : Value) (W : World) : Prop where
  stp : Prn.Step j w v0 W v
  bd : Bd W B j q v zs l 0 a o c 0 0 hp
  it : W.heap[i]? = some (.stringIter s pos)
  bel : Below B w W
theorem Brk.done {w : World} {B j i : Nat} {q v v2 v0 : Value} {s : ByteArray} {hp : Bool} {zs zs2 : List Int} {a o c l : Int} {pos : Nat} {W W2 : World} (h : Brk w B j i q s hp zs a o c pos l v0 v W) (x : Obj) (ho : Own W2 B 5 .u8 v2 zs2) (hg : Gr (W.alloc x) v W2 v2) :
    Bd ((W2.setCell ⟨j, 1, none⟩ v2).setCell ⟨j, 20, none⟩ (.bool false)) B j q v2 zs2 l 0 a o c 0 0 hp ∧ ((W2.setCell ⟨j, 1, none⟩ v2).setCell ⟨j, 20, none⟩ (.bool false)).heap[i]? = some (.stringIter s pos) ∧ Below B w ((W2.setCell ⟨j, 1, none⟩ v2).setCell ⟨j, 20, none⟩ (.bool false)) ∧ Prn.Step j w v0 ((W2.setCell ⟨j, 1, none⟩ v2).setCell ⟨j, 20, none⟩ (.bool false)) v2 := by
  have hne := own_ne h.bd.own h.bd.row (by decide)
  have hr2 : Row W2 j 52 _ := hg.row (h.bd.row.alloc x) hne
  have hlt : i < W.heap.size := (Array.getElem?_eq_some_iff.1 h.it).1
  have hi2 : W2.heap[i]? = some (.stringIter s pos) := ((hg (i + 1)).block i (by simp; omega) (by omega) (fun e => own_not_iter h.bd.own h.it e.symm)).trans ((Below.heap_alloc W x i hlt).trans h.it)
  have hBw : B ≤ W.heap.size := Nat.le_trans h.bd.hj (Nat.le_of_lt h.bd.row.lt)
  have hb := bd_setV (v := v2) hr2 ho h.bd.hj
  refine ⟨bd_setF hb, it_set hb.row (it_set hr2 hi2 1 v2) 20 _, ?_, (((h.stp.trans (Prn.Step.of_below ((Below.refl _ _).alloc (Nat.le_refl _) x) (Nat.le_refl _))).trans (hg j)).set_ _ _).set_ _ _⟩
  have h1 : Below B w (W.alloc x) := h.bel.alloc hBw x
  have h2 : Below B (W.alloc x) W2 := hg.below (own_low h.bd.own) (by simp; omega)
  exact ((h1.trans h2).setCell h.bd.hj _).setCell h.bd.hj _
theorem it_step {w w' : World} {B j i : Nat} {q v v' : Value} {zs : List Int} {s : ByteArray} {hp : Bool} {l g a o c upd col : Int} {pos : Nat} (h : Bd w B j q v zs l g a o c upd col hp) (hi : w.heap[i]? = some (.stringIter s pos)) (hs : Prn.Step j w.drew v w' v') : w'.heap[i]? = some (.stringIter s pos) :=
  (hs.block i (Array.getElem?_eq_some_iff.1 hi).1 (fun e => row_not_iter h.row hi e.symm) (fun e => own_not_iter h.own hi e.symm)).trans hi
theorem bel_step {w0 w w' : World} {B j : Nat} {q v v' : Value} {zs : List Int} {hp : Bool} {l g a o c upd col : Int} (h : Bd w B j q v zs l g a o c upd col hp) (hb : Below B w0 w) (hs : Prn.Step j w.drew v w' v') : Below B w0 w' :=
  hb.trans ((Below.refl B w).drew.trans (hs.below h.hj (own_low h.own) (Nat.le_trans h.hj (Nat.le_of_lt h.row.lt))))
theorem mid2_of {w W : World} {B j i : Nat} {q v v0 : Value} {s : ByteArray} {hp : Bool} {zs : List Int} {cv g a o c : Int} {pos L : Nat} (h : Bd W B j q v zs ((L : Int) + 1) 0 a o c 0 0 hp ∧ W.heap[i]? = some (.stringIter s pos) ∧ Below B w W ∧ Prn.Step j w v0 W v) (hz : zs = outB hp cv (L + 1)) (hg : g = 0) : Mid2 w B j i q s hp cv g a o c pos (L + 1) 0 v0 v W := by
  subst hz hg
  exact ⟨h.2.2.2, h.1, h.2.1, h.2.2.1⟩
end Go.Proofs.YtmakaafjkeeooacDoor.UgG
