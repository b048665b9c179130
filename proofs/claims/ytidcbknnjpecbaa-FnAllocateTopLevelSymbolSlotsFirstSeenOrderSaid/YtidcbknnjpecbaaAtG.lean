/- FnAllocateTopLevelSymbolSlotsFirstSeenOrder: rows read as functions. -/
import Derived.Test.YtidcbknnjpecbaaRows
import Derived.Test.YtidcbknnjpecbaaMem
import Derived.Test.YtidcbknnjpecbaaSl
import Derived.Test.YtidcbknnjpecbaaAtF
import Derived.WalkKit
import Derived.ProofKit
import Derived.OpenShut
import Derived.Below
import Derived.WalkLawsBesides
import Derived.Lib.Hide
import Derived.Outline
import Derived.RegionTactic
import Derived.Deep.QuietTactic
import Derived.BigQuiet
import Derived.WalkSpells
import Derived.Deep.OwnRows
import Derived.IntWalk
import Derived.Deep.DeepMust
namespace Go.Proofs.Ytidcbknnjpecbaa.AtG
open Go.RowKit Mem Sl
set_option linter.unusedVariables false
open Args AtA AtB AtP AtC AtD AtF MapK Go.Proofs.Ytidcbknnjpecbaa.Arr Go.Maps

/-- Block g's first n cells hold V. -/
structure Fv (w : World) (g n : Nat) (V : Nat → Value) : Prop where
  lt : g < w.heap.size
  cell : ∀ i, i < n → w.cell? ⟨g, i, none⟩ = some (V i)
  frozen : ∀ i, w.frozen? ⟨g, i, none⟩ = false
def Fr (w : World) (g n : Nat) (k : IntKind) (f : Nat → Int) : Prop := Fv w g n (fun i => .int k (f i))
section
variable {w w' : World} {g n : Nat} {V V' : Nat → Value} {k : IntKind} {f f' : Nat → Int}
theorem Fv.of_row {t : TypeId} {xs : List Value} (h : Row w g t xs) (hV : ∀ i, i < n → xs[i]? = some (V i)) : Fv w g n V := ⟨h.lt, fun i hi => h.at_ (hV i hi), fun i => h.frozen i⟩
theorem Fv.congr (h : Fv w g n V) (e : ∀ i, i < n → V i = V' i) : Fv w g n V' := ⟨h.lt, fun i hi => by rw [h.cell i hi, e i hi], h.frozen⟩
theorem Fr.congr (h : Fr w g n k f) (e : ∀ i, i < n → f i = f' i) : Fr w g n k f' := Fv.congr h (fun i hi => by rw [e i hi])
theorem Fv.drew (h : Fv w g n V) : Fv w.drew g n V := ⟨h.lt, h.cell, h.frozen⟩
theorem Fv.below {B : Nat} (h : Fv w g n V) (hb : Below B w w') (hg : g < B) : Fv w' g n V := by
  have hb' := hb.block g hg
  refine ⟨Nat.lt_of_lt_of_le h.lt hb.size, fun i hi => ?_, fun o => ?_⟩
  · rw [← h.cell i hi]; simp [World.cell?, hb']
  · rw [← h.frozen o]; simp [World.frozen?, hb']
theorem Fv.far (h : Fv w g n V) {p : Addr} (hp : g ≠ p.block) (u : Value) : Fv (w.setCell p u) g n V := by
  have hb := Below.heap_setCell w p u g hp
  refine ⟨by simpa using h.lt, fun i hi => ?_, fun o => ?_⟩
  · rw [← h.cell i hi]; simp [World.cell?, hb]
  · rw [← h.frozen o]; simp [World.frozen?, hb]
theorem frozen_set (w : World) (a : Addr) (g i : Nat) (u : Value) (h : w.frozen? ⟨g, i, none⟩ = false) : (w.setCell a u).frozen? ⟨g, i, none⟩ = false := by
  by_cases e : g = a.block
  · subst e
    simp [go_sem, h]
  · rw [← h]; simp [World.frozen?, Below.heap_setCell w a u g e]
theorem Fv.set (h : Fv w g n V) {i : Nat} (hi : i < n) (u : Value) : Fv (w.setCell ⟨g, i, none⟩ u) g n (up V i u) := by
  refine ⟨by simpa using h.lt, fun j hj => ?_, fun o => frozen_set w _ g o u (h.frozen o)⟩
  by_cases e : j = i
  · subst e
    rw [up_self]
    exact cell_self u (by rw [h.cell j hj]; rfl)
  · rw [up_ne _ _ e]
    rw [← h.cell j hj]
    simp [go_sem]
theorem Fr.set (h : Fr w g n k f) {i : Nat} (hi : i < n) (x : Int) : Fr (w.setCell ⟨g, i, none⟩ (.int k x)) g n k (up f i x) :=
  Fv.congr (Fv.set h hi (.int k x)) (fun j _ => by unfold up; split <;> rfl)
end
/-- What the law's loops leave alone: the renamer, the first appearances and the sums. -/
structure Env (W8 : World) (B p mb : Nat) (rb sm : Value) (A2 A3 : Option Addr) (ini : Nat → Nat) (cp : Nat → Int) (M : Md) (g0 c0 g1 c1 : Nat) (f : Value → Option Value) (cnt n b1 b2 bi bd : Nat) (wr : World) : Prop where
  rn : Rn wr B p mb rb sm A2 A3 ini cp M g0 c0 g1 c1 f cnt
  fst : Fr wr b1 n .i64 M.fst
  sum : Fr wr b2 n .u32 M.sum
  ini_ : Fr wr bi 4 .i64 (fun s => if s < 2 then (ini s : Int) else 0)
  dis : Fr wr bd 4 .i64 (fun s => ((M.o s).length : Int))
  bel : Below W8.heap.size W8 wr
theorem Env.below {W8 w w' : World} {B p mb : Nat} {rb sm : Value} {A2 A3 : Option Addr} {ini : Nat → Nat} {cp : Nat → Int} {M : Md} {g0 c0 g1 c1 : Nat} {f : Value → Option Value} {cnt n b1 b2 bi bd : Nat}
    (h : Env W8 B p mb rb sm A2 A3 ini cp M g0 c0 g1 c1 f cnt n b1 b2 bi bd w) {C : Nat} (hb : Below C w w') (hC : W8.heap.size ≤ C) (h1 : b1 < C) (h2 : b2 < C) (hi : bi < C) (hd : bd < C) (hp : Rn w' B p mb rb sm A2 A3 ini cp M g0 c0 g1 c1 f cnt) :
    Env W8 B p mb rb sm A2 A3 ini cp M g0 c0 g1 c1 f cnt n b1 b2 bi bd w' :=
  ⟨hp, Fv.below h.fst hb h1, Fv.below h.sum hb h2, Fv.below h.ini_ hb hi, Fv.below h.dis hb hd, h.bel.trans (hb.mono hC)⟩
/-- The rows by slot: the symbols below k are entered. -/
def byF (M : Md) (k s q : Nat) : Int := if (M.o s).getD q 0 < k then M.fst ((M.o s).getD q 0) else -1
theorem getD_of {o : List Nat} {q i : Nat} (h : o[q]? = some i) : o.getD q 0 = i := by simp [List.getD, h]
theorem byF_zero (M : Md) (s q : Nat) : byF M 0 s q = -1 := by simp [byF]
theorem byF_skip {M : Md} {k s : Nat} (h : k ∉ M.o s) {q : Nat} (hq : q < (M.o s).length) : byF M (k + 1) s q = byF M k s q := by
  have e : (M.o s)[q]? = some (M.o s)[q] := by simp [hq]
  have : (M.o s).getD q 0 ≠ k := by
    rw [getD_of e]
    intro e'
    exact h (by rw [← e']; exact List.getElem_mem hq)
  unfold byF
  have : ((M.o s).getD q 0 < k + 1) = ((M.o s).getD q 0 < k) := by apply propext; omega
  simp only [this]
theorem byF_hit {M : Md} {k s q0 : Nat} (hn : (M.o s).Nodup) (h : (M.o s)[q0]? = some k) {q : Nat} (hq : q < (M.o s).length) : byF M (k + 1) s q = up (byF M k s) q0 (M.fst k) q := by
  by_cases e : q = q0
  · subst e
    rw [up_self]
    unfold byF
    rw [getD_of h, if_pos (by omega)]
  · rw [up_ne _ _ e]
    have e1 : (M.o s)[q]? = some (M.o s)[q] := by simp [hq]
    have : (M.o s).getD q 0 ≠ k := by
      rw [getD_of e1]
      intro e'
      exact e ((List.getElem?_inj hq hn).1 (by rw [e1, h, e']))
    unfold byF
    have : ((M.o s).getD q 0 < k + 1) = ((M.o s).getD q 0 < k) := by apply propext; omega
    simp only [this]
theorem byF_at {M : Md} {k s q0 : Nat} (h : (M.o s)[q0]? = some k) : byF M k s q0 = -1 := by
  unfold byF
  rw [getD_of h, if_neg (by omega)]
theorem byF_all {ns : Nat → Nat} {n t : Nat} {M : Md} (hg : AtP.Good ns n t M) {s q : Nat} (hq : q < (M.o s).length) : byF M n s q = M.fst ((M.o s).getD q 0) := by
  have e : (M.o s)[q]? = some (M.o s)[q] := by simp [hq]
  unfold byF
  rw [getD_of e, if_pos (hg.own s _ (List.getElem_mem hq)).2]
theorem byF_inc {ns : Nat → Nat} {n t : Nat} {M : Md} (hg : AtP.Good ns n t M) {s q : Nat} (hq : q + 1 < (M.o s).length) : byF M n s q < byF M n s (q + 1) := by
  rw [byF_all hg (by omega), byF_all hg hq]
  have e1 : (M.o s)[q]? = some (M.o s)[q] := by simp [show q < (M.o s).length by omega]
  have e2 : (M.o s)[q + 1]? = some (M.o s)[q + 1] := by simp [hq]
  rw [getD_of e1, getD_of e2]
  exact List.pairwise_iff_getElem.1 (hg.inc s) q (q + 1) (by omega) hq (by omega)
theorem o_nil {K : List Int} {n t : Nat} {M : Md} (hg : AtP.Good (nsv K) n t M) {s : Nat} (hs : 2 ≤ s) : M.o s = [] := by
  cases h : M.o s with
  | nil => rfl
  | cons a l =>
    have := (hg.own s a (by rw [h]; simp)).1
    have := nsv_lt K a
    omega
end Go.Proofs.Ytidcbknnjpecbaa.AtG
