/- FnPrintQuotedUTF8QuoteAndLength: printUnquotedUTF16. -/
import Derived.Test.YtmakaafjkeeooabFmtRows
import Derived.Test.YtmakaafjkeeooabFmtMem
import Derived.Test.YtmakaafjkeeooabFmtSl
import Derived.Test.YtmakaafjkeeooabFmtQuA
import Derived.Test.YtmakaafjkeeooabFmtQuC
import Derived.Deep.RegionLaw
import Derived.Deep.DeepCutAuto
import Derived.Deep.Cut
import Derived.Deep.CutBlock
import Derived.WalkKit
import Derived.ProofKit
import Derived.OpenShut
import Derived.Below
import Derived.WalkLawsBesides
import Derived.Lib.Hide
import Derived.Outline
import Derived.RegionTactic
import Derived.Deep.QuietTactic
import Derived.BigQuiet
import Derived.WalkSpells
import Derived.Deep.OwnRows
import Derived.IntWalk
import Derived.Deep.DeepMust
namespace Go.Proofs.YtmakaafjkeeooabFmt.QuD
open Go.RowKit Mem Sl
set_option linter.unusedVariables false
open Prn Pru Own Owg Dec Enc QuA QuC

/-- In the midst of printing: the bytes Z in the buffer v, four spare bytes in block T; no block of another type has turned since w. -/
structure PU (w : World) (B0 ob T : Nat) (wr : World) (v : Value) (Z : List Int) : Prop where
  buf : Buf wr 5 v Z
  t4 : T4 wr T
  hT : v.ownBlock ≠ some T
  keep : ∀ (g : Nat) (cur : Array Value) (t : TypeId), t ≠ 5 → w.heap[g]? = some (Obj.cells cur t (0, 0)) → wr.heap[g]? = some (Obj.cells cur t (0, 0))
  bel : Below B0 w wr
  low : ∀ g, v.ownBlock = some g → B0 ≤ g
  hB : B0 ≤ w.heap.size
  lT : B0 ≤ T
  one : ∀ g, v.ownBlock = some g → g = ob ∨ w.heap.size ≤ g
  keep2 : ∀ g, g < w.heap.size → g ≠ ob → g ≠ T → wr.heap[g]? = w.heap[g]?
section
variable {w wr w' : World} {B0 ob T : Nat} {v v' : Value} {Z ys : List Int}
theorem t4_lt (h : T4 w T) : T < w.heap.size := by
  obtain ⟨a, b, c, d, hr⟩ := h
  exact hr.lt
theorem t4_cells (h : T4 w T) : ∃ cur, w.heap[T]? = some (.cells cur 5 (0, 0)) := by
  obtain ⟨a, b, c, d, hr⟩ := h
  exact ⟨_, hr⟩
theorem buf_cur (h : Buf w 5 v Z) : ∀ g, v.ownBlock = some g → ∃ cur, w.heap[g]? = some (.cells cur 5 (0, 0)) := by
  intro g hg
  rcases h.2 with ⟨rfl, _⟩ | ⟨g', cap, cur, rfl, hb, hh, _⟩
  · simp [Value.ownBlock] at hg
  · have : g' = g := by simpa [Value.ownBlock] using hg
    subst this
    exact ⟨cur, hh⟩
theorem PU.alloc (h : PU w B0 ob T wr v Z) (o : Obj) : PU w B0 ob T (wr.alloc o) v Z := by
  have hb : Below wr.heap.size wr (wr.alloc o) := (Below.refl _ _).alloc (Nat.le_refl _) _
  obtain ⟨a, b, c, d, hr⟩ := h.t4
  exact ⟨h.buf.below hb (Nat.le_refl _), ⟨a, b, c, d, hr.alloc o⟩, h.hT, fun g cur t ht hg => by
    have h1 := h.keep g cur t ht hg
    exact (Below.heap_alloc wr o g (Array.getElem?_eq_some_iff.1 h1).1).trans h1, h.bel.alloc (Nat.le_trans h.hB h.bel.size) _, h.low, h.hB, h.lT, h.one, fun g hg hne hT => (Below.heap_alloc wr o g (Nat.lt_of_lt_of_le hg h.bel.size)).trans (h.keep2 g hg hne hT)⟩
theorem PU.append (h : PU w B0 ob T wr v Z) (hb : Buf w' 5 v' (Z ++ ys)) (hg : wr.grownBy w' v.ownBlock) (ha : v'.ownBlock = v.ownBlock ∨ v'.ownBlock = some wr.heap.size) : PU w B0 ob T w' v' (Z ++ ys) := by
  obtain ⟨a, b, c, d, hr⟩ := h.t4
  refine ⟨hb, ⟨a, b, c, d, hr.grown hg (fun e => h.hT e.symm)⟩, ?_, fun g cur t ht hgc => ?_, ?_, ?_, h.hB, h.lT, ?_, ?_⟩
  · rcases ha with e | e
    · rw [e]; exact h.hT
    · rw [e]; intro e2; injection e2 with e2; have := hr.lt; omega
  · have h1 := h.keep g cur t ht hgc
    refine (hg.block g (Array.getElem?_eq_some_iff.1 h1).1 (fun e => ?_)).trans h1
    obtain ⟨cur', h2⟩ := buf_cur h.buf g e.symm
    rw [h1] at h2
    injection h2 with h2
    injection h2 with _ h2
    exact ht h2
  · exact h.bel.trans (grown_below' hg h.low (Nat.le_trans h.hB h.bel.size))
  · intro g hgv
    rcases ha with e | e
    · exact h.low g (by rw [← e]; exact hgv)
    · rw [e] at hgv; injection hgv with hgv; have := h.bel.size; have := h.hB; omega
  · intro g hgv
    rcases ha with e | e
    · exact h.one g (by rw [← e]; exact hgv)
    · rw [e] at hgv; injection hgv with hgv; have := h.bel.size; exact .inr (by omega)
  · intro g hgl hne hT
    refine (hg.block g (Nat.lt_of_lt_of_le hgl h.bel.size) (fun e => ?_)).trans (h.keep2 g hgl hne hT)
    have := h.one g e.symm
    omega
theorem PU.enc (h : PU w B0 ob T wr v Z) (ht : T4 w' T) (hg : wr.grownBy w' (some T)) : PU w B0 ob T w' v Z := by
  refine ⟨buf_other h.buf hg h.hT, ht, h.hT, fun g cur t htt hgc => ?_, h.bel.trans (grown_below' hg (fun g e => by injection e with e; rw [← e]; exact h.lT) (Nat.le_trans h.hB h.bel.size)), h.low, h.hB, h.lT, h.one, fun g hg' hne hT => (hg.block g (Nat.lt_of_lt_of_le hg' h.bel.size) (fun e => hT (Option.some.inj e))).trans (h.keep2 g hg' hne hT)⟩
  have h1 := h.keep g cur t htt hgc
  refine (hg.block g (Array.getElem?_eq_some_iff.1 h1).1 (fun e => ?_)).trans h1
  injection e with e
  subst e
  obtain ⟨cur', h2⟩ := t4_cells h.t4
  rw [h1] at h2
  injection h2 with h2
  injection h2 with _ h2
  exact htt h2
theorem PU.row (h : PU w B0 ob T wr v Z) {g : Nat} {t : TypeId} {xs : List Value} (hr : Row w g t xs) (ht : t ≠ 5) : Row wr g t xs := h.keep g _ t ht hr
theorem pu0 {p : Nat} {cs : List Value} (h : Pr w p 79 9 5 cs v Z) (hlow : ∀ g, v.ownBlock = some g → B0 ≤ g) (hB : B0 ≤ w.heap.size) (hc : wr = w.alloc (.cells (madeCells #[.int .u8 0] 4) 5)) : PU wr B0 (v.ownBlock.getD w.heap.size) w.heap.size wr v Z := by
  subst hc
  have hb : Below w.heap.size w (w.alloc (.cells (madeCells #[.int .u8 0] 4) 5)) := (Below.refl _ _).alloc (Nat.le_refl _) _
  refine ⟨h.buf.below hb (Nat.le_refl _), ⟨0, 0, 0, 0, made_row w 5 (.int .u8 0) 4⟩, fun e => ?_, fun _ _ _ _ h => h, Below.refl _ _, hlow, by simp; omega, hB, fun g hg => .inl (by rw [hg]; rfl), fun _ _ _ _ => rfl⟩
  have := h.buf.lt _ e
  omega
end
/-- The round's head: the units from k on stand for m bytes; M has been printed behind Z0. -/
def Iv (w : World) (B0 ob T : Nat) (U Z0 : List Int) (tot k : Nat) (wr : World) (v : Value) : Prop := ∃ (m : Nat) (M : List Int), Enc.Enc (U.drop k) m ∧ tot ≤ M.length + m ∧ M.length + 4 * m ≤ 4 * tot ∧ PU w B0 ob T wr v (Z0 ++ M)
theorem iv_step {w wr : World} {B0 ob T : Nat} {U Z0 M ys : List Int} {tot k kk m m' : Nat} {v : Value} (he : Enc.Enc (U.drop k) m') (hm : m = kk + m') (h1 : tot ≤ M.length + m) (h2 : M.length + 4 * m ≤ 4 * tot) (hp : PU w B0 ob T wr v (Z0 ++ M ++ ys)) (hl : kk ≤ ys.length) (hu : ys.length ≤ 4 * kk) : Iv w B0 ob T U Z0 tot k wr v :=
  ⟨m', M ++ ys, he, by rw [List.length_append]; omega, by rw [List.length_append]; omega, by rw [← List.append_assoc]; exact hp⟩
theorem iv_step2 {w wr : World} {B0 ob T : Nat} {U Z0 M xs ys : List Int} {tot k kk m m' : Nat} {v : Value} (he : Enc.Enc (U.drop k) m') (hm : m = kk + m') (h1 : tot ≤ M.length + m) (h2 : M.length + 4 * m ≤ 4 * tot) (hp : PU w B0 ob T wr v (Z0 ++ M ++ xs ++ ys)) (hl : kk ≤ xs.length + ys.length) (hu : xs.length + ys.length ≤ 4 * kk) : Iv w B0 ob T U Z0 tot k wr v :=
  iv_step (ys := xs ++ ys) he hm h1 h2 (by rw [← List.append_assoc]; exact hp) (by rw [List.length_append]; omega) (by rw [List.length_append]; omega)
/-- The text's units in memory. -/
def Txt (w : World) (A : Option Addr) (n c : Nat) (U : List Int) : Prop := U.length = n ∧ n ≤ c ∧ c ≤ maxLen ∧ (0 < n → ∃ g cur, A = some ⟨g, 0, none⟩ ∧ w.heap[g]? = some (.cells cur 87 (0, 0)) ∧ ∀ i, i < n → cur[i]? = some (.int .u16 (U.getD i 0)))
theorem txt_of_own {w : World} {B : Nat} {A : Option Addr} {n c : Nat} {U : List Int} (h : Own w B 87 .u16 (.slice A n c) U) (hn : U.length = n) : Txt w A n c U := by
  subst hn
  rcases h.2 with ⟨h0, h1⟩ | ⟨g, cap, cur, h0, hb, hh, hnc, hcm, hcs, htk⟩
  · injection h0 with e1 e2 e3
    subst e1 e3
    exact ⟨rfl, by omega, Nat.zero_le _, fun h => by omega⟩
  · injection h0 with e1 e2 e3
    subst e1 e3
    refine ⟨rfl, hnc, hcm, fun _ => ⟨g, cur, rfl, hh, fun i hi => ?_⟩⟩
    have h1 : (cur.toList.take (U.length * 1))[i]? = (iv .u16 U)[i]? := by rw [htk]
    rw [iv_at .u16 U i hi, List.getElem?_take, if_pos (by omega)] at h1
    simpa using h1
/-- What printUnquotedUTF16 leaves. -/
def Unq (w : World) (B0 p : Nat) (cs : List Value) (v0 : Value) (Z0 : List Int) (tot : Nat) (e : Ending) (w' : World) : Prop :=
  e = .returned (.tuple #[]) ∧ ∃ v M, Pr w' p 79 9 5 (cs.set 9 v) v (Z0 ++ M) ∧ tot ≤ M.length ∧ M.length ≤ 4 * tot ∧ Below B0 w w' ∧ (∀ g, v.ownBlock = some g → B0 ≤ g) ∧ (∀ g, v.ownBlock = some g → v0.ownBlock = some g ∨ w.heap.size ≤ g) ∧ (∀ g, g < w.heap.size → g ≠ p → v0.ownBlock ≠ some g → w'.heap[g]? = w.heap[g]?)
theorem unq_end {w0 w wr : World} {B0 ob p : Nat} {cs : List Value} {U Z0 : List Int} {tot : Nat} {v v0 : Value} (h : Iv w B0 ob w0.heap.size U Z0 tot U.length wr v) (hp : Row w p 79 cs) (h9 : cs[9]? = some v0) (hpB : B0 ≤ p) (hb : Below B0 w0 w)
    (ha : ob = v0.ownBlock.getD w0.heap.size) (hw : ∀ g, g < w0.heap.size → w.heap[g]? = w0.heap[g]?) (hs : w0.heap.size ≤ w.heap.size) : Unq w0 B0 p cs v0 Z0 tot (.returned (.tuple #[])) (wr.setCell ⟨p, 9, none⟩ v) := by
  obtain ⟨m, M, he, h1, h2, h3⟩ := h
  have hm := Enc.done he
  subst hm
  have hr := h3.row hp (by decide)
  refine ⟨rfl, v, M, ⟨hr.set 9 v, ?_, h3.buf.set_ (h3.buf.ne hr (by decide)) 9 v⟩, by omega, by omega, (hb.trans h3.bel).setCell hpB _, h3.low, fun g hg => ?_, fun g hg hne hv => ?_⟩
  · have hlt := (List.getElem?_eq_some_iff.1 h9).1
    rw [List.getElem?_set_self hlt]
  · rcases h3.one g hg with e | e
    · subst e
      rw [ha]
      cases hv : v0.ownBlock with
      | none => exact .inr (Nat.le_refl _)
      | some x => exact .inl rfl
    · exact .inr (Nat.le_trans hs e)
  · have e1 : (wr.setCell ⟨p, 9, none⟩ v).heap[g]? = wr.heap[g]? := Below.heap_setCell wr ⟨p, 9, none⟩ v g (fun e => hne e)
    rw [e1, h3.keep2 g (by omega) (fun e => ?_) (by omega), hw g hg]
    subst e
    rw [ha] at hg hv
    cases hx : v0.ownBlock with
    | none => rw [hx] at hg; simp at hg
    | some x => rw [hx] at hv; exact hv rfl
end Go.Proofs.YtmakaafjkeeooabFmt.QuD
