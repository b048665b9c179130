/- GenerateLineOffsetTables: what is kept in memory. -/
import Derived.Test.YtdajemigdciphaaRows
import Derived.Test.YtdajemigdciphaaMem
import Derived.Test.YtdajemigdciphaaSl
import Derived.Test.YtdajemigdciphaaAdv
import Derived.Test.YtdajemigdciphaaOwn
import Derived.WalkKit
import Derived.ProofKit
import Derived.OpenShut
import Derived.Below
import Derived.WalkLawsBesides
import Derived.Lib.Hide
import Derived.Outline
import Derived.RegionTactic
import Derived.Deep.QuietTactic
import Derived.BigQuiet
import Derived.WalkSpells
import Derived.Deep.OwnRows
import Derived.IntWalk
import Derived.Deep.DeepMust
namespace Go.Proofs.Ytdajemigdciphaa.LoA
open Go.RowKit Mem Sl
set_option linter.unusedVariables false
open Dec Lin Adv Own

theorem info21 : (Try.prog.info? 21).map (fun i => (i.zero, i.size, i.bytes)) = some (some (.int .i32 0), 1, 4) := by kernel_rfl
theorem info38 : (Try.prog.info? 38).map (fun i => (i.zero, i.size, i.bytes)) = some (some (.agg #[.slice none 0 0, .int .i32 0, .int .i32 0]), 3, 32) := by kernel_rfl
/-- The iterator, the tables so far (their starts S). -/
structure Wd (w : World) (H : Nat) (s : ByteArray) (pos L : Nat) (v : Value) (S : List Nat) (wr : World) : Prop where
  it : wr.heap[H + 1]? = some (.stringIter s pos)
  tab : ∃ xs, wr.ownsRow H 38 3 v L xs ∧ ∀ l, l < L → xs[l * 3 + 2]? = some (.int .i32 ((S.getD l 0 : Nat) : Int))
  bel : Below H w wr
  sz : H + 1 < wr.heap.size
theorem owns_block {w : World} {B E sz n : Nat} {v : Value} {xs : List Value} (h : w.ownsRow B E sz v n xs) : ∀ g, v.ownBlock = some g → B ≤ g ∧ ∃ cur, w.heap[g]? = some (.cells cur E (0, 0)) := by
  intro g hg
  rcases h.2 with ⟨rfl, _⟩ | ⟨g', cap, cur, rfl, hb, hh, _⟩
  · simp [Value.ownBlock] at hg
  · have : g' = g := by simpa [Value.ownBlock] using hg
    subst this
    exact ⟨hb, cur, hh⟩
theorem owns_kept {w w' : World} {B E sz n : Nat} {v : Value} {xs : List Value} {row : Option Nat} (h : w.ownsRow B E sz v n xs) (hg : w.grownBy w' row) (hne : ∀ g, v.ownBlock = some g → some g ≠ row) : w'.ownsRow B E sz v n xs := by
  refine ⟨h.1, ?_⟩
  rcases h.2 with h0 | ⟨g, cap, cur, rfl, a, hh, b⟩
  · exact .inl h0
  · exact .inr ⟨g, cap, cur, rfl, a, (hg.block g (Array.getElem?_eq_some_iff.1 hh).1 (hne g (by simp [Value.ownBlock]))).trans hh, b⟩
section
variable {w wr w' : World} {H : Nat} {s : ByteArray} {pos pos' L : Nat} {v : Value} {S : List Nat}
theorem Wd.hle (h : Wd w H s pos L v S wr) : H ≤ wr.heap.size := by have := h.sz; omega
theorem Wd.next (h : Wd w H s pos L v S wr) (hi : w'.heap[H + 1]? = some (.stringIter s pos')) (hg : wr.grownBy w' (some (H + 1))) : Wd w H s pos' L v S w' := by
  obtain ⟨xs, h1, h2⟩ := h.tab
  refine ⟨hi, ⟨xs, owns_kept h1 hg (fun g hg' e => ?_), h2⟩, h.bel.trans (grown_below hg (by omega) h.hle), Nat.lt_of_lt_of_le h.sz hg.size⟩
  obtain ⟨_, cur, hc⟩ := owns_block h1 g hg'
  injection e with e
  subst e
  rw [h.it] at hc
  cases hc
theorem Wd.alloc (h : Wd w H s pos L v S wr) (o : Obj) : Wd w H s pos L v S (wr.alloc o) := by
  obtain ⟨xs, h1, h2⟩ := h.tab
  exact ⟨(Below.heap_alloc wr o _ h.sz).trans h.it, ⟨xs, owns_kept h1 (World.grownBy_alloc wr o none) (fun g _ => by simp), h2⟩, h.bel.alloc h.hle o, by simpa using Nat.lt_of_lt_of_le h.sz (Nat.le_succ _)⟩
theorem Wd.grown5 (h : Wd w H s pos L v S wr) {v5 : Value} {cs : List Int} (ho : Own wr H 21 .i32 v5 cs) (hg : wr.grownBy w' v5.ownBlock) : Wd w H s pos L v S w' := by
  obtain ⟨xs, h1, h2⟩ := h.tab
  have hkey : ∀ g, v5.ownBlock = some g → H ≤ g ∧ ∃ cur, wr.heap[g]? = some (.cells cur 21 (0, 0)) := owns_block ho
  refine ⟨?_, ⟨xs, owns_kept h1 hg (fun g hg' e => ?_), h2⟩, h.bel.trans ⟨hg.os, hg.tape, hg.output, hg.size, fun i hi => hg.block i (Nat.lt_of_lt_of_le hi h.hle) (fun e => by have := (hkey i e.symm).1; omega)⟩, Nat.lt_of_lt_of_le h.sz hg.size⟩
  · refine (hg.block (H + 1) h.sz (fun e => ?_)).trans h.it
    obtain ⟨_, cur, hc⟩ := hkey _ e.symm
    rw [h.it] at hc
    cases hc
  · obtain ⟨_, cur, hc⟩ := owns_block h1 g hg'
    obtain ⟨_, cur', hc'⟩ := hkey g e.symm
    rw [hc] at hc'
    cases hc'
theorem Wd.app (h : Wd w H s pos L v S wr) {v' : Value} {xs news : List Value} {st : Nat} (h1 : wr.ownsRow H 38 3 v L xs) (h2 : ∀ l, l < L → xs[l * 3 + 2]? = some (.int .i32 ((S.getD l 0 : Nat) : Int)))
    (ho : w'.ownsRow H 38 3 v' (L + 1) (xs ++ news)) (hg : wr.grownBy w' v.ownBlock) (hl : news.length = 3) (hn : news[2]? = some (.int .i32 (st : Int))) (hS : S.length = L) : Wd w H s pos (L + 1) v' (S ++ [st]) w' := by
  have hxl : xs.length = L * 3 := h1.1
  have hkey := owns_block h1
  refine ⟨?_, ⟨_, ho, fun l hl' => ?_⟩, h.bel.trans ⟨hg.os, hg.tape, hg.output, hg.size, fun i hi => hg.block i (Nat.lt_of_lt_of_le hi h.hle) (fun e => by have := (hkey i e.symm).1; omega)⟩, Nat.lt_of_lt_of_le h.sz hg.size⟩
  · refine (hg.block (H + 1) h.sz (fun e => ?_)).trans h.it
    obtain ⟨_, cur, hc⟩ := hkey _ e.symm
    rw [h.it] at hc
    cases hc
  · by_cases e : l < L
    · rw [List.getElem?_append_left (by omega), h2 l e]
      simp [List.getD, List.getElem?_append_left, hS, e]
    · obtain rfl : l = L := by omega
      rw [List.getElem?_append_right (by omega), hxl, show l * 3 + 2 - l * 3 = 2 by omega, hn]
      simp [List.getD, ← hS]
theorem own_kept38 {v5 : Value} {cs : List Int} {xs : List Value} (ho : Own wr H 21 .i32 v5 cs) (h1 : wr.ownsRow H 38 3 v L xs) (hg : wr.grownBy w' v.ownBlock) : Own w' H 21 .i32 v5 cs := by
  refine owns_kept ho hg (fun g hg' e => ?_)
  obtain ⟨_, cur, hc⟩ := owns_block ho g hg'
  obtain ⟨_, cur', hc'⟩ := owns_block h1 g e.symm
  rw [hc] at hc'
  cases hc'
theorem own_kept_it {v5 : Value} {cs : List Int} (ho : Own wr H 21 .i32 v5 cs) (h : Wd w H s pos L v S wr) (hg : wr.grownBy w' (some (H + 1))) : Own w' H 21 .i32 v5 cs := by
  refine owns_kept ho hg (fun g hg' e => ?_)
  obtain ⟨_, cur, hc⟩ := owns_block ho g hg'
  injection e with e
  subst e
  rw [h.it] at hc
  cases hc
end
section
variable {P : Program} (w : World)
/-- append(v, z): as wpList_push, with what became of every other block. -/
theorem wpList_push_g {ops : Array Oper} {rest : List Oper} {o : Oper} {a : Act} {Q : Exit → Act → World → Prop} (hgd : o.guard = none) (sl x : Operand) (t : TypeId)
    (ho : o.op = .call { callee := .builtin .append, args := #[sl, x], argTypes := #[t, t] })
    (B : Nat) (E : TypeId) (k : IntKind) (bytes : Nat) (ht : P.underlying t = some (.slice E)) (hinfo : (P.info? E).map (fun i => (i.zero, i.size, i.bytes)) = some (some (.int k 0), 1, bytes)) (hby : bytes ≤ 8)
    (v : Value) (zs : List Int) (hs : a.eval sl = v) (hown : Own w B E k v zs) (g : Nat) (z : Int) (hx : a.eval x = .slice (some ⟨g, 0, none⟩) 1 1) (hcell : w.cell? ⟨g, 0, none⟩ = some (.int k z))
    (hlen : zs.length ≤ 1000000000) (hB : B ≤ w.heap.size)
    (h : ∀ b c w', Own w' B E k (.slice (some ⟨b, 0, none⟩) (zs.length + 1) c) (zs ++ [z]) → w.grownBy w' v.ownBlock → wpList P ops Q rest (a.put o.dst (.slice (some ⟨b, 0, none⟩) (zs.length + 1) c)) w') : wpList P ops Q (o :: rest) a w := by
  obtain ⟨i, hi, hzz⟩ := Option.map_eq_some_iff.1 hinfo
  simp only [Prod.mk.injEq] at hzz
  obtain ⟨hz, hsz, hb⟩ := hzz
  refine wpList_append_own w hgd sl x t ho B E i (.int k 0) 1 bytes ht hi hz hsz hb rfl (by decide) v zs.length (iv k zs) hs hown ⟨g, 0, none⟩ 1 1 [.int k z] hx rfl ?_ (by simp [Value.oneCell']) (by unfold maxLen; omega) ?_ hB ?_
  · intro j u hu
    cases j with
    | zero => simp at hu; subst hu; simpa [Addr.add] using hcell
    | succ j => simp at hu
  · have : (zs.length + 1) * bytes ≤ (zs.length + 1) * 8 := Nat.mul_le_mul_left _ hby
    omega
  · intro v' w' h2 h3 _
    have h2' : Own w' B E k v' (zs ++ [z]) := by
      unfold Own
      rw [List.length_append, show iv k (zs ++ [z]) = iv k zs ++ [.int k z] by simp [iv]]
      exact h2
    rcases h2.2 with ⟨_, h0⟩ | ⟨g', cap, cur, rfl, _⟩
    · omega
    · exact h _ _ w' h2' h3
end
theorem asc {s : ByteArray} {i : Nat} (h : i < s.size) (hr : ru s i ≤ 127) : wd s i = 1 ∧ un s i = 1 := by
  unfold ru at hr
  have hb : by_ s i < 128 := by
    rcases Nat.lt_or_ge (by_ s i) 128 with h' | h'
    · exact h'
    · have := (decode_high s i h (by rw [← by_at s i h]; exact h')).1
      omega
  unfold wd un ru
  rw [dec1 s i hb]
  exact ⟨rfl, if_pos (show by_ s i ≤ 65535 by omega)⟩
/-- The starts of the lines so far, and of the one that is open. -/
structure Srt (S : List Nat) (L T : Nat) : Prop where
  len : S.length = L
  up : ∀ l, l + 1 < L → S.getD l 0 < S.getD (l + 1) 0
  lt : ∀ l, l < L → S.getD l 0 < T
  zero : 0 < L → S.getD 0 0 = 0
  none : L = 0 → T = 0
theorem Srt.add {S : List Nat} {L T T' : Nat} (h : Srt S L T) (hT : T < T') : Srt (S ++ [T]) (L + 1) T' := by
  have hg : ∀ l, l < L → (S ++ [T]).getD l 0 = S.getD l 0 := fun l hl => by
    simp [List.getD, List.getElem?_append_left, h.len, hl]
  have hlast : (S ++ [T]).getD L 0 = T := by simp [List.getD, ← h.len]
  refine ⟨by simp [h.len], fun l hl => ?_, fun l hl => ?_, fun _ => ?_, fun h => by omega⟩
  · by_cases e : l + 1 < L
    · rw [hg l (by omega), hg (l + 1) e]; exact h.up l e
    · obtain rfl : L = l + 1 := by omega
      rw [hg l (by omega), hlast]; exact h.lt l (by omega)
  · by_cases e : l < L
    · rw [hg l e]; have := h.lt l e; omega
    · obtain rfl : l = L := by omega
      rw [hlast]; exact hT
  · by_cases e : 0 < L
    · rw [hg 0 e]; exact h.zero e
    · obtain rfl : L = 0 := by omega
      rw [hlast]; exact h.none rfl
end Go.Proofs.Ytdajemigdciphaa.LoA
