/- How the scanned graph lies in memory, and what keeps it. -/
import Derived.Test.YtbcplamfejihjaaGreatTlA
import Derived.Test.YtbcplamfejihjaaGreatTlP
namespace Go.Proofs.YtbcplamfejihjaaGreat.TlD
open Go.RowKit Mem Sl Args Fvs TlA TlP
set_option linter.unusedVariables false
/-- The cells of an import record. -/
def REC (x k : Int) : List Value := [.pointer none, .pointer none, .string ByteArray.empty, .string ByteArray.empty, .string ByteArray.empty, .string ByteArray.empty, .int .u8 0, .int .i32 0, .int .i32 0, .int .i32 0, .int .u32 x, .int .u32 0, .int .u16 0, .int .u8 0, .int .u8 k]
/-- The graph: the scanner's block, the results' block, the modules, their records. -/
structure Sh where
  S : Nat
  R : Nat
  n : Nat
  ok : Nat → Bool
  tla : Nat → Bool
  ri : Nat → Nat
  ra : Nat → Option Addr
  rl : Nat → Nat
  rc : Nat → Nat
  rx : Nat → Nat → Int
  rk : Nat → Nat → Int
/-- Plain facts of the graph. -/
structure Fine (g : Sh) : Prop where
  n : g.n ≤ 256
  rl : ∀ i, i < g.n → g.rl i ≤ 4096
  rx : ∀ i, i < g.n → ∀ j, j < g.rl i → ∃ t : Nat, t < g.n ∧ g.rx i j = 4294967295 - (t : Int)
  rk : ∀ i, i < g.n → ∀ j, j < g.rl i → 1 ≤ g.rk i j ∧ g.rk i j ≤ 3
structure Gr (g : Sh) (B : Nat) (w : World) : Prop where
  sc : w.cell? ⟨g.S, 11, none⟩ = some (.slice (some ⟨g.R, 0, none⟩) g.n g.n)
  sB : g.S < B ∧ g.S ≠ g.R
  okc : ∀ i, i < g.n → w.cell? ⟨g.R, i * 27 + 26, none⟩ = some (.bool (g.ok i))
  rp : ∀ i, i < g.n → w.cell? ⟨g.R, i * 27 + 4, none⟩ = some (.iface 64 (.pointer (some ⟨g.ri i, 0, none⟩)))
  rb : ∀ i, i < g.n → g.ri i < B ∧ g.ri i ≠ g.R
  ln : ∀ i, i < g.n → w.cell? ⟨g.ri i, 47, none⟩ = some (.int .i32 (if g.tla i = true then 5 else 0))
  rs : ∀ i, i < g.n → w.cell? ⟨g.ri i, 35, none⟩ = some (.slice (g.ra i) (g.rl i) (g.rc i))
  recs : ∀ i, i < g.n → ∀ j, j < g.rl i → ∃ b o, g.ra i = some ⟨b, o, none⟩ ∧ b < B ∧ b ≠ g.R ∧ ∀ c v, (REC (g.rx i j) (g.rk i j))[c]? = some v → w.cell? ⟨b, o + j * 15 + c, none⟩ = some v
  R : g.R < B
structure Rp (g : Sh) (B d : Nat) (st : Nat → Q) (dc : Bool) (w : World) : Prop where
  gr : Gr g B w
  c22 : ∀ i, i < g.n → w.cell? ⟨g.R, i * 27 + 22, none⟩ = some (.int .u32 (st i).par)
  c23 : ∀ i, i < g.n → w.cell? ⟨g.R, i * 27 + 23, none⟩ = some (.int .u32 (st i).dep)
  c24 : ∀ i, i < g.n → w.cell? ⟨g.R, i * 27 + 24, none⟩ = some (.int .u32 (st i).pas)
  c25 : ∀ i, i < g.n → w.cell? ⟨g.R, i * 27 + 25, none⟩ = some (.int .u32 (st i).iri)
  fr : ∀ o, w.frozen? ⟨g.R, o, none⟩ = false
  dc : w.cell? ⟨d, 0, none⟩ = some (.bool dc)
  df : w.frozen? ⟨d, 0, none⟩ = false
  dB : B ≤ d ∧ d < w.heap.size
/-- What a visit may change: the results, the mark, what is new. -/
structure Fm (R d : Nat) (w w' : World) : Prop where
  os : w'.os = w.os
  tape : w'.tape = w.tape
  output : w'.output = w.output
  size : w.heap.size ≤ w'.heap.size
  block : ∀ k, k < w.heap.size → k ≠ R → k ≠ d → w'.heap[k]? = w.heap[k]?
section
variable {R d : Nat} {w w' w'' : World}
theorem Fm.refl (R d : Nat) (w : World) : Fm R d w w := ⟨rfl, rfl, rfl, Nat.le_refl _, fun _ _ _ _ => rfl⟩
theorem Fm.trans (h : Fm R d w w') (k : Fm R d w' w'') : Fm R d w w'' :=
  ⟨k.os.trans h.os, k.tape.trans h.tape, k.output.trans h.output, Nat.le_trans h.size k.size, fun i hi h1 h2 => (k.block i (Nat.lt_of_lt_of_le hi h.size) h1 h2).trans (h.block i hi h1 h2)⟩
theorem Fm.below (h : Below w.heap.size w w') : Fm R d w w' := ⟨h.os, h.tape, h.output, h.size, fun k hk _ _ => h.block k hk⟩
theorem Fm.setR (w : World) (o : Nat) (u : Value) : Fm R d w (w.setCell ⟨R, o, none⟩ u) := ⟨rfl, rfl, rfl, by simp, fun k _ h _ => Below.heap_setCell w ⟨R, o, none⟩ u k h⟩
theorem Fm.setd (w : World) (o : Nat) (u : Value) : Fm R d w (w.setCell ⟨d, o, none⟩ u) := ⟨rfl, rfl, rfl, by simp, fun k _ _ h => Below.heap_setCell w ⟨d, o, none⟩ u k h⟩
theorem Fm.setNew (h : Fm R d w w') {p : Addr} (hp : w.heap.size ≤ p.block) (u : Value) : Fm R d w (w'.setCell p u) :=
  ⟨h.os, h.tape, h.output, by simpa using h.size, fun k hk h1 h2 => (Below.heap_setCell w' p u k (by omega)).trans (h.block k hk h1 h2)⟩
theorem Fm.cell (h : Fm R d w w') {p : Addr} (hp : p.block < w.heap.size) (h1 : p.block ≠ R) (h2 : p.block ≠ d) : w'.cell? p = w.cell? p := World.cell?_of_block (w := w) (h.block p.block hp h1 h2)
theorem Fm.frozen (h : Fm R d w w') {p : Addr} (hp : p.block < w.heap.size) (h1 : p.block ≠ R) (h2 : p.block ≠ d) : w'.frozen? p = w.frozen? p := World.frozen?_of_block (w := w) (h.block p.block hp h1 h2)
end
section
variable {g : Sh} {B d : Nat} {st : Nat → Q} {dc : Bool} {w w' : World}
/-- The graph is kept where the blocks below B but R, and R's own fixed cells, are. -/
theorem Gr.keep (h : Gr g B w) (hb : ∀ b o, b < B → b ≠ g.R → w'.cell? ⟨b, o, none⟩ = w.cell? ⟨b, o, none⟩) (h26 : ∀ i, i < g.n → w'.cell? ⟨g.R, i * 27 + 26, none⟩ = w.cell? ⟨g.R, i * 27 + 26, none⟩) (h4 : ∀ i, i < g.n → w'.cell? ⟨g.R, i * 27 + 4, none⟩ = w.cell? ⟨g.R, i * 27 + 4, none⟩) : Gr g B w' :=
  ⟨(hb _ _ h.sB.1 h.sB.2).trans h.sc, h.sB, fun i hi => (h26 i hi).trans (h.okc i hi), fun i hi => (h4 i hi).trans (h.rp i hi), h.rb, fun i hi => (hb _ _ (h.rb i hi).1 (h.rb i hi).2).trans (h.ln i hi), fun i hi => (hb _ _ (h.rb i hi).1 (h.rb i hi).2).trans (h.rs i hi),
    fun i hi j hj => (by
      obtain ⟨b, o, e, h1, h2, h3⟩ := h.recs i hi j hj
      exact ⟨b, o, e, h1, h2, fun c v hv => (hb _ _ h1 h2).trans (h3 c v hv)⟩), h.R⟩
theorem Rp.other (h : Rp g B d st dc w) (hc : ∀ b o, b < B ∨ b = d → w'.cell? ⟨b, o, none⟩ = w.cell? ⟨b, o, none⟩) (hf : ∀ b o, b < B ∨ b = d → w'.frozen? ⟨b, o, none⟩ = w.frozen? ⟨b, o, none⟩) (hs : w.heap.size ≤ w'.heap.size) : Rp g B d st dc w' :=
  have hR := h.gr.R
  ⟨h.gr.keep (fun b o hb _ => hc b o (.inl hb)) (fun i _ => hc _ _ (.inl hR)) (fun i _ => hc _ _ (.inl hR)), fun i hi => (hc _ _ (.inl hR)).trans (h.c22 i hi), fun i hi => (hc _ _ (.inl hR)).trans (h.c23 i hi), fun i hi => (hc _ _ (.inl hR)).trans (h.c24 i hi), fun i hi => (hc _ _ (.inl hR)).trans (h.c25 i hi),
    fun o => (hf _ _ (.inl hR)).trans (h.fr o), (hc _ _ (.inr rfl)).trans h.dc, (hf _ _ (.inr rfl)).trans h.df, ⟨h.dB.1, Nat.lt_of_lt_of_le h.dB.2 hs⟩⟩
theorem Rp.below (h : Rp g B d st dc w) (hb : Below w.heap.size w w') : Rp g B d st dc w' :=
  have hB := Nat.lt_of_le_of_lt h.dB.1 h.dB.2
  h.other (fun b o e => hb.cell (p := ⟨b, o, none⟩) (by rcases e with e | e <;> show b < _ <;> have := h.dB <;> omega)) (fun b o e => hb.frozen (p := ⟨b, o, none⟩) (by rcases e with e | e <;> show b < _ <;> have := h.dB <;> omega)) hb.size
theorem Rp.far (h : Rp g B d st dc w) {p : Addr} (h1 : B ≤ p.block) (h2 : p.block ≠ d) (u : Value) : Rp g B d st dc (w.setCell p u) :=
  h.other (fun b o e => World.cell?_of_block (a := ⟨b, o, none⟩) (Below.heap_setCell w p u b (by rcases e with e | e <;> omega))) (fun b o e => World.frozen?_of_block (a := ⟨b, o, none⟩) (Below.heap_setCell w p u b (by rcases e with e | e <;> omega))) (by simp)
theorem Rp.mark (h : Rp g B d st dc w) (x : Bool) : Rp g B d st x (w.setCell ⟨d, 0, none⟩ (.bool x)) := by
  have hc : ∀ b o, b < B → (w.setCell ⟨d, 0, none⟩ (.bool x)).cell? ⟨b, o, none⟩ = w.cell? ⟨b, o, none⟩ := fun b o hb => World.cell?_of_block (a := ⟨b, o, none⟩) (Below.heap_setCell w ⟨d, 0, none⟩ _ b (by show b ≠ d; have := h.dB; omega))
  have hR := h.gr.R
  exact ⟨h.gr.keep (fun b o hb _ => hc b o hb) (fun i _ => hc _ _ hR) (fun i _ => hc _ _ hR), fun i hi => (hc _ _ hR).trans (h.c22 i hi), fun i hi => (hc _ _ hR).trans (h.c23 i hi), fun i hi => (hc _ _ hR).trans (h.c24 i hi), fun i hi => (hc _ _ hR).trans (h.c25 i hi),
    fun o => frozen_set w _ _ o _ (h.fr o), cell_self _ (by rw [h.dc]; rfl), frozen_set w _ _ 0 _ h.df, ⟨h.dB.1, by simpa using h.dB.2⟩⟩
theorem cell_other {w : World} {b o o' : Nat} (u : Value) (h : o ≠ o') : (w.setCell ⟨b, o, none⟩ u).cell? ⟨b, o', none⟩ = w.cell? ⟨b, o', none⟩ :=
  World.cell?_setCell_other (h := fun e => h (by injection e)) ..
/-- A store into a module's row. -/
theorem Rp.row (h : Rp g B d st dc w) {s : Nat} (hs : s < g.n) (c : Nat) (hc : c = 22 ∨ c = 23 ∨ c = 24 ∨ c = 25) (x : Int) (q : Q) (h22 : q.par = if c = 22 then x else (st s).par) (h23 : q.dep = if c = 23 then x else (st s).dep) (h24 : q.pas = if c = 24 then x else (st s).pas) (h25 : q.iri = if c = 25 then x else (st s).iri) :
    Rp g B d (upd st s q) dc (w.setCell ⟨g.R, s * 27 + c, none⟩ (.int .u32 x)) := by
  have hR := h.gr.R
  have hdR : d ≠ g.R := by have := h.dB; omega
  have hb : ∀ b o, b ≠ g.R → (w.setCell ⟨g.R, s * 27 + c, none⟩ (.int .u32 x)).cell? ⟨b, o, none⟩ = w.cell? ⟨b, o, none⟩ := fun b o e => World.cell?_of_block (a := ⟨b, o, none⟩) (Below.heap_setCell w ⟨g.R, s * 27 + c, none⟩ _ b e)
  have ho : ∀ i c', c' < 27 → (i ≠ s ∨ c' ≠ c) → (w.setCell ⟨g.R, s * 27 + c, none⟩ (.int .u32 x)).cell? ⟨g.R, i * 27 + c', none⟩ = w.cell? ⟨g.R, i * 27 + c', none⟩ := fun i c' hc' hne => cell_other _ (by omega)
  have hself : ∀ v, w.cell? ⟨g.R, s * 27 + c, none⟩ = some v → (w.setCell ⟨g.R, s * 27 + c, none⟩ (.int .u32 x)).cell? ⟨g.R, s * 27 + c, none⟩ = some (.int .u32 x) := fun v hv => cell_self _ (by rw [hv]; rfl)
  have hget : ∀ c' (f : Q → Int), (c' = 22 ∨ c' = 23 ∨ c' = 24 ∨ c' = 25) → (f q = if c = c' then x else f (st s)) → (∀ i, i < g.n → w.cell? ⟨g.R, i * 27 + c', none⟩ = some (.int .u32 (f (st i)))) →
      ∀ i, i < g.n → (w.setCell ⟨g.R, s * 27 + c, none⟩ (.int .u32 x)).cell? ⟨g.R, i * 27 + c', none⟩ = some (.int .u32 (f (upd st s q i))) := by
    intro c' f hc' hq hcell i hi
    by_cases e : i = s
    · subst e
      rw [upd_self, hq]
      by_cases ec : c = c'
      · subst ec
        rw [if_pos rfl]
        exact hself _ (hcell i hi)
      · rw [if_neg ec, ho i c' (by omega) (.inr (Ne.symm ec))]
        exact hcell i hi
    · rw [upd_ne _ _ e, ho i c' (by omega) (.inl e)]
      exact hcell i hi
  exact ⟨h.gr.keep (fun b o _ e => hb b o e) (fun i _ => ho i 26 (by omega) (.inr (by omega))) (fun i _ => ho i 4 (by omega) (.inr (by omega))), hget 22 Q.par (by omega) h22 h.c22, hget 23 Q.dep (by omega) h23 h.c23, hget 24 Q.pas (by omega) h24 h.c24, hget 25 Q.iri (by omega) h25 h.c25,
    fun o => frozen_set w _ _ o _ (h.fr o), (hb _ _ hdR).trans h.dc, frozen_set w _ _ 0 _ h.df, ⟨h.dB.1, by simpa using h.dB.2⟩⟩
end
end Go.Proofs.YtbcplamfejihjaaGreat.TlD
