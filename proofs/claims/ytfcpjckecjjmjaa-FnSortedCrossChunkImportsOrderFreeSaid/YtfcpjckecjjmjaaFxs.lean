/- A frame with exceptions: blocks that were there and are not among P are as they were. -/
import Derived.Test.YtfcpjckecjjmjaaFvs
namespace Go.Proofs.Ytfcpjckecjjmjaa.Fxs
open Go.RowKit Mem Sl Args Fvs
set_option linter.unusedVariables false
structure Fx (P : Nat → Prop) (w w' : World) : Prop where
  os : w'.os = w.os
  tape : w'.tape = w.tape
  output : w'.output = w.output
  size : w.heap.size ≤ w'.heap.size
  block : ∀ j, j < w.heap.size → ¬ P j → w'.heap[j]? = w.heap[j]?

variable {P Q : Nat → Prop} {w w' w'' : World}
theorem Fx.refl (P : Nat → Prop) (w : World) : Fx P w w := ⟨rfl, rfl, rfl, Nat.le_refl _, fun _ _ _ => rfl⟩
theorem Fx.trans (h : Fx P w w') (k : Fx P w' w'') : Fx P w w'' := ⟨k.os.trans h.os, k.tape.trans h.tape, k.output.trans h.output, Nat.le_trans h.size k.size, fun j hj hp => (k.block j (Nat.lt_of_lt_of_le hj h.size) hp).trans (h.block j hj hp)⟩
theorem Fx.wider (h : Fx P w w') (hq : ∀ j, P j → Q j) : Fx Q w w' := ⟨h.os, h.tape, h.output, h.size, fun j hj hp => h.block j hj (fun hh => hp (hq j hh))⟩
theorem Fx.of_below (h : Below w.heap.size w w') : Fx P w w' := ⟨h.os, h.tape, h.output, h.size, fun j hj _ => h.block j hj⟩
theorem Fx.below (h : Fx P w w') {B : Nat} (hB : B ≤ w.heap.size) (hP : ∀ j, P j → B ≤ j) : Below B w w' := ⟨h.os, h.tape, h.output, h.size, fun j hj => h.block j (Nat.lt_of_lt_of_le hj hB) (fun hp => by have := hP j hp; omega)⟩
theorem Fx.setCell (h : Fx P w w') {p : Addr} (hp : P p.block) (u : Value) : Fx P w (w'.setCell p u) :=
  ⟨h.os, h.tape, h.output, by simpa using h.size, fun j hj hn => (Below.heap_setCell w' p u j (fun e => hn (by rw [e]; exact hp))).trans (h.block j hj hn)⟩
theorem Fx.alloc (h : Fx P w w') (o : Obj) : Fx P w (w'.alloc o) :=
  ⟨h.os, h.tape, h.output, by simp; exact Nat.le_succ_of_le h.size, fun j hj hn => (Below.heap_alloc w' o j (Nat.lt_of_lt_of_le hj h.size)).trans (h.block j hj hn)⟩
theorem Fx.put (h : Fx P w w') (g o : Nat) (u : Value) (hp : P g) : Fx P w (w'.setCell ⟨g, o, none⟩ u) := h.setCell (p := ⟨g, o, none⟩) hp u
theorem Fx.cell (h : Fx P w w') {g o : Nat} (hg : g < w.heap.size) (hp : ¬ P g) : w'.cell? ⟨g, o, none⟩ = w.cell? ⟨g, o, none⟩ := World.cell?_of_block (a := ⟨g, o, none⟩) (h.block g hg hp)
theorem Fx.frozen (h : Fx P w w') {g o : Nat} (hg : g < w.heap.size) (hp : ¬ P g) : w'.frozen? ⟨g, o, none⟩ = w.frozen? ⟨g, o, none⟩ := by simp [World.frozen?, h.block g hg hp]
end Go.Proofs.Ytfcpjckecjjmjaa.Fxs
