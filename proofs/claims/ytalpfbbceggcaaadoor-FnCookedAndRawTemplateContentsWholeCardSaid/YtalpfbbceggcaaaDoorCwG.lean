/- FnCookedAndRawTemplateContentsWhole: bytes appended. -/
import Derived.Test.YtalpfbbceggcaaaDoorCwH
import Derived.Test.YtalpfbbceggcaaaDoorOwn
import Derived.Test.YtalpfbbceggcaaaDoorOwg
import Derived.Great.BuildSlice
import Derived.WalkKit
import Derived.ProofKit
import Derived.OpenShut
import Derived.Below
import Derived.WalkLawsBesides
import Derived.Lib.Hide
import Derived.Outline
import Derived.RegionTactic
import Derived.Deep.QuietTactic
import Derived.BigQuiet
import Derived.WalkSpells
import Derived.Deep.OwnRows
import Derived.IntWalk
import Derived.Deep.DeepMust
namespace Go.Proofs.YtalpfbbceggcaaaDoor.CwG
open Go.RowKit Mem Args Own CwP CwH
set_option linter.unusedVariables false

/-- v has grown to v': no other block was written; v' lies where v lay or is new. -/
structure Gr (w w' : World) (v v' : Value) : Prop where
  os : w'.os = w.os
  tape : w'.tape = w.tape
  output : w'.output = w.output
  size : w.heap.size ≤ w'.heap.size
  block : ∀ j, j < w.heap.size → v.ownBlock ≠ some j → w'.heap[j]? = w.heap[j]?
  at_ : v'.ownBlock = v.ownBlock ∨ ∃ g, v'.ownBlock = some g ∧ w.heap.size ≤ g
theorem Gr.refl (w : World) (v : Value) : Gr w w v v := ⟨rfl, rfl, rfl, Nat.le_refl _, fun _ _ _ => rfl, .inl rfl⟩
theorem Gr.trans {a b c : World} {u v x : Value} (h : Gr a b u v) (k : Gr b c v x) : Gr a c u x := by
  refine ⟨k.os.trans h.os, k.tape.trans h.tape, k.output.trans h.output, Nat.le_trans h.size k.size, fun j hj hu => ?_, ?_⟩
  · refine (k.block j (Nat.lt_of_lt_of_le hj h.size) (fun e => ?_)).trans (h.block j hj hu)
    rcases h.at_ with e' | ⟨g, e', hg⟩
    · exact hu (e'.symm.trans e)
    · rw [e'] at e; injection e with e; omega
  · rcases k.at_ with e | ⟨g, e, hg⟩
    · rcases h.at_ with e' | ⟨g, e', hg⟩
      · exact .inl (e.trans e')
      · exact .inr ⟨g, e.trans e', hg⟩
    · exact .inr ⟨g, e, Nat.le_trans h.size hg⟩
theorem Gr.below {w w' : World} {v v' : Value} {B : Nat} (h : Gr w w' v v') (hB : B ≤ w.heap.size) (hv : ∀ g, v.ownBlock = some g → B ≤ g) : Below B w w' :=
  ⟨h.os, h.tape, h.output, h.size, fun j hj => h.block j (by omega) (fun e => by have := hv j e; omega)⟩
theorem Gr.other {w w' : World} {v v' x : Value} {B : Nat} {zs : List Int} (h : Gr w w' v v') (ho : Own w B 5 .u8 x zs) (hd : x.ownBlock = none ∨ v.ownBlock ≠ x.ownBlock) : Own w' B 5 .u8 x zs ∧ (x.ownBlock = none ∨ v'.ownBlock ≠ x.ownBlock) := by
  have hlt := ho.lt
  refine ⟨⟨ho.1, ?_⟩, ?_⟩
  · rcases ho.2 with h0 | ⟨g, cap, cur, rfl, a, hh, r⟩
    · exact .inl h0
    · refine .inr ⟨g, cap, cur, rfl, a, (h.block g (Array.getElem?_eq_some_iff.1 hh).1 (fun e => ?_)).trans hh, r⟩
      rcases hd with e' | e'
      · cases e'
      · exact e' e
  · rcases hd with e' | e'
    · exact .inl e'
    · rcases h.at_ with e | ⟨g, e, hg⟩
      · exact .inr (by rw [e]; exact e')
      · exact .inr (fun e2 => by rw [e] at e2; have := (hlt g e2.symm).2; omega)
theorem info5 : (Tryd.prog.info? 5).map (fun i => (i.zero, i.size, i.bytes)) = some (some (.int .u8 0), 1, 1) := by kernel_rfl
/-- append(v, ys...) of bytes that lie in a block just made. -/
theorem wpList_app (w : World) {ops : Array Oper} {rest : List Oper} {o : Oper} {a : Act} {Q : Exit → Act → World → Prop} (hgd : o.guard = none) (s x : Operand)
    (ho : o.op = .call { callee := .builtin .append, args := #[s, x], argTypes := #[23, 23] }) (B : Nat) (v : Value) (zs : List Int) (hs : a.eval s = v) (hown : Own w B 5 .u8 v zs) (ys : List Int) (m : Nat)
    (hx : a.eval x = .slice (some ⟨w.heap.size, 0, none⟩) m m) (hm : ys.length = m) (hlen : zs.length + m ≤ 1000000000) (hB : B ≤ w.heap.size)
    (h : ∀ A' n' c' w', Own w' B 5 .u8 (.slice A' n' c') (zs ++ ys) → Gr w w' v (.slice A' n' c') → wpList Tryd.prog ops Q rest (a.put o.dst (.slice A' n' c')) w') : wpList Tryd.prog ops Q (o :: rest) a (w.alloc (.cells (iv .u8 ys).toArray 5)) := by
  have hrow := Row.newArr w 5 (iv .u8 ys).toArray
  refine Owg.wpList_own_g (w.alloc (.cells (iv .u8 ys).toArray 5)) hgd s x 23 ho B 5 .u8 1 Tryd.underlying23 info5 (by decide) v zs hs (hown.alloc _) w.heap.size 0 m m ys hx hm (fun i hi => ?_) hlen (by simp; omega) (fun A' n' c' w' h1 h2 h3 => h A' n' c' w' h1 ⟨h2.os, h2.tape, h2.output, Nat.le_trans (by simp) h2.size, fun j hj hv => (h2.block j (by simp; omega) (fun e => hv e.symm)).trans (Below.heap_alloc w _ j hj), ?_⟩)
  · rw [Nat.zero_add]
    exact hrow.at_ (iv_at .u8 ys i (by omega))
  · rcases h3 with e | e
    · exact .inl e
    · exact .inr ⟨_, e, by simp⟩
/-- What an append of ys is. -/
def Ap (B : Nat) (w : World) (v : Value) (zs ys : List Int) (e : Ending) (w' : World) : Prop := ∃ A n c, e = .returned (.slice A n c) ∧ Own w' B 5 .u8 (.slice A n c) (zs ++ ys) ∧ Gr w w' v (.slice A n c)
end Go.Proofs.YtalpfbbceggcaaaDoor.CwG
