/- printSpaceBeforeOperator. -/
import Derived.Test.YtjgomgagaolhgaaRows
import Derived.Test.YtjgomgagaolhgaaMem
import Derived.Test.YtjgomgagaolhgaaSl
import Derived.Test.YtjgomgagaolhgaaPrint
import Derived.WalkKit
import Derived.ProofKit
import Derived.OpenShut
import Derived.Below
import Derived.WalkLawsBesides
import Derived.Lib.Hide
import Derived.Outline
import Derived.RegionTactic
import Derived.Deep.QuietTactic
import Derived.BigQuiet
import Derived.WalkSpells
import Derived.Deep.OwnRows
import Derived.IntWalk
import Derived.Deep.DeepMust
namespace Go.Proofs.Ytjgomgagaolhgaa.Space
open Go.RowKit Mem Sl
set_option linter.unusedVariables false
open Prn

/-- The printer's fields that are read. -/
structure Fl (cs : List Value) (pend prev : Int) : Prop where
  c65 : cs[65]? = some (.int .i64 pend)
  c137 : cs[137]? = some (.int .u8 prev)
theorem Fl.set_ {cs : List Value} {a b : Int} (h : Fl cs a b) (v : Value) : Fl (cs.set 9 v) a b :=
  ⟨by rw [List.getElem?_set_ne (by decide)]; exact h.c65, by rw [List.getElem?_set_ne (by decide)]; exact h.c137⟩
def Out (w : World) (p : Nat) (cs : List Value) (v : Value) (zs : List Int) (b : Bool) (e : Ending) (w' : World) : Prop :=
  e = .returned (.tuple #[]) ∧ ((b = true ∧ Printed w p 100 9 5 cs v (zs ++ [32]) w') ∨ (b = false ∧ ∃ q, w' = w.drewN q))
theorem nums1 : nums ⟨#[32]⟩ = [32] := by decide
set_option maxRecDepth 100000 in
theorem away (p : Nat) (cs : List Value) (v : Value) (zs : List Int) (pend prev nx : Int) (w : World) (h : Pr w p 100 9 5 cs v zs) (hf : Fl cs pend prev) (hn : zs.length ≤ 1048577) (hne : pend ≠ zs.length) :
    Calls Try.prog 42 #[.pointer (some ⟨p, 0, none⟩), .int .u8 nx] w (Out w p cs v zs false) := by
  obtain ⟨A, c, hv⟩ := h.buf.form
  subst hv
  have c1 := h.row.at_ h.at_
  have c2 := h.row.at_ hf.c65
  generalize zs.length = n at *
  have e1 : (pend == (n : Int)) = false := by simp [hne]
  clear h hf hne
  go_enter Try.func42, Try.ntmps42
  go_wp2
  go_quiet (fail)
  go_wp2
  go_end0
  exact ⟨rfl, .inr ⟨rfl, nq, rfl⟩⟩

end Go.Proofs.Ytjgomgagaolhgaa.Space
