/- FnComesBeforeIsLexicographic: the law's walk. -/
import Derived.Test.YtdifphanmemmlabRows
import Derived.Test.YtdifphanmemmlabBitsP
import Derived.WalkKit
import Derived.ProofKit
import Derived.OpenShut
import Derived.Below
import Derived.WalkLawsBesides
import Derived.Lib.Hide
import Derived.Outline
import Derived.RegionTactic
import Derived.Deep.QuietTactic
import Derived.BigQuiet
namespace Go.Proofs.Ytdifphanmemmlab.Comes
open Go.RowKit BitsP
set_option linter.unusedVariables false in
set_option maxHeartbeats 2000000 in
theorem law (a0 : Int) (a1 : Int) (a2 : Int) (a3 : Int) (w : World) (w0 : (Lit.int .i64 a0).wf = true) (w1 : (Lit.int .i64 a1).wf = true) (w2 : (Lit.int .i64 a2).wf = true) (w3 : (Lit.int .i64 a3).wf = true) :
    Calls Try.prog 6 #[.int .i64 a0, .int .i64 a1, .int .i64 a2, .int .i64 a3] w fun e w' => e = .returned (.bool true) ∧ Below w.heap.size w w' := by
  clear w0 w1 w2 w3
  rcases Int.lt_trichotomy a0 a2 with h | h | h
  · have _t := h
    have d1 : (a0 == a2) = false := by simp; omega
    have d2 : (a0 != a2) = true := by simp; omega
    have d3 : decide (a0 < a2) = true := by simp; omega
    have d4 : decide (a2 < a0) = false := by simp; omega
    have d5 : (a2 == a0) = false := by simp; omega
    go_enter Try.func6, Try.ntmps6
    go_wp2
    go_ret
    exact ⟨rfl, by repeat (first | exact Below.refl _ _ | apply Below.drew | (refine Below.alloc ?_ (by simp <;> omega) _))⟩
  · subst h
    have e1 : (a0 == a0) = true := by simp
    have e2 : (a0 != a0) = false := by simp
    have e3 : decide (a0 < a0) = false := by simp
    rcases Int.lt_trichotomy a1 a3 with h | h | h
    · have _t := h
      have g1 : (a1 == a3) = false := by simp; omega
      have g2 : (a1 != a3) = true := by simp; omega
      have g3 : decide (a1 < a3) = true := by simp; omega
      have g4 : decide (a3 < a1) = false := by simp; omega
      have g5 : (a3 == a1) = false := by simp; omega
      go_enter Try.func6, Try.ntmps6
      go_wp2
      go_ret
      exact ⟨rfl, by repeat (first | exact Below.refl _ _ | apply Below.drew | (refine Below.alloc ?_ (by simp <;> omega) _))⟩
    · subst h
      have g1 : (a1 == a1) = true := by simp
      have g2 : (a1 != a1) = false := by simp
      have g3 : decide (a1 < a1) = false := by simp
      go_enter Try.func6, Try.ntmps6
      go_wp2
      go_ret
      exact ⟨rfl, by repeat (first | exact Below.refl _ _ | apply Below.drew | (refine Below.alloc ?_ (by simp <;> omega) _))⟩
    · have _t := h
      have g1 : (a1 == a3) = false := by simp; omega
      have g2 : (a1 != a3) = true := by simp; omega
      have g3 : decide (a1 < a3) = false := by simp; omega
      have g4 : decide (a3 < a1) = true := by simp; omega
      have g5 : (a3 == a1) = false := by simp; omega
      go_enter Try.func6, Try.ntmps6
      go_wp2
      go_ret
      exact ⟨rfl, by repeat (first | exact Below.refl _ _ | apply Below.drew | (refine Below.alloc ?_ (by simp <;> omega) _))⟩
  · have _t := h
    have d1 : (a0 == a2) = false := by simp; omega
    have d2 : (a0 != a2) = true := by simp; omega
    have d3 : decide (a0 < a2) = false := by simp; omega
    have d4 : decide (a2 < a0) = true := by simp; omega
    have d5 : (a2 == a0) = false := by simp; omega
    go_enter Try.func6, Try.ntmps6
    go_wp2
    go_ret
    exact ⟨rfl, by repeat (first | exact Below.refl _ _ | apply Below.drew | (refine Below.alloc ?_ (by simp <;> omega) _))⟩
end Go.Proofs.Ytdifphanmemmlab.Comes
