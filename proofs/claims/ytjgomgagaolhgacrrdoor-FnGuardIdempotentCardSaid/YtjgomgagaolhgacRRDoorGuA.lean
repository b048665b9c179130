/- Guarding an expression: the callees. -/
import Derived.Test.YtjgomgagaolhgacRRDoorRows
import Derived.Test.YtjgomgagaolhgacRRDoorMem
import Derived.Test.YtjgomgagaolhgacRRDoorSl
import Derived.WalkKit
import Derived.ProofKit
import Derived.OpenShut
import Derived.Below
import Derived.WalkLawsBesides
import Derived.Lib.Hide
import Derived.Outline
import Derived.RegionTactic
import Derived.Deep.QuietTactic
import Derived.BigQuiet
import Derived.WalkSpells
import Derived.Deep.OwnRows
import Derived.IntWalk
import Derived.Deep.DeepMust
namespace Go.Proofs.YtjgomgagaolhgacRRDoor.GuA
open Go.RowKit Mem Sl
set_option linter.unusedVariables false

/-- An expression: its node of dynamic type T in block q, its place. -/
def ev (T q : Nat) (loc : Int) : Value := .agg #[.iface T (.pointer (some ⟨q, 0, none⟩)), .int .i32 loc]
/-- What a maker of an expression leaves. -/
def Ex (T : Nat) (op loc : Int) (w : World) (e : Ending) (w' : World) : Prop :=
  ∃ q, e = .returned (ev T q loc) ∧ (T = 99 → w'.cell? ⟨q, 4, none⟩ = some (.int .u8 op)) ∧ q < w'.heap.size ∧ Below w.heap.size w w'
theorem ta95_95 (a : Addr) (w : World) : (Instr.typeAssert (.iface 95 (.pointer (some a))) 26 95 true).run Tryd.prog w = .ok (.tuple #[.pointer (some a), .bool true]) w := by kernel_rfl
theorem ta95_97 (a : Addr) (w : World) : (Instr.typeAssert (.iface 95 (.pointer (some a))) 26 97 true).run Tryd.prog w = .ok (.tuple #[.pointer none, .bool false]) w := by kernel_rfl
theorem ta95_99 (a : Addr) (w : World) : (Instr.typeAssert (.iface 95 (.pointer (some a))) 26 99 true).run Tryd.prog w = .ok (.tuple #[.pointer none, .bool false]) w := by kernel_rfl
theorem ta95_101 (a : Addr) (w : World) : (Instr.typeAssert (.iface 95 (.pointer (some a))) 26 101 true).run Tryd.prog w = .ok (.tuple #[.pointer none, .bool false]) w := by kernel_rfl
theorem ta95_103 (a : Addr) (w : World) : (Instr.typeAssert (.iface 95 (.pointer (some a))) 26 103 true).run Tryd.prog w = .ok (.tuple #[.pointer none, .bool false]) w := by kernel_rfl
theorem ta95_105 (a : Addr) (w : World) : (Instr.typeAssert (.iface 95 (.pointer (some a))) 26 105 true).run Tryd.prog w = .ok (.tuple #[.pointer none, .bool false]) w := by kernel_rfl
theorem ta95_107 (a : Addr) (w : World) : (Instr.typeAssert (.iface 95 (.pointer (some a))) 26 107 true).run Tryd.prog w = .ok (.tuple #[.pointer none, .bool false]) w := by kernel_rfl
theorem ta95_121 (a : Addr) (w : World) : (Instr.typeAssert (.iface 95 (.pointer (some a))) 26 121 true).run Tryd.prog w = .ok (.tuple #[.pointer none, .bool false]) w := by kernel_rfl
theorem ta99_95 (a : Addr) (w : World) : (Instr.typeAssert (.iface 99 (.pointer (some a))) 26 95 true).run Tryd.prog w = .ok (.tuple #[.pointer none, .bool false]) w := by kernel_rfl
theorem ta99_97 (a : Addr) (w : World) : (Instr.typeAssert (.iface 99 (.pointer (some a))) 26 97 true).run Tryd.prog w = .ok (.tuple #[.pointer none, .bool false]) w := by kernel_rfl
theorem ta99_99 (a : Addr) (w : World) : (Instr.typeAssert (.iface 99 (.pointer (some a))) 26 99 true).run Tryd.prog w = .ok (.tuple #[.pointer (some a), .bool true]) w := by kernel_rfl
theorem ta99_101 (a : Addr) (w : World) : (Instr.typeAssert (.iface 99 (.pointer (some a))) 26 101 true).run Tryd.prog w = .ok (.tuple #[.pointer none, .bool false]) w := by kernel_rfl
theorem ta99_103 (a : Addr) (w : World) : (Instr.typeAssert (.iface 99 (.pointer (some a))) 26 103 true).run Tryd.prog w = .ok (.tuple #[.pointer none, .bool false]) w := by kernel_rfl
theorem ta99_105 (a : Addr) (w : World) : (Instr.typeAssert (.iface 99 (.pointer (some a))) 26 105 true).run Tryd.prog w = .ok (.tuple #[.pointer none, .bool false]) w := by kernel_rfl
theorem ta99_107 (a : Addr) (w : World) : (Instr.typeAssert (.iface 99 (.pointer (some a))) 26 107 true).run Tryd.prog w = .ok (.tuple #[.pointer none, .bool false]) w := by kernel_rfl
theorem ta99_121 (a : Addr) (w : World) : (Instr.typeAssert (.iface 99 (.pointer (some a))) 26 121 true).run Tryd.prog w = .ok (.tuple #[.pointer none, .bool false]) w := by kernel_rfl
theorem ta103_95 (a : Addr) (w : World) : (Instr.typeAssert (.iface 103 (.pointer (some a))) 26 95 true).run Tryd.prog w = .ok (.tuple #[.pointer none, .bool false]) w := by kernel_rfl
theorem ta103_97 (a : Addr) (w : World) : (Instr.typeAssert (.iface 103 (.pointer (some a))) 26 97 true).run Tryd.prog w = .ok (.tuple #[.pointer none, .bool false]) w := by kernel_rfl
theorem ta103_99 (a : Addr) (w : World) : (Instr.typeAssert (.iface 103 (.pointer (some a))) 26 99 true).run Tryd.prog w = .ok (.tuple #[.pointer none, .bool false]) w := by kernel_rfl
theorem ta103_101 (a : Addr) (w : World) : (Instr.typeAssert (.iface 103 (.pointer (some a))) 26 101 true).run Tryd.prog w = .ok (.tuple #[.pointer none, .bool false]) w := by kernel_rfl
theorem ta103_103 (a : Addr) (w : World) : (Instr.typeAssert (.iface 103 (.pointer (some a))) 26 103 true).run Tryd.prog w = .ok (.tuple #[.pointer (some a), .bool true]) w := by kernel_rfl
theorem ta103_105 (a : Addr) (w : World) : (Instr.typeAssert (.iface 103 (.pointer (some a))) 26 105 true).run Tryd.prog w = .ok (.tuple #[.pointer none, .bool false]) w := by kernel_rfl
theorem ta103_107 (a : Addr) (w : World) : (Instr.typeAssert (.iface 103 (.pointer (some a))) 26 107 true).run Tryd.prog w = .ok (.tuple #[.pointer none, .bool false]) w := by kernel_rfl
theorem ta103_121 (a : Addr) (w : World) : (Instr.typeAssert (.iface 103 (.pointer (some a))) 26 121 true).run Tryd.prog w = .ok (.tuple #[.pointer none, .bool false]) w := by kernel_rfl
theorem ta105_95 (a : Addr) (w : World) : (Instr.typeAssert (.iface 105 (.pointer (some a))) 26 95 true).run Tryd.prog w = .ok (.tuple #[.pointer none, .bool false]) w := by kernel_rfl
theorem ta105_97 (a : Addr) (w : World) : (Instr.typeAssert (.iface 105 (.pointer (some a))) 26 97 true).run Tryd.prog w = .ok (.tuple #[.pointer none, .bool false]) w := by kernel_rfl
theorem ta105_99 (a : Addr) (w : World) : (Instr.typeAssert (.iface 105 (.pointer (some a))) 26 99 true).run Tryd.prog w = .ok (.tuple #[.pointer none, .bool false]) w := by kernel_rfl
theorem ta105_101 (a : Addr) (w : World) : (Instr.typeAssert (.iface 105 (.pointer (some a))) 26 101 true).run Tryd.prog w = .ok (.tuple #[.pointer none, .bool false]) w := by kernel_rfl
theorem ta105_103 (a : Addr) (w : World) : (Instr.typeAssert (.iface 105 (.pointer (some a))) 26 103 true).run Tryd.prog w = .ok (.tuple #[.pointer none, .bool false]) w := by kernel_rfl
theorem ta105_105 (a : Addr) (w : World) : (Instr.typeAssert (.iface 105 (.pointer (some a))) 26 105 true).run Tryd.prog w = .ok (.tuple #[.pointer (some a), .bool true]) w := by kernel_rfl
theorem ta105_107 (a : Addr) (w : World) : (Instr.typeAssert (.iface 105 (.pointer (some a))) 26 107 true).run Tryd.prog w = .ok (.tuple #[.pointer none, .bool false]) w := by kernel_rfl
theorem ta105_121 (a : Addr) (w : World) : (Instr.typeAssert (.iface 105 (.pointer (some a))) 26 121 true).run Tryd.prog w = .ok (.tuple #[.pointer none, .bool false]) w := by kernel_rfl
theorem as20_95 (q : Nat) (loc : Int) (w : World) : Calls Tryd.prog 20 #[ev 95 q loc] w fun e w' => e = .returned (.pointer (some ⟨q, 0, none⟩)) ∧ Below w.heap.size w w' := by
  have h := ta95_95 ⟨q, 0, none⟩
  unfold ev
  go_enter Tryd.func20, Tryd.ntmps20
  go_wp2
  go_ret
  exact ⟨rfl, (Below.refl _ _).alloc (Nat.le_refl _) _⟩
theorem as20_99 (q : Nat) (loc : Int) (w : World) : Calls Tryd.prog 20 #[ev 99 q loc] w fun e w' => e = .returned (.pointer none) ∧ Below w.heap.size w w' := by
  have h := ta99_95 ⟨q, 0, none⟩
  unfold ev
  go_enter Tryd.func20, Tryd.ntmps20
  go_wp2
  go_ret
  exact ⟨rfl, (Below.refl _ _).alloc (Nat.le_refl _) _⟩
theorem as20_103 (q : Nat) (loc : Int) (w : World) : Calls Tryd.prog 20 #[ev 103 q loc] w fun e w' => e = .returned (.pointer none) ∧ Below w.heap.size w w' := by
  have h := ta103_95 ⟨q, 0, none⟩
  unfold ev
  go_enter Tryd.func20, Tryd.ntmps20
  go_wp2
  go_ret
  exact ⟨rfl, (Below.refl _ _).alloc (Nat.le_refl _) _⟩
theorem as20_105 (q : Nat) (loc : Int) (w : World) : Calls Tryd.prog 20 #[ev 105 q loc] w fun e w' => e = .returned (.pointer none) ∧ Below w.heap.size w w' := by
  have h := ta105_95 ⟨q, 0, none⟩
  unfold ev
  go_enter Tryd.func20, Tryd.ntmps20
  go_wp2
  go_ret
  exact ⟨rfl, (Below.refl _ _).alloc (Nat.le_refl _) _⟩
theorem as21_95 (q : Nat) (loc : Int) (w : World) : Calls Tryd.prog 21 #[ev 95 q loc] w fun e w' => e = .returned (.pointer none) ∧ Below w.heap.size w w' := by
  have h := ta95_97 ⟨q, 0, none⟩
  unfold ev
  go_enter Tryd.func21, Tryd.ntmps21
  go_wp2
  go_ret
  exact ⟨rfl, (Below.refl _ _).alloc (Nat.le_refl _) _⟩
theorem as21_99 (q : Nat) (loc : Int) (w : World) : Calls Tryd.prog 21 #[ev 99 q loc] w fun e w' => e = .returned (.pointer none) ∧ Below w.heap.size w w' := by
  have h := ta99_97 ⟨q, 0, none⟩
  unfold ev
  go_enter Tryd.func21, Tryd.ntmps21
  go_wp2
  go_ret
  exact ⟨rfl, (Below.refl _ _).alloc (Nat.le_refl _) _⟩
theorem as21_103 (q : Nat) (loc : Int) (w : World) : Calls Tryd.prog 21 #[ev 103 q loc] w fun e w' => e = .returned (.pointer none) ∧ Below w.heap.size w w' := by
  have h := ta103_97 ⟨q, 0, none⟩
  unfold ev
  go_enter Tryd.func21, Tryd.ntmps21
  go_wp2
  go_ret
  exact ⟨rfl, (Below.refl _ _).alloc (Nat.le_refl _) _⟩
theorem as21_105 (q : Nat) (loc : Int) (w : World) : Calls Tryd.prog 21 #[ev 105 q loc] w fun e w' => e = .returned (.pointer none) ∧ Below w.heap.size w w' := by
  have h := ta105_97 ⟨q, 0, none⟩
  unfold ev
  go_enter Tryd.func21, Tryd.ntmps21
  go_wp2
  go_ret
  exact ⟨rfl, (Below.refl _ _).alloc (Nat.le_refl _) _⟩
theorem as22_95 (q : Nat) (loc : Int) (w : World) : Calls Tryd.prog 22 #[ev 95 q loc] w fun e w' => e = .returned (.pointer none) ∧ Below w.heap.size w w' := by
  have h := ta95_99 ⟨q, 0, none⟩
  unfold ev
  go_enter Tryd.func22, Tryd.ntmps22
  go_wp2
  go_ret
  exact ⟨rfl, (Below.refl _ _).alloc (Nat.le_refl _) _⟩
theorem as22_99 (q : Nat) (loc : Int) (w : World) : Calls Tryd.prog 22 #[ev 99 q loc] w fun e w' => e = .returned (.pointer (some ⟨q, 0, none⟩)) ∧ Below w.heap.size w w' := by
  have h := ta99_99 ⟨q, 0, none⟩
  unfold ev
  go_enter Tryd.func22, Tryd.ntmps22
  go_wp2
  go_ret
  exact ⟨rfl, (Below.refl _ _).alloc (Nat.le_refl _) _⟩
theorem as22_103 (q : Nat) (loc : Int) (w : World) : Calls Tryd.prog 22 #[ev 103 q loc] w fun e w' => e = .returned (.pointer none) ∧ Below w.heap.size w w' := by
  have h := ta103_99 ⟨q, 0, none⟩
  unfold ev
  go_enter Tryd.func22, Tryd.ntmps22
  go_wp2
  go_ret
  exact ⟨rfl, (Below.refl _ _).alloc (Nat.le_refl _) _⟩
theorem as22_105 (q : Nat) (loc : Int) (w : World) : Calls Tryd.prog 22 #[ev 105 q loc] w fun e w' => e = .returned (.pointer none) ∧ Below w.heap.size w w' := by
  have h := ta105_99 ⟨q, 0, none⟩
  unfold ev
  go_enter Tryd.func22, Tryd.ntmps22
  go_wp2
  go_ret
  exact ⟨rfl, (Below.refl _ _).alloc (Nat.le_refl _) _⟩
theorem as23_95 (q : Nat) (loc : Int) (w : World) : Calls Tryd.prog 23 #[ev 95 q loc] w fun e w' => e = .returned (.pointer none) ∧ Below w.heap.size w w' := by
  have h := ta95_101 ⟨q, 0, none⟩
  unfold ev
  go_enter Tryd.func23, Tryd.ntmps23
  go_wp2
  go_ret
  exact ⟨rfl, (Below.refl _ _).alloc (Nat.le_refl _) _⟩
theorem as23_99 (q : Nat) (loc : Int) (w : World) : Calls Tryd.prog 23 #[ev 99 q loc] w fun e w' => e = .returned (.pointer none) ∧ Below w.heap.size w w' := by
  have h := ta99_101 ⟨q, 0, none⟩
  unfold ev
  go_enter Tryd.func23, Tryd.ntmps23
  go_wp2
  go_ret
  exact ⟨rfl, (Below.refl _ _).alloc (Nat.le_refl _) _⟩
theorem as23_103 (q : Nat) (loc : Int) (w : World) : Calls Tryd.prog 23 #[ev 103 q loc] w fun e w' => e = .returned (.pointer none) ∧ Below w.heap.size w w' := by
  have h := ta103_101 ⟨q, 0, none⟩
  unfold ev
  go_enter Tryd.func23, Tryd.ntmps23
  go_wp2
  go_ret
  exact ⟨rfl, (Below.refl _ _).alloc (Nat.le_refl _) _⟩
theorem as23_105 (q : Nat) (loc : Int) (w : World) : Calls Tryd.prog 23 #[ev 105 q loc] w fun e w' => e = .returned (.pointer none) ∧ Below w.heap.size w w' := by
  have h := ta105_101 ⟨q, 0, none⟩
  unfold ev
  go_enter Tryd.func23, Tryd.ntmps23
  go_wp2
  go_ret
  exact ⟨rfl, (Below.refl _ _).alloc (Nat.le_refl _) _⟩
theorem as24_95 (q : Nat) (loc : Int) (w : World) : Calls Tryd.prog 24 #[ev 95 q loc] w fun e w' => e = .returned (.pointer none) ∧ Below w.heap.size w w' := by
  have h := ta95_103 ⟨q, 0, none⟩
  unfold ev
  go_enter Tryd.func24, Tryd.ntmps24
  go_wp2
  go_ret
  exact ⟨rfl, (Below.refl _ _).alloc (Nat.le_refl _) _⟩
theorem as24_99 (q : Nat) (loc : Int) (w : World) : Calls Tryd.prog 24 #[ev 99 q loc] w fun e w' => e = .returned (.pointer none) ∧ Below w.heap.size w w' := by
  have h := ta99_103 ⟨q, 0, none⟩
  unfold ev
  go_enter Tryd.func24, Tryd.ntmps24
  go_wp2
  go_ret
  exact ⟨rfl, (Below.refl _ _).alloc (Nat.le_refl _) _⟩
theorem as24_103 (q : Nat) (loc : Int) (w : World) : Calls Tryd.prog 24 #[ev 103 q loc] w fun e w' => e = .returned (.pointer (some ⟨q, 0, none⟩)) ∧ Below w.heap.size w w' := by
  have h := ta103_103 ⟨q, 0, none⟩
  unfold ev
  go_enter Tryd.func24, Tryd.ntmps24
  go_wp2
  go_ret
  exact ⟨rfl, (Below.refl _ _).alloc (Nat.le_refl _) _⟩
theorem as24_105 (q : Nat) (loc : Int) (w : World) : Calls Tryd.prog 24 #[ev 105 q loc] w fun e w' => e = .returned (.pointer none) ∧ Below w.heap.size w w' := by
  have h := ta105_103 ⟨q, 0, none⟩
  unfold ev
  go_enter Tryd.func24, Tryd.ntmps24
  go_wp2
  go_ret
  exact ⟨rfl, (Below.refl _ _).alloc (Nat.le_refl _) _⟩
theorem as25_95 (q : Nat) (loc : Int) (w : World) : Calls Tryd.prog 25 #[ev 95 q loc] w fun e w' => e = .returned (.pointer none) ∧ Below w.heap.size w w' := by
  have h := ta95_105 ⟨q, 0, none⟩
  unfold ev
  go_enter Tryd.func25, Tryd.ntmps25
  go_wp2
  go_ret
  exact ⟨rfl, (Below.refl _ _).alloc (Nat.le_refl _) _⟩
theorem as25_99 (q : Nat) (loc : Int) (w : World) : Calls Tryd.prog 25 #[ev 99 q loc] w fun e w' => e = .returned (.pointer none) ∧ Below w.heap.size w w' := by
  have h := ta99_105 ⟨q, 0, none⟩
  unfold ev
  go_enter Tryd.func25, Tryd.ntmps25
  go_wp2
  go_ret
  exact ⟨rfl, (Below.refl _ _).alloc (Nat.le_refl _) _⟩
theorem as25_103 (q : Nat) (loc : Int) (w : World) : Calls Tryd.prog 25 #[ev 103 q loc] w fun e w' => e = .returned (.pointer none) ∧ Below w.heap.size w w' := by
  have h := ta103_105 ⟨q, 0, none⟩
  unfold ev
  go_enter Tryd.func25, Tryd.ntmps25
  go_wp2
  go_ret
  exact ⟨rfl, (Below.refl _ _).alloc (Nat.le_refl _) _⟩
theorem as25_105 (q : Nat) (loc : Int) (w : World) : Calls Tryd.prog 25 #[ev 105 q loc] w fun e w' => e = .returned (.pointer (some ⟨q, 0, none⟩)) ∧ Below w.heap.size w w' := by
  have h := ta105_105 ⟨q, 0, none⟩
  unfold ev
  go_enter Tryd.func25, Tryd.ntmps25
  go_wp2
  go_ret
  exact ⟨rfl, (Below.refl _ _).alloc (Nat.le_refl _) _⟩
theorem as26_95 (q : Nat) (loc : Int) (w : World) : Calls Tryd.prog 26 #[ev 95 q loc] w fun e w' => e = .returned (.pointer none) ∧ Below w.heap.size w w' := by
  have h := ta95_107 ⟨q, 0, none⟩
  unfold ev
  go_enter Tryd.func26, Tryd.ntmps26
  go_wp2
  go_ret
  exact ⟨rfl, (Below.refl _ _).alloc (Nat.le_refl _) _⟩
theorem as26_99 (q : Nat) (loc : Int) (w : World) : Calls Tryd.prog 26 #[ev 99 q loc] w fun e w' => e = .returned (.pointer none) ∧ Below w.heap.size w w' := by
  have h := ta99_107 ⟨q, 0, none⟩
  unfold ev
  go_enter Tryd.func26, Tryd.ntmps26
  go_wp2
  go_ret
  exact ⟨rfl, (Below.refl _ _).alloc (Nat.le_refl _) _⟩
theorem as26_103 (q : Nat) (loc : Int) (w : World) : Calls Tryd.prog 26 #[ev 103 q loc] w fun e w' => e = .returned (.pointer none) ∧ Below w.heap.size w w' := by
  have h := ta103_107 ⟨q, 0, none⟩
  unfold ev
  go_enter Tryd.func26, Tryd.ntmps26
  go_wp2
  go_ret
  exact ⟨rfl, (Below.refl _ _).alloc (Nat.le_refl _) _⟩
theorem as26_105 (q : Nat) (loc : Int) (w : World) : Calls Tryd.prog 26 #[ev 105 q loc] w fun e w' => e = .returned (.pointer none) ∧ Below w.heap.size w w' := by
  have h := ta105_107 ⟨q, 0, none⟩
  unfold ev
  go_enter Tryd.func26, Tryd.ntmps26
  go_wp2
  go_ret
  exact ⟨rfl, (Below.refl _ _).alloc (Nat.le_refl _) _⟩

noncomputable def zcs : Array Value := match (Tryd.prog.info? 87).bind (fun i => i.zero) with | some (.agg cs) => cs | _ => #[]
theorem zero87 (w : World) : (zeroValue 87).run Tryd.prog w = .ok (.agg zcs) w := by kernel_rfl
theorem new6 (w : World) : Calls Tryd.prog 6 #[] w fun e w' => (∃ p, e = .returned (.pointer (some ⟨p, 0, none⟩))) ∧ Below w.heap.size w w' := by
  have hz := zero87
  go_enter Tryd.func6, Tryd.ntmps6
  go_wp2
  go_ret
  exact ⟨⟨_, rfl⟩, (Below.refl _ _).alloc (Nat.le_refl _) _⟩
theorem num15 (loc : Int) (fl : Nat) (w : World) : Calls Tryd.prog 15 #[.int .i32 loc, .float .f64 fl] w (Ex 95 0 loc w) := by
  go_enter Tryd.func15, Tryd.ntmps15
  go_wp2
  refine bodyPost_ret (v := ev 95 (w.heap.size + 1) loc) (by simp [results, Tryd.results15, go_sem, ev]) rfl ⟨_, rfl, (fun h => by cases h), by simp, ?_⟩
  repeat (first | exact Below.refl _ _ | (refine Below.alloc ?_ (by simp <;> omega) _) | (refine Below.setCell ?_ (by simp <;> omega) _))
theorem dot16 (T q : Nat) (loc l1 : Int) (s : ByteArray) (w : World) : Calls Tryd.prog 16 #[.int .i32 loc, .agg #[.iface T (.pointer (some ⟨q, 0, none⟩)), .int .i32 l1], .string s] w (Ex 103 0 loc w) := by
  go_enter Tryd.func16, Tryd.ntmps16
  go_wp2
  refine bodyPost_ret (v := ev 103 (w.heap.size + 2) loc) (by simp [results, Tryd.results16, go_sem, ev]) rfl ⟨_, rfl, (fun h => by cases h), by simp, ?_⟩
  repeat (first | exact Below.refl _ _ | (refine Below.alloc ?_ (by simp <;> omega) _) | (refine Below.setCell ?_ (by simp <;> omega) _))
theorem index17 (T q T' q' : Nat) (loc l1 l2 : Int) (w : World) : Calls Tryd.prog 17 #[.int .i32 loc, .agg #[.iface T (.pointer (some ⟨q, 0, none⟩)), .int .i32 l1], .agg #[.iface T' (.pointer (some ⟨q', 0, none⟩)), .int .i32 l2]] w (Ex 105 0 loc w) := by
  go_enter Tryd.func17, Tryd.ntmps17
  go_wp2
  refine bodyPost_ret (v := ev 105 (w.heap.size + 3) loc) (by simp [results, Tryd.results17, go_sem, ev]) rfl ⟨_, rfl, (fun h => by cases h), by simp, ?_⟩
  repeat (first | exact Below.refl _ _ | (refine Below.alloc ?_ (by simp <;> omega) _) | (refine Below.setCell ?_ (by simp <;> omega) _))
theorem bin18 (T q T' q' : Nat) (loc l1 l2 op : Int) (w : World) : Calls Tryd.prog 18 #[.int .i32 loc, .int .u8 op, .agg #[.iface T (.pointer (some ⟨q, 0, none⟩)), .int .i32 l1], .agg #[.iface T' (.pointer (some ⟨q', 0, none⟩)), .int .i32 l2]] w (Ex 99 op loc w) := by
  go_enter Tryd.func18, Tryd.ntmps18
  go_wp2
  refine bodyPost_ret (v := ev 99 (w.heap.size + 3) loc) (by simp [results, Tryd.results18, go_sem, ev]) rfl ⟨_, rfl, (fun _ => by simp [go_sem]), by simp, ?_⟩
  repeat (first | exact Below.refl _ _ | (refine Below.alloc ?_ (by simp <;> omega) _) | (refine Below.setCell ?_ (by simp <;> omega) _))

def wrapB (f1 f2 : Bool) (T : Nat) (op : Int) : Bool := if f1 then (T != 99 || op != 36) else f2 && (T == 103 || T == 105)
/-- What guarding leaves: the same expression, or a comma round it. -/
def Gd (wr : Bool) (T q : Nat) (loc : Int) (w : World) (e : Ending) (w' : World) : Prop :=
  (wr = false ∧ e = .returned (ev T q loc) ∨ wr = true ∧ ∃ q', e = .returned (ev 99 q' loc) ∧ w'.cell? ⟨q', 4, none⟩ = some (.int .u8 36) ∧ q' < w'.heap.size) ∧ Below w.heap.size w w'
set_option maxRecDepth 100000 in
theorem g95_1w (p q : Nat) (loc fl : Int) (w : World) (h1 : (bits .and .u16 fl 128 != 0) = true) :
    Calls Tryd.prog 19 #[.pointer (some ⟨p, 0, none⟩), .agg #[.iface 95 (.pointer (some ⟨q, 0, none⟩)), .int .i32 loc], .int .u16 fl] w (Gd true 95 q loc w) := by
  have t99 := ta95_99 ⟨q, 0, none⟩
  have t103 := ta95_103 ⟨q, 0, none⟩
  have t105 := ta95_105 ⟨q, 0, none⟩
  have t121 := ta95_121 ⟨q, 0, none⟩
  go_enter Tryd.func19, Tryd.ntmps19
  go_wp2
  refine bodyPost_ret (v := ev 99 (w.heap.size + 3) loc) (by simp [results, Tryd.results19, go_sem, ev]) rfl ⟨.inr ⟨rfl, _, rfl, by simp [go_sem], by simp⟩, ?_⟩
  repeat (first | exact Below.refl _ _ | (refine Below.alloc ?_ (by simp <;> omega) _) | (refine Below.setCell ?_ (by simp <;> omega) _))
set_option maxRecDepth 100000 in
theorem g95_01 (p q : Nat) (loc fl : Int) (w : World) (h1 : (bits .and .u16 fl 128 != 0) = false) (h2 : (bits .and .u16 fl 256 != 0) = true) :
    Calls Tryd.prog 19 #[.pointer (some ⟨p, 0, none⟩), .agg #[.iface 95 (.pointer (some ⟨q, 0, none⟩)), .int .i32 loc], .int .u16 fl] w (Gd false 95 q loc w) := by
  have t99 := ta95_99 ⟨q, 0, none⟩
  have t103 := ta95_103 ⟨q, 0, none⟩
  have t105 := ta95_105 ⟨q, 0, none⟩
  have t121 := ta95_121 ⟨q, 0, none⟩
  go_enter Tryd.func19, Tryd.ntmps19
  go_wp2
  refine bodyPost_ret (v := ev 95 q loc) (by simp [results, Tryd.results19, go_sem, ev]) rfl ⟨.inl ⟨rfl, rfl⟩, ?_⟩
  repeat (first | exact Below.refl _ _ | (refine Below.alloc ?_ (by simp <;> omega) _) | (refine Below.setCell ?_ (by simp <;> omega) _))
set_option maxRecDepth 100000 in
theorem g95_00 (p q : Nat) (loc fl : Int) (w : World) (h1 : (bits .and .u16 fl 128 != 0) = false) (h2 : (bits .and .u16 fl 256 != 0) = false) :
    Calls Tryd.prog 19 #[.pointer (some ⟨p, 0, none⟩), .agg #[.iface 95 (.pointer (some ⟨q, 0, none⟩)), .int .i32 loc], .int .u16 fl] w (Gd false 95 q loc w) := by
  have t99 := ta95_99 ⟨q, 0, none⟩
  have t103 := ta95_103 ⟨q, 0, none⟩
  have t105 := ta95_105 ⟨q, 0, none⟩
  have t121 := ta95_121 ⟨q, 0, none⟩
  go_enter Tryd.func19, Tryd.ntmps19
  go_wp2
  refine bodyPost_ret (v := ev 95 q loc) (by simp [results, Tryd.results19, go_sem, ev]) rfl ⟨.inl ⟨rfl, rfl⟩, ?_⟩
  repeat (first | exact Below.refl _ _ | (refine Below.alloc ?_ (by simp <;> omega) _) | (refine Below.setCell ?_ (by simp <;> omega) _))
set_option maxRecDepth 100000 in
theorem g99_1k (p q : Nat) (loc fl : Int) (op : Int) (w : World) (hop : (op != 36) = false) (hc : w.cell? ⟨q, 4, none⟩ = some (.int .u8 op)) (hq : q < w.heap.size) (h1 : (bits .and .u16 fl 128 != 0) = true) :
    Calls Tryd.prog 19 #[.pointer (some ⟨p, 0, none⟩), .agg #[.iface 99 (.pointer (some ⟨q, 0, none⟩)), .int .i32 loc], .int .u16 fl] w (Gd false 99 q loc w) := by
  have t99 := ta99_99 ⟨q, 0, none⟩
  have t103 := ta99_103 ⟨q, 0, none⟩
  have t105 := ta99_105 ⟨q, 0, none⟩
  have t121 := ta99_121 ⟨q, 0, none⟩
  go_enter Tryd.func19, Tryd.ntmps19
  go_wp2
  refine bodyPost_ret (v := ev 99 q loc) (by simp [results, Tryd.results19, go_sem, ev]) rfl ⟨.inl ⟨rfl, rfl⟩, ?_⟩
  repeat (first | exact Below.refl _ _ | (refine Below.alloc ?_ (by simp <;> omega) _) | (refine Below.setCell ?_ (by simp <;> omega) _))
set_option maxRecDepth 100000 in
theorem g99_1w (p q : Nat) (loc fl : Int) (op : Int) (w : World) (hop : (op != 36) = true) (hc : w.cell? ⟨q, 4, none⟩ = some (.int .u8 op)) (hq : q < w.heap.size) (h1 : (bits .and .u16 fl 128 != 0) = true) :
    Calls Tryd.prog 19 #[.pointer (some ⟨p, 0, none⟩), .agg #[.iface 99 (.pointer (some ⟨q, 0, none⟩)), .int .i32 loc], .int .u16 fl] w (Gd true 99 q loc w) := by
  have t99 := ta99_99 ⟨q, 0, none⟩
  have t103 := ta99_103 ⟨q, 0, none⟩
  have t105 := ta99_105 ⟨q, 0, none⟩
  have t121 := ta99_121 ⟨q, 0, none⟩
  go_enter Tryd.func19, Tryd.ntmps19
  go_wp2
  refine bodyPost_ret (v := ev 99 (w.heap.size + 3) loc) (by simp [results, Tryd.results19, go_sem, ev]) rfl ⟨.inr ⟨rfl, _, rfl, by simp [go_sem], by simp⟩, ?_⟩
  repeat (first | exact Below.refl _ _ | (refine Below.alloc ?_ (by simp <;> omega) _) | (refine Below.setCell ?_ (by simp <;> omega) _))
set_option maxRecDepth 100000 in
theorem g99_01 (p q : Nat) (loc fl : Int) (op : Int) (w : World) (hc : w.cell? ⟨q, 4, none⟩ = some (.int .u8 op)) (hq : q < w.heap.size) (h1 : (bits .and .u16 fl 128 != 0) = false) (h2 : (bits .and .u16 fl 256 != 0) = true) :
    Calls Tryd.prog 19 #[.pointer (some ⟨p, 0, none⟩), .agg #[.iface 99 (.pointer (some ⟨q, 0, none⟩)), .int .i32 loc], .int .u16 fl] w (Gd false 99 q loc w) := by
  have t99 := ta99_99 ⟨q, 0, none⟩
  have t103 := ta99_103 ⟨q, 0, none⟩
  have t105 := ta99_105 ⟨q, 0, none⟩
  have t121 := ta99_121 ⟨q, 0, none⟩
  go_enter Tryd.func19, Tryd.ntmps19
  go_wp2
  refine bodyPost_ret (v := ev 99 q loc) (by simp [results, Tryd.results19, go_sem, ev]) rfl ⟨.inl ⟨rfl, rfl⟩, ?_⟩
  repeat (first | exact Below.refl _ _ | (refine Below.alloc ?_ (by simp <;> omega) _) | (refine Below.setCell ?_ (by simp <;> omega) _))
set_option maxRecDepth 100000 in
theorem g99_00 (p q : Nat) (loc fl : Int) (op : Int) (w : World) (hc : w.cell? ⟨q, 4, none⟩ = some (.int .u8 op)) (hq : q < w.heap.size) (h1 : (bits .and .u16 fl 128 != 0) = false) (h2 : (bits .and .u16 fl 256 != 0) = false) :
    Calls Tryd.prog 19 #[.pointer (some ⟨p, 0, none⟩), .agg #[.iface 99 (.pointer (some ⟨q, 0, none⟩)), .int .i32 loc], .int .u16 fl] w (Gd false 99 q loc w) := by
  have t99 := ta99_99 ⟨q, 0, none⟩
  have t103 := ta99_103 ⟨q, 0, none⟩
  have t105 := ta99_105 ⟨q, 0, none⟩
  have t121 := ta99_121 ⟨q, 0, none⟩
  go_enter Tryd.func19, Tryd.ntmps19
  go_wp2
  refine bodyPost_ret (v := ev 99 q loc) (by simp [results, Tryd.results19, go_sem, ev]) rfl ⟨.inl ⟨rfl, rfl⟩, ?_⟩
  repeat (first | exact Below.refl _ _ | (refine Below.alloc ?_ (by simp <;> omega) _) | (refine Below.setCell ?_ (by simp <;> omega) _))
set_option maxRecDepth 100000 in
theorem g103_1w (p q : Nat) (loc fl : Int) (w : World) (h1 : (bits .and .u16 fl 128 != 0) = true) :
    Calls Tryd.prog 19 #[.pointer (some ⟨p, 0, none⟩), .agg #[.iface 103 (.pointer (some ⟨q, 0, none⟩)), .int .i32 loc], .int .u16 fl] w (Gd true 103 q loc w) := by
  have t99 := ta103_99 ⟨q, 0, none⟩
  have t103 := ta103_103 ⟨q, 0, none⟩
  have t105 := ta103_105 ⟨q, 0, none⟩
  have t121 := ta103_121 ⟨q, 0, none⟩
  go_enter Tryd.func19, Tryd.ntmps19
  go_wp2
  refine bodyPost_ret (v := ev 99 (w.heap.size + 3) loc) (by simp [results, Tryd.results19, go_sem, ev]) rfl ⟨.inr ⟨rfl, _, rfl, by simp [go_sem], by simp⟩, ?_⟩
  repeat (first | exact Below.refl _ _ | (refine Below.alloc ?_ (by simp <;> omega) _) | (refine Below.setCell ?_ (by simp <;> omega) _))
set_option maxRecDepth 100000 in
theorem g103_01 (p q : Nat) (loc fl : Int) (w : World) (h1 : (bits .and .u16 fl 128 != 0) = false) (h2 : (bits .and .u16 fl 256 != 0) = true) :
    Calls Tryd.prog 19 #[.pointer (some ⟨p, 0, none⟩), .agg #[.iface 103 (.pointer (some ⟨q, 0, none⟩)), .int .i32 loc], .int .u16 fl] w (Gd true 103 q loc w) := by
  have t99 := ta103_99 ⟨q, 0, none⟩
  have t103 := ta103_103 ⟨q, 0, none⟩
  have t105 := ta103_105 ⟨q, 0, none⟩
  have t121 := ta103_121 ⟨q, 0, none⟩
  go_enter Tryd.func19, Tryd.ntmps19
  go_wp2
  refine bodyPost_ret (v := ev 99 (w.heap.size + 3) loc) (by simp [results, Tryd.results19, go_sem, ev]) rfl ⟨.inr ⟨rfl, _, rfl, by simp [go_sem], by simp⟩, ?_⟩
  repeat (first | exact Below.refl _ _ | (refine Below.alloc ?_ (by simp <;> omega) _) | (refine Below.setCell ?_ (by simp <;> omega) _))
set_option maxRecDepth 100000 in
theorem g103_00 (p q : Nat) (loc fl : Int) (w : World) (h1 : (bits .and .u16 fl 128 != 0) = false) (h2 : (bits .and .u16 fl 256 != 0) = false) :
    Calls Tryd.prog 19 #[.pointer (some ⟨p, 0, none⟩), .agg #[.iface 103 (.pointer (some ⟨q, 0, none⟩)), .int .i32 loc], .int .u16 fl] w (Gd false 103 q loc w) := by
  have t99 := ta103_99 ⟨q, 0, none⟩
  have t103 := ta103_103 ⟨q, 0, none⟩
  have t105 := ta103_105 ⟨q, 0, none⟩
  have t121 := ta103_121 ⟨q, 0, none⟩
  go_enter Tryd.func19, Tryd.ntmps19
  go_wp2
  refine bodyPost_ret (v := ev 103 q loc) (by simp [results, Tryd.results19, go_sem, ev]) rfl ⟨.inl ⟨rfl, rfl⟩, ?_⟩
  repeat (first | exact Below.refl _ _ | (refine Below.alloc ?_ (by simp <;> omega) _) | (refine Below.setCell ?_ (by simp <;> omega) _))
set_option maxRecDepth 100000 in
theorem g105_1w (p q : Nat) (loc fl : Int) (w : World) (h1 : (bits .and .u16 fl 128 != 0) = true) :
    Calls Tryd.prog 19 #[.pointer (some ⟨p, 0, none⟩), .agg #[.iface 105 (.pointer (some ⟨q, 0, none⟩)), .int .i32 loc], .int .u16 fl] w (Gd true 105 q loc w) := by
  have t99 := ta105_99 ⟨q, 0, none⟩
  have t103 := ta105_103 ⟨q, 0, none⟩
  have t105 := ta105_105 ⟨q, 0, none⟩
  have t121 := ta105_121 ⟨q, 0, none⟩
  go_enter Tryd.func19, Tryd.ntmps19
  go_wp2
  refine bodyPost_ret (v := ev 99 (w.heap.size + 3) loc) (by simp [results, Tryd.results19, go_sem, ev]) rfl ⟨.inr ⟨rfl, _, rfl, by simp [go_sem], by simp⟩, ?_⟩
  repeat (first | exact Below.refl _ _ | (refine Below.alloc ?_ (by simp <;> omega) _) | (refine Below.setCell ?_ (by simp <;> omega) _))
set_option maxRecDepth 100000 in
theorem g105_01 (p q : Nat) (loc fl : Int) (w : World) (h1 : (bits .and .u16 fl 128 != 0) = false) (h2 : (bits .and .u16 fl 256 != 0) = true) :
    Calls Tryd.prog 19 #[.pointer (some ⟨p, 0, none⟩), .agg #[.iface 105 (.pointer (some ⟨q, 0, none⟩)), .int .i32 loc], .int .u16 fl] w (Gd true 105 q loc w) := by
  have t99 := ta105_99 ⟨q, 0, none⟩
  have t103 := ta105_103 ⟨q, 0, none⟩
  have t105 := ta105_105 ⟨q, 0, none⟩
  have t121 := ta105_121 ⟨q, 0, none⟩
  go_enter Tryd.func19, Tryd.ntmps19
  go_wp2
  refine bodyPost_ret (v := ev 99 (w.heap.size + 3) loc) (by simp [results, Tryd.results19, go_sem, ev]) rfl ⟨.inr ⟨rfl, _, rfl, by simp [go_sem], by simp⟩, ?_⟩
  repeat (first | exact Below.refl _ _ | (refine Below.alloc ?_ (by simp <;> omega) _) | (refine Below.setCell ?_ (by simp <;> omega) _))
set_option maxRecDepth 100000 in
theorem g105_00 (p q : Nat) (loc fl : Int) (w : World) (h1 : (bits .and .u16 fl 128 != 0) = false) (h2 : (bits .and .u16 fl 256 != 0) = false) :
    Calls Tryd.prog 19 #[.pointer (some ⟨p, 0, none⟩), .agg #[.iface 105 (.pointer (some ⟨q, 0, none⟩)), .int .i32 loc], .int .u16 fl] w (Gd false 105 q loc w) := by
  have t99 := ta105_99 ⟨q, 0, none⟩
  have t103 := ta105_103 ⟨q, 0, none⟩
  have t105 := ta105_105 ⟨q, 0, none⟩
  have t121 := ta105_121 ⟨q, 0, none⟩
  go_enter Tryd.func19, Tryd.ntmps19
  go_wp2
  refine bodyPost_ret (v := ev 105 q loc) (by simp [results, Tryd.results19, go_sem, ev]) rfl ⟨.inl ⟨rfl, rfl⟩, ?_⟩
  repeat (first | exact Below.refl _ _ | (refine Below.alloc ?_ (by simp <;> omega) _) | (refine Below.setCell ?_ (by simp <;> omega) _))
end Go.Proofs.YtjgomgagaolhgacRRDoor.GuA
