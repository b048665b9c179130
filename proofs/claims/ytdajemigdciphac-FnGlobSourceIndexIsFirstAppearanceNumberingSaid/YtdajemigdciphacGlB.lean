/- MakeCacheSet, the new scanner. -/
import Derived.Test.YtdajemigdciphacRows
import Derived.Test.YtdajemigdciphacMem
import Derived.Test.YtdajemigdciphacSl
import Derived.Test.YtdajemigdciphacGlA
import Derived.Great.BuildSlice
import Derived.WalkKit
import Derived.ProofKit
import Derived.OpenShut
import Derived.Below
import Derived.WalkLawsBesides
import Derived.Lib.Hide
import Derived.Outline
import Derived.RegionTactic
import Derived.Deep.QuietTactic
import Derived.BigQuiet
import Derived.WalkSpells
import Derived.Deep.OwnRows
import Derived.IntWalk
import Derived.Deep.DeepMust
namespace Go.Proofs.Ytdajemigdciphac.GlB
open Go.RowKit Mem Sl
set_option linter.unusedVariables false
open Map Locks Go.MapKept GlA

/-- A new set of caches: in new blocks, its map of globs empty, the next index 1. -/
def Made (w : World) (e : Ending) (w' : World) : Prop :=
  ∃ q g, w.heap.size ≤ q ∧ w.heap.size ≤ g ∧ e = .returned (.pointer (some ⟨q, 0, none⟩)) ∧ Cac w' q g 0 1 (fun _ => none) ∧ Below w.heap.size w w'
set_option maxHeartbeats 4000000 in
set_option maxRecDepth 100000 in
theorem mk10 (w : World) : Calls Try.prog 10 #[] w (Made w) := by
  have hmm := @run_makeMap Try.prog
  go_enter Try.func10, Try.ntmps10
  go_wp2
  go_ret
  refine ⟨w.heap.size + 1 + 1 + 1 + 1 + 1 + 1, w.heap.size, by omega, Nat.le_refl _, rfl, ⟨⟨_, by simpa using Row.newArr ((((((w.alloc (Obj.map #[] 0)).alloc (Obj.map #[] 0)).alloc (Obj.map #[] 0)).alloc (Obj.map #[] 0)).alloc (Obj.map #[] 0)).alloc (Obj.map #[] 0)) 130 #[.map (some (w.heap.size + 1 + 1)), .int .i32 0, .int .u32 0, .map (some (w.heap.size + 1 + 1 + 1)), .int .i32 0, .int .u32 0, .map (some (w.heap.size + 1 + 1 + 1 + 1)), .int .i32 0, .int .u32 0, .map (some (w.heap.size + 1 + 1 + 1 + 1 + 1)), .int .i32 0, .int .u32 0, .map (some w.heap.size), .map (some (w.heap.size + 1)), .int .i32 0, .int .u32 0, .int .u32 1], rfl, rfl, rfl, rfl⟩, ((((((mapF_made w _).alloc _).alloc _).alloc _).alloc _).alloc _).alloc _⟩, ?_⟩
  exact (((((((Below.refl _ _).alloc (by simp) _).alloc (by simp) _).alloc (by simp; omega) _).alloc (by simp; omega) _).alloc (by simp; omega) _).alloc (by simp; omega) _).alloc (by simp; omega) _
noncomputable def zcs : Array Value := match (Try.prog.info? 105).bind (fun i => i.zero) with | some (.agg cs) => cs | _ => #[]
noncomputable def scn (q : Nat) : Array Value := zcs.setIfInBounds 8 (.pointer (some ⟨q, 0, none⟩))
theorem scn8 (q : Nat) : (scn q)[8]? = some (.pointer (some ⟨q, 0, none⟩)) := by kernel_rfl
theorem scn11 (q : Nat) : (scn q)[11]? = some (.slice none 0 0) := by kernel_rfl
theorem scnSize (q : Nat) : (scn q).size = 117 := by kernel_rfl
/-- The scanner at p: its caches at q, its results rv. -/
structure Sca (w : World) (p q : Nat) (rv : Value) : Prop where
  row : ∃ ys, Row w p 105 ys ∧ ys.length = 117 ∧ ys[8]? = some (.pointer (some ⟨q, 0, none⟩)) ∧ ys[11]? = some rv
def New (w : World) (e : Ending) (w' : World) : Prop :=
  ∃ p q g, w.heap.size ≤ p ∧ w.heap.size ≤ q ∧ w.heap.size ≤ g ∧ e = .returned (.pointer (some ⟨p, 0, none⟩)) ∧ Sca w' p q (.slice none 0 0) ∧ Cac w' q g 0 1 (fun _ => none) ∧ Below w.heap.size w w'
theorem cac_alloc {w : World} {q g n nx : Nat} {f : Value → Option Value} (h : Cac w q g n nx f) (o : Obj) : Cac (w.alloc o) q g n nx f := by
  obtain ⟨⟨xs, h1, h2⟩, h3⟩ := h
  exact ⟨⟨xs, h1.alloc o, h2⟩, h3.alloc o⟩
set_option maxHeartbeats 4000000 in
set_option maxRecDepth 100000 in
theorem new7 (w : World) : Calls Try.prog 7 #[] w (New w) := by
  go_enter Try.func7, Try.ntmps7
  go_wp2_with fail
  refine (mk10 w).mono ?_
  intro e w1 hM
  obtain ⟨q, g, hq, hg, rfl, hC, hB⟩ := hM
  have HC := Lib.hid hC
  have HB := Lib.hid hB
  clear hC hB
  go_wp2_with (refine wpList_buildTo rfl 105 _ rfl (some 2) rfl (scn q) (by kernel_rfl) ?_)
  go_ret
  exact ⟨w1.heap.size, q, g, HB.out.size, hq, hg, rfl, ⟨⟨_, Row.newArr w1 105 (scn q), by simpa using scnSize q, by simpa using scn8 q, by simpa using scn11 q⟩⟩, cac_alloc HC.out _, HB.out.alloc HB.out.size _⟩
end Go.Proofs.Ytdajemigdciphac.GlB
