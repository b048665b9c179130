/- ZZnewLexer, Raw, Loc, Range, rawIdentifier over a lexer whose start, end and contents are known. -/
import Derived.Test.YtdifphanmemmlabRows
import Derived.Test.YtdifphanmemmlabBitsP
import Derived.WalkKit
import Derived.ProofKit
import Derived.OpenShut
import Derived.Below
import Derived.WalkLawsBesides
import Derived.Lib.Hide
import Derived.Outline
import Derived.RegionTactic
import Derived.Deep.QuietTactic
import Derived.BigQuiet
import Derived.Great.BuildSlice
import Derived.Deep.RegionWith
import Derived.WalkSpells
namespace Go.Proofs.Ytdifphanmemmlab.Lexer
open Go.RowKit BitsP
set_option linter.unusedVariables false
noncomputable def zcs : Array Value := match (Try.prog.info? 83).bind (fun i => i.zero) with | some (.agg cs) => cs | _ => #[]
noncomputable def lex (s : ByteArray) (i j : Int) : Array Value := ((zcs.setIfInBounds 14 (.string s)).setIfInBounds 53 (.int .i64 i)).setIfInBounds 54 (.int .i64 j)
theorem lex14 (s : ByteArray) (i j : Int) : (lex s i j)[14]? = some (.string s) := by kernel_rfl
theorem lex53 (s : ByteArray) (i j : Int) : (lex s i j)[53]? = some (.int .i64 i) := by kernel_rfl
theorem lex54 (s : ByteArray) (i j : Int) : (lex s i j)[54]? = some (.int .i64 j) := by kernel_rfl
set_option maxRecDepth 100000 in
theorem newLexer (s : ByteArray) (i j : Int) (w : World) :
    Calls Try.prog 9 #[.string s, .int .i64 i, .int .i64 j] w fun e w' => e = .returned (.pointer (some ⟨w.heap.size, 0, none⟩)) ∧ w.alloc (.cells (lex s i j) 83) = w' := by
  go_enter Try.func9, Try.ntmps9
  go_wp2_with (refine wpList_buildTo rfl 83 _ rfl (some 11) rfl (lex s i j) (by kernel_rfl) ?_)
  go_ret
  exact ⟨rfl, rfl⟩
theorem raw (s : ByteArray) (i j b : Nat) (w : World) (hij : i ≤ j) (hj : j ≤ s.size) (hs : s.size ≤ 1048576) (h1 : w.cell? ⟨b, 14, none⟩ = some (.string s)) (h2 : w.cell? ⟨b, 53, none⟩ = some (.int .i64 i)) (h3 : w.cell? ⟨b, 54, none⟩ = some (.int .i64 j)) :
    Calls Try.prog 10 #[.pointer (some ⟨b, 0, none⟩)] w fun e w' => e = .returned (.string (s.extract i j)) ∧ ∃ n, w' = w.drewN n := by
  go_enter Try.func10, Try.ntmps10
  go_wp2
  go_quiet (fail)
  go_wp2
  go_ret
  exact ⟨rfl, nq, rfl⟩
theorem loc (i b : Nat) (w : World) (hi : i ≤ 1048576) (hb : b < w.heap.size) (h2 : w.cell? ⟨b, 53, none⟩ = some (.int .i64 i)) :
    Calls Try.prog 12 #[.pointer (some ⟨b, 0, none⟩)] w fun e w' => e = .returned (.agg #[.int .i32 i]) ∧ Below w.heap.size w w' := by
  go_enter Try.func12, Try.ntmps12
  go_wp2
  exact bodyPost_ret (v := .agg #[.int .i32 i]) (by simp [results, Try.results12, go_sem]) rfl ⟨rfl, (Below.refl _ _).alloc (Nat.le_refl _) _⟩
theorem range (i j b : Nat) (w : World) (hij : i ≤ j) (hj : j ≤ 1048576) (hb : b < w.heap.size) (h2 : w.cell? ⟨b, 53, none⟩ = some (.int .i64 i)) (h3 : w.cell? ⟨b, 54, none⟩ = some (.int .i64 j)) :
    Calls Try.prog 13 #[.pointer (some ⟨b, 0, none⟩)] w fun e w' => e = .returned (.agg #[.int .i32 i, .int .i32 ((j : Int) - i)]) ∧ Below w.heap.size w w' := by
  go_enter Try.func13, Try.ntmps13
  go_wp2
  go_region
  all_goals go_wp2
  exact bodyPost_ret (v := .agg #[.int .i32 i, .int .i32 ((j : Int) - i)]) (by simp [results, Try.results13, go_sem]) rfl ⟨rfl, ((Below.refl _ _).alloc (Nat.le_refl _) _).drew⟩
def flip32 (x : Int) : Int := bits .xor .u32 IntKind.u32.max x
theorem mkIndex (x : Int) (w : World) :
    Calls Try.prog 15 #[.int .u32 x] w fun e w' => e = .returned (.agg #[.int .u32 (flip32 x)]) ∧ w.alloc (.cells #[.int .u32 (flip32 x)] 39) = w' := by
  go_enter Try.func15, Try.ntmps15
  go_wp2
  exact bodyPost_ret (v := .agg #[.int .u32 (flip32 x)]) (by simp [results, Try.results15, go_sem, flip32]) rfl ⟨rfl, rfl⟩
set_option maxHeartbeats 1000000 in
theorem rawId (s : ByteArray) (i j b : Nat) (w : World) (hij : i ≤ j) (hj : j ≤ s.size) (hs : s.size ≤ 1048576) (hb : b < w.heap.size) (h1 : w.cell? ⟨b, 14, none⟩ = some (.string s)) (h2 : w.cell? ⟨b, 53, none⟩ = some (.int .i64 i)) (h3 : w.cell? ⟨b, 54, none⟩ = some (.int .i64 j)) :
    Calls Try.prog 17 #[.pointer (some ⟨b, 0, none⟩)] w fun e w' => e = .returned (.agg #[.string (s.extract i j), .int .u32 (flip32 i)]) ∧ Below w.heap.size w w' := by
  have hw : IntKind.u32.wrap (i : Int) = i := IntWalk.u32_in _ (by omega)
  go_enter Try.func17, Try.ntmps17
  go_wp2_with fail
  go_region_with (first | (go_at_call 10; (refine (raw s i j b _ hij hj hs ?_ ?_ ?_).mono ?_); (refine cell_later ?_ h1; (repeat (first | exact Below.refl _ _ | apply Below.drew | apply below_drewN | (refine Below.alloc ?_ (by simp <;> omega) _) | (refine Below.setCell ?_ (by simp <;> omega) _)))); (refine cell_later ?_ h2; (repeat (first | exact Below.refl _ _ | apply Below.drew | apply below_drewN | (refine Below.alloc ?_ (by simp <;> omega) _) | (refine Below.setCell ?_ (by simp <;> omega) _)))); (refine cell_later ?_ h3; (repeat (first | exact Below.refl _ _ | apply Below.drew | apply below_drewN | (refine Below.alloc ?_ (by simp <;> omega) _) | (refine Below.setCell ?_ (by simp <;> omega) _)))); rintro e w' ⟨rfl, n, rfl⟩) | (go_at_call 15; refine (mkIndex _ _).mono ?_; rintro e w' ⟨rfl, rfl⟩))
  all_goals go_wp2_with fail
  all_goals refine bodyPost_ret (v := .agg #[.string (s.extract i j), .int .u32 (flip32 i)]) (by simp [results, Try.results17, go_sem]) rfl ⟨rfl, ?_⟩
  all_goals (repeat (first | exact Below.refl _ _ | apply Below.drew | apply below_drewN | (refine Below.alloc ?_ (by simp <;> omega) _) | (refine Below.setCell ?_ (by simp <;> omega) _)))
theorem zzRawId (s : ByteArray) (i j b : Nat) (w : World) (hij : i ≤ j) (hj : j ≤ s.size) (hs : s.size ≤ 1048576) (hb : b < w.heap.size) (h1 : w.cell? ⟨b, 14, none⟩ = some (.string s)) (h2 : w.cell? ⟨b, 53, none⟩ = some (.int .i64 i)) (h3 : w.cell? ⟨b, 54, none⟩ = some (.int .i64 j)) :
    Calls Try.prog 14 #[.pointer (some ⟨b, 0, none⟩)] w fun e w' => e = .returned (.agg #[.string (s.extract i j), .int .u32 (flip32 i)]) ∧ Below w.heap.size w w' := by
  go_enter Try.func14, Try.ntmps14
  go_wp2_with fail
  refine (rawId s i j b _ hij hj hs (by simp; omega) ?_ ?_ ?_).mono ?_
  · refine cell_later ?_ h1; (repeat (first | exact Below.refl _ _ | apply Below.drew | apply below_drewN | (refine Below.alloc ?_ (by simp <;> omega) _) | (refine Below.setCell ?_ (by simp <;> omega) _)))
  · refine cell_later ?_ h2; (repeat (first | exact Below.refl _ _ | apply Below.drew | apply below_drewN | (refine Below.alloc ?_ (by simp <;> omega) _) | (refine Below.setCell ?_ (by simp <;> omega) _)))
  · refine cell_later ?_ h3; (repeat (first | exact Below.refl _ _ | apply Below.drew | apply below_drewN | (refine Below.alloc ?_ (by simp <;> omega) _) | (refine Below.setCell ?_ (by simp <;> omega) _)))
  rintro e w1 ⟨rfl, hb1⟩
  have hz : w.heap.size < w1.heap.size := by have := hb1.size; simp at this; omega
  have c0 := hb1.cell (p := ⟨w.heap.size, 0, none⟩) (by simp)
  have c1 := hb1.cell (p := ⟨w.heap.size, 1, none⟩) (by simp)
  have f0 := hb1.frozen (p := ⟨w.heap.size, 0, none⟩) (by simp)
  have f1 := hb1.frozen (p := ⟨w.heap.size, 1, none⟩) (by simp)
  simp at c0 c1 f0 f1
  go_wp2_with fail
  refine bodyPost_ret (v := .agg #[.string (s.extract i j), .int .u32 (flip32 i)]) (by simp [results, Try.results14, go_sem, c0, c1]) rfl ⟨rfl, ?_⟩
  have hb2 : Below w.heap.size w w1 := Below.trans ((Below.refl _ _).alloc (Nat.le_refl _) _) (hb1.mono (by simp))
  exact (hb2.setCell (by simp) _).setCell (by simp) _
end Go.Proofs.Ytdifphanmemmlab.Lexer
