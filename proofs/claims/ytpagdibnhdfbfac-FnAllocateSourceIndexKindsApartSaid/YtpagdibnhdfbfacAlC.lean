/- FnAllocateSourceIndexKindsApart: the law. -/
import Derived.Test.YtpagdibnhdfbfacRows
import Derived.Test.YtpagdibnhdfbfacMem
import Derived.Test.YtpagdibnhdfbfacSl
import Derived.Test.YtpagdibnhdfbfacAlB
import Derived.Great.BuildSlice
import Derived.WalkKit
import Derived.ProofKit
import Derived.OpenShut
import Derived.Below
import Derived.WalkLawsBesides
import Derived.Lib.Hide
import Derived.Outline
import Derived.RegionTactic
import Derived.Deep.QuietTactic
import Derived.BigQuiet
import Derived.WalkSpells
import Derived.Deep.OwnRows
import Derived.IntWalk
import Derived.Deep.DeepMust
namespace Go.Proofs.Ytpagdibnhdfbfac.AlC
open Go.RowKit Mem Sl
set_option linter.unusedVariables false
open Locks Go.MapKept AlA AlB

/-- A new set of caches: in new blocks, its map of indices empty, the next index 1. -/
def Made (w : World) (t : ByteArray) (e : Ending) (w' : World) : Prop :=
  ∃ q g, w.heap.size ≤ q ∧ w.heap.size ≤ g ∧ e = .returned (.pointer (some ⟨q, 0, none⟩)) ∧ Cac w' q g 1 t [] ∧ Below w.heap.size w w'
theorem em_new (w : World) (t : ByteArray) : EM (w.alloc (Obj.map #[] 0)) w.heap.size t [] := ⟨#[], 0, heap_alloc_new w _, rfl⟩
theorem em_alloc {w : World} {g : Nat} {t : ByteArray} {al : List (Bool × Nat)} (h : EM w g t al) (o : Obj) : EM (w.alloc o) g t al := by
  have hlt : g < w.heap.size := by obtain ⟨es, c, h1, _⟩ := h; exact (Array.getElem?_eq_some_iff.1 h1).1
  exact h.kept (Below.heap_alloc w o g hlt)
set_option maxHeartbeats 4000000 in
set_option maxRecDepth 100000 in
theorem mk9 (w : World) (t : ByteArray) : Calls Try.prog 9 #[] w (Made w t) := by
  have hmm := @run_makeMap Try.prog
  go_enter Try.func9, Try.ntmps9
  go_wp2
  go_ret
  refine ⟨w.heap.size + 1 + 1 + 1 + 1 + 1 + 1, w.heap.size + 1, by omega, by omega, rfl, ⟨⟨_, by simpa using Row.newArr ((((((w.alloc (Obj.map #[] 0)).alloc (Obj.map #[] 0)).alloc (Obj.map #[] 0)).alloc (Obj.map #[] 0)).alloc (Obj.map #[] 0)).alloc (Obj.map #[] 0)) 133 #[.map (some (w.heap.size + 1 + 1)), .int .i32 0, .int .u32 0, .map (some (w.heap.size + 1 + 1 + 1)), .int .i32 0, .int .u32 0, .map (some (w.heap.size + 1 + 1 + 1 + 1)), .int .i32 0, .int .u32 0, .map (some (w.heap.size + 1 + 1 + 1 + 1 + 1)), .int .i32 0, .int .u32 0, .map (some w.heap.size), .map (some (w.heap.size + 1)), .int .i32 0, .int .u32 0, .int .u32 1], rfl, rfl, rfl, rfl⟩, em_alloc (em_alloc (em_alloc (em_alloc (em_alloc (by simpa using em_new (w.alloc (Obj.map #[] 0)) t) _) _) _) _) _⟩, ?_⟩
  exact (((((((Below.refl _ _).alloc (by simp) _).alloc (by simp) _).alloc (by simp; omega) _).alloc (by simp; omega) _).alloc (by simp; omega) _).alloc (by simp; omega) _).alloc (by simp; omega) _
noncomputable def zcs : Array Value := match (Try.prog.info? 102).bind (fun i => i.zero) with | some (.agg cs) => cs | _ => #[]
noncomputable def scn (q m : Nat) : Array Value := (zcs.setIfInBounds 8 (.pointer (some ⟨q, 0, none⟩))).setIfInBounds 12 (.map (some m))
theorem scn8 (q m : Nat) : (scn q m)[8]? = some (.pointer (some ⟨q, 0, none⟩)) := by kernel_rfl
theorem scn11 (q m : Nat) : (scn q m)[11]? = some (.slice none 0 0) := by kernel_rfl
theorem scnSize (q m : Nat) : (scn q m).size = 117 := by kernel_rfl
def New (w : World) (t : ByteArray) (e : Ending) (w' : World) : Prop :=
  ∃ p q g, w.heap.size ≤ p ∧ w.heap.size ≤ q ∧ w.heap.size ≤ g ∧ e = .returned (.pointer (some ⟨p, 0, none⟩)) ∧ Sca w' p q (.slice none 0 0) ∧ Cac w' q g 1 t [] ∧ Below w.heap.size w w'
theorem cac_alloc {w : World} {q g nx : Nat} {t : ByteArray} {al : List (Bool × Nat)} (h : Cac w q g nx t al) (o : Obj) : Cac (w.alloc o) q g nx t al :=
  h.kept (Below.heap_alloc w o q h.lt.1) (Below.heap_alloc w o g h.lt.2)
set_option maxHeartbeats 4000000 in
set_option maxRecDepth 100000 in
theorem new5 (w : World) (t : ByteArray) : Calls Try.prog 5 #[] w (New w t) := by
  have hmm := @run_makeMap Try.prog
  go_enter Try.func5, Try.ntmps5
  go_wp2_with fail
  refine (mk9 w t).mono ?_
  intro e w1 hM
  obtain ⟨q, g, hq, hg, rfl, hC, hB⟩ := hM
  have HC := Lib.hid hC
  have HB := Lib.hid hB
  clear hC hB
  go_wp2_with (refine wpList_buildTo rfl 102 _ rfl (some 3) rfl (scn q w1.heap.size) (by kernel_rfl) ?_)
  go_ret
  refine ⟨w1.heap.size + 1, q, g, by have := HB.out.size; omega, hq, hg, rfl, ⟨⟨_, by simpa using Row.newArr (w1.alloc (Obj.map #[] 0)) 102 (scn q w1.heap.size), by simpa using scnSize q _, by simpa using scn8 q _, by simpa using scn11 q _⟩⟩, cac_alloc (cac_alloc HC.out _) _, (HB.out.alloc HB.out.size _).alloc (by have := HB.out.size; simp; omega) _⟩
theorem len8 (w : World) (p q n c : Nat) (A : Option Addr) (h : Sca w p q (.slice A n c)) (hn : n ≤ 20000) : Calls Try.prog 8 #[.pointer (some ⟨p, 0, none⟩)] w fun e w' => e = .returned (.int .i64 (n : Int)) ∧ w = w' := by
  obtain ⟨ys, hr, hyl, h8, h11⟩ := h.row
  have c11 := hr.at_ h11
  clear hr hyl h8 h11
  go_enter Try.func8, Try.ntmps8
  go_wp2_with fail
  go_ret
  exact ⟨rfl, rfl⟩
set_option maxRecDepth 100000 in
theorem norm6 (w : World) (p : Nat) (t : ByteArray) (Q : Ending → World → Prop) (hQ : ∀ e w', Q e w' → ∃ r : Nat, e = .returned (.int .u32 (r : Int))) (h : Calls Try.prog 10 #[.pointer (some ⟨p, 0, none⟩), .agg (pth t), .int .u8 (kd false)] w Q) :
    Calls Try.prog 6 #[.pointer (some ⟨p, 0, none⟩), .string t] w Q := by
  have H := Lib.hid h
  have HQ := Lib.hid hQ
  clear h hQ
  unfold pth kd at H
  simp only [Bool.false_eq_true, if_false] at H
  go_enter Try.func6, Try.ntmps6
  go_wp2_with fail
  refine H.out.mono ?_
  intro e w' hq
  obtain ⟨v, rfl⟩ := HQ.out e w' hq
  have HQQ := Lib.hid hq
  clear hq
  go_wp2_with fail
  exact HQQ.out
set_option maxRecDepth 100000 in
theorem stub7 (w : World) (p : Nat) (t : ByteArray) (Q : Ending → World → Prop) (hQ : ∀ e w', Q e w' → ∃ r : Nat, e = .returned (.int .u32 (r : Int))) (h : Calls Try.prog 10 #[.pointer (some ⟨p, 0, none⟩), .agg (pth t), .int .u8 (kd true)] w Q) :
    Calls Try.prog 7 #[.pointer (some ⟨p, 0, none⟩), .string t] w Q := by
  have H := Lib.hid h
  have HQ := Lib.hid hQ
  clear h hQ
  unfold pth kd at H
  simp only [if_true] at H
  go_enter Try.func7, Try.ntmps7
  go_wp2_with fail
  refine H.out.mono ?_
  intro e w' hq
  obtain ⟨v, rfl⟩ := HQ.out e w' hq
  have HQQ := Lib.hid hq
  clear hq
  go_wp2_with fail
  exact HQQ.out
theorem bytes4 (s : ByteArray) (w : World) (hs : s.size ≤ maxLen) : Calls Try.prog 4 #[.string s] w fun e w' => e = .returned (.bool (decide (s.size ≤ 1048576))) ∧ w = w' := by
  unfold maxLen at hs
  by_cases h : s.size ≤ 1048576
  · go_enter Try.func4, Try.ntmps4
    go_wp2
    go_ret
    exact ⟨ret_bool (by simp [h]), rfl⟩
  · go_enter Try.func4, Try.ntmps4
    go_wp2
    go_ret
    exact ⟨ret_bool (by simp [h]), rfl⟩
theorem al_ret {w : World} {p q g nx nr : Nat} {t : ByteArray} {al : List (Bool × Nat)} {b : Bool} : ∀ e w', Al w p q g nx nr t al b e w' → ∃ r : Nat, e = .returned (.int .u32 (r : Int)) := fun e w' ⟨r, _, _, _, he, _⟩ => ⟨r, he⟩
theorem res_form {w : World} {rv : Value} {n c : Nat} (h : Res w rv n c) : (∃ A, rv = .slice A n c) ∧ n ≤ 20000 := by
  obtain ⟨h1, h2, ⟨h3, h4, h5⟩ | ⟨g', cs, h3, _⟩⟩ := h
  · exact ⟨⟨none, by rw [h3, h4, h5]⟩, by omega⟩
  · exact ⟨⟨_, h3⟩, by omega⟩
set_option maxHeartbeats 4000000 in
set_option maxRecDepth 100000 in
theorem law_go (t : ByteArray) (w : World) (hs : t.size ≤ 65536) :
    Calls Try.prog 3 #[.string t] w fun e w' => e = .returned (.bool true) ∧ Below w.heap.size w w' := by
  have K4 := Lib.hid (bytes4 t w (by unfold maxLen; omega))
  rw [show decide (t.size ≤ 1048576) = true by simp; omega] at K4
  go_enter Try.func3, Try.ntmps3
  go_wp2_with fail
  refine K4.out.mono ?_
  rintro e w' ⟨rfl, rfl⟩
  go_wp2_with fail
  refine (new5 w t).mono ?_
  rintro e w1 ⟨p, q, g, hp, hq, hg, rfl, hS, hC, hB⟩
  have K6 := Lib.hid (norm6 w1 p t _ al_ret (al10 w1 p q g 1 0 0 _ t [] false hS hC ⟨Nat.le_refl _, by omega, .inl ⟨rfl, rfl, rfl⟩⟩ (by omega) (fun r h => by cases h)))
  have HB := Lib.hid hB
  clear hS hC hB K4
  go_wp2_with fail
  refine K6.out.mono ?_
  rintro e w2 ⟨r2, rv2, nr2, cr2, rfl, hn2, hI2, hS2, hR2, hF2⟩
  obtain ⟨rfl, hC2⟩ : r2 = 1 ∧ Cac w2 q g 2 t [(false, 1)] := by
    rcases hI2 with ⟨h, _⟩ | ⟨_, h, hC⟩
    · cases h
    · exact ⟨h, hC⟩
  obtain rfl : nr2 = 2 := by omega
  have K7 := Lib.hid (stub7 w2 p t _ al_ret (al10 w2 p q g 2 2 cr2 rv2 t [(false, 1)] true hS2 hC2 hR2 (by omega) (fun r h => by cases h)))
  have HB2 := Lib.hid (HB.out.trans (hF2.below hp hq hg HB.out.size))
  clear hI2 hS2 hR2 hF2 hC2 hn2 K6
  go_wp2_with fail
  refine K7.out.mono ?_
  rintro e w3 ⟨r3, rv3, nr3, cr3, rfl, hn3, hI3, hS3, hR3, hF3⟩
  obtain ⟨rfl, hC3⟩ : r3 = 2 ∧ Cac w3 q g 3 t [(false, 1), (true, 2)] := by
    rcases hI3 with ⟨h, _⟩ | ⟨_, h, hC⟩
    · cases h
    · exact ⟨h, hC⟩
  obtain rfl : nr3 = 3 := by omega
  have K6 := Lib.hid (norm6 w3 p t _ al_ret (al10 w3 p q g 3 3 cr3 rv3 t [(false, 1), (true, 2)] false hS3 hC3 hR3 (by omega) (fun r h => by have h' : some 1 = some r := h; injection h' with h'; omega)))
  have HB3 := Lib.hid (HB2.out.trans (hF3.below hp hq hg HB2.out.size))
  clear hI3 hS3 hR3 hF3 hC3 hn3 K7
  go_wp2_with fail
  refine K6.out.mono ?_
  rintro e w4 ⟨r4, rv4, nr4, cr4, rfl, hn4, hI4, hS4, hR4, hF4⟩
  obtain ⟨rfl, hC4⟩ : r4 = 1 ∧ Cac w4 q g 3 t [(false, 1), (true, 2)] := by
    rcases hI4 with ⟨h, hC⟩ | ⟨h, _⟩
    · have h' : some 1 = some r4 := h
      injection h' with h'
      exact ⟨h'.symm, hC⟩
    · cases h
  obtain rfl : nr4 = 3 := by omega
  have K7 := Lib.hid (stub7 w4 p t _ al_ret (al10 w4 p q g 3 3 cr4 rv4 t [(false, 1), (true, 2)] true hS4 hC4 hR4 (by omega) (fun r h => by have h' : some 2 = some r := h; injection h' with h'; omega)))
  have HB4 := Lib.hid (HB3.out.trans (hF4.below hp hq hg HB3.out.size))
  clear hI4 hS4 hR4 hF4 hC4 hn4 K6
  go_wp2_with fail
  refine K7.out.mono ?_
  rintro e w5 ⟨r5, rv5, nr5, cr5, rfl, hn5, hI5, hS5, hR5, hF5⟩
  obtain rfl : r5 = 2 := by
    rcases hI5 with ⟨h, hC⟩ | ⟨h, _⟩
    · have h' : some 2 = some r5 := h
      injection h' with h'
      exact h'.symm
    · cases h
  obtain rfl : nr5 = 3 := by omega
  obtain ⟨⟨A5, rfl⟩, hl5⟩ := res_form hR5
  have K8 := Lib.hid (len8 w5 p q 3 cr5 A5 hS5 hl5)
  have HB5 := Lib.hid (HB4.out.trans (hF5.below hp hq hg HB4.out.size))
  clear hI5 hS5 hR5 hF5 hn5 K7
  go_wp2_with fail
  refine K8.out.mono ?_
  rintro e w' ⟨rfl, rfl⟩
  go_wp2_with fail
  go_ret
  exact ⟨rfl, HB5.out⟩
theorem law (a0 : ByteArray) (w : World) (w0 : a0.size ≤ maxLen) :
    Calls Try.prog 3 #[.string a0] w fun e w' => e = .returned (.bool true) ∧ Below w.heap.size w w' := by
  by_cases hs : a0.size ≤ 65536
  · exact law_go a0 w hs
  · have K4 := Lib.hid (bytes4 a0 w w0)
    unfold maxLen at w0
    by_cases hs2 : a0.size ≤ 1048576
    · rw [show decide (a0.size ≤ 1048576) = true by simp [hs2]] at K4
      go_enter Try.func3, Try.ntmps3
      go_wp2_with fail
      refine K4.out.mono ?_
      rintro e w' ⟨rfl, rfl⟩
      go_wp2_with fail
      go_ret
      exact ⟨rfl, Below.refl _ _⟩
    · rw [show decide (a0.size ≤ 1048576) = false by simp; omega] at K4
      go_enter Try.func3, Try.ntmps3
      go_wp2_with fail
      refine K4.out.mono ?_
      rintro e w' ⟨rfl, rfl⟩
      go_wp2_with fail
      go_ret
      exact ⟨rfl, Below.refl _ _⟩
end Go.Proofs.Ytpagdibnhdfbfac.AlC
