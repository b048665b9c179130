/- FnAllocateTopLevelSymbolSlotsFirstSeenOrder: Get, the slots. -/
import Derived.Test.YtidcbknnjpecbaaRows
import Derived.Test.YtidcbknnjpecbaaMem
import Derived.Test.YtidcbknnjpecbaaSl
import Derived.Test.YtidcbknnjpecbaaAtC
import Derived.Great.BuildSlice
import Derived.Deep.RegionLaw
import Derived.Deep.RegionHeld3
import Derived.Maps.AppendAt
import Derived.WalkKit
import Derived.ProofKit
import Derived.OpenShut
import Derived.Below
import Derived.WalkLawsBesides
import Derived.Lib.Hide
import Derived.Outline
import Derived.RegionTactic
import Derived.Deep.QuietTactic
import Derived.BigQuiet
import Derived.WalkSpells
import Derived.Deep.OwnRows
import Derived.IntWalk
import Derived.Deep.DeepMust
namespace Go.Proofs.Ytidcbknnjpecbaa.AtD
open Go.RowKit Mem Sl
set_option linter.unusedVariables false
open Args AtA AtB AtP AtC MapK Go.Proofs.Ytidcbknnjpecbaa.Arr Go.Maps

set_option maxHeartbeats 2000000 in
theorem get23 (q g n i : Nat) (K F : List Int) (w : World) (h : Syms w q g n K F) (hi : i < n) (hn : n ≤ 4096) :
    Calls Try.prog 23 #[.agg #[.slice (some ⟨q, 0, none⟩) 1 1], refv i] w fun e w' => e = .returned (.pointer (some ⟨g, i * 10, none⟩)) ∧ Below w.heap.size w w' := by
  have h2 := (h.row.alloc (.cells #[.slice (some ⟨q, 0, none⟩) 1 1] 30)).alloc (.cells #[.int .u32 0, .int .u32 (i : Int)] 50)
  have r1 := (Row.newArr w 30 #[.slice (some ⟨q, 0, none⟩) 1 1]).alloc (.cells #[.int .u32 0, .int .u32 (i : Int)] 50)
  have r2 := Row.newArr (w.alloc (.cells #[.slice (some ⟨q, 0, none⟩) 1 1] 30)) 50 #[.int .u32 0, .int .u32 (i : Int)]
  simp only [World.alloc, Array.size_push] at r2
  have c0 := h2.at_ (i := 0) rfl
  have c1 := r1.at_ (i := 0) rfl
  have c2 := r2.at_ (i := 0) rfl
  have c3 := r2.at_ (i := 1) rfl
  have HB := Lib.hid (((Below.refl w.heap.size w).alloc (Nat.le_refl _) (.cells #[.slice (some ⟨q, 0, none⟩) 1 1] 30)).alloc (by simp) (.cells #[.int .u32 0, .int .u32 (i : Int)] 50))
  have i1 : (i : Int) < (n : Int) := by omega
  have i0 : (0 : Int) ≤ (i : Int) := by omega
  clear h h2 r1 r2
  unfold refv
  go_enter Try.func23, Try.ntmps23
  go_wp2
  go_quiet (fail)
  go_wp2
  go_ret
  exact ⟨rfl, below_drewN HB.out _⟩

/-- The cells of slots. -/
def sl (L : List (Int × Int)) : List Value := L.flatMap fun p => [.string ByteArray.empty, .int .u32 p.1, .int .u32 p.2]
theorem sl_length (L : List (Int × Int)) : (sl L).length = L.length * 3 := by
  induction L with
  | nil => rfl
  | cons a t ih => simp only [sl, List.flatMap_cons, List.length_append, List.length_cons, List.length_nil] at ih ⊢; omega
theorem sl_cons (a : Int × Int) (t : List (Int × Int)) : sl (a :: t) = [.string ByteArray.empty, .int .u32 a.1, .int .u32 a.2] ++ sl t := by simp [sl]
theorem sl_append (L M : List (Int × Int)) : sl (L ++ M) = sl L ++ sl M := by simp [sl]
theorem sl_at : ∀ (L : List (Int × Int)) (k : Nat) (x y : Int), L[k]? = some (x, y) → (sl L)[k * 3 + 1]? = some (.int .u32 x) ∧ (sl L)[k * 3 + 2]? = some (.int .u32 y)
  | [], k, x, y, h => by simp at h
  | a :: t, 0, x, y, h => by
    simp at h
    subst h
    rw [sl_cons]
    exact ⟨rfl, rfl⟩
  | a :: t, k + 1, x, y, h => by
    have ih := sl_at t k x y (by simpa using h)
    rw [sl_cons, show (k + 1) * 3 + 1 = (k * 3 + 1) + 3 by omega, show (k + 1) * 3 + 2 = (k * 3 + 2) + 3 by omega, List.getElem?_append_right (by simp), List.getElem?_append_right (by simp)]
    simpa using ih
theorem sl_set : ∀ (L : List (Int × Int)) (k : Nat) (x y : Int), L[k]? = some (x, y) → ∀ z, (sl L).set (k * 3 + 1) (.int .u32 z) = sl (L.set k (z, y)) ∧ (sl L).set (k * 3 + 2) (.int .u32 z) = sl (L.set k (x, z))
  | [], k, x, y, h, _ => by simp at h
  | a :: t, 0, x, y, h, z => by
    simp at h
    subst h
    rw [sl_cons]
    exact ⟨rfl, rfl⟩
  | a :: t, k + 1, x, y, h, z => by
    have ih := sl_set t k x y (by simpa using h) z
    rw [sl_cons, show (k + 1) * 3 + 1 = (k * 3 + 1) + 3 by omega, show (k + 1) * 3 + 2 = (k * 3 + 2) + 3 by omega, List.set_append_right _ _ (by simp), List.set_append_right _ _ (by simp), List.set_cons_succ, List.set_cons_succ, sl_cons, sl_cons]
    simp only [List.length_cons, List.length_nil, Nat.zero_add, Nat.reduceAdd, Nat.add_sub_cancel]
    exact ⟨by rw [ih.1], by rw [ih.2]⟩
/-- The slots L lie in block g, which is the call's own. -/
def Sb (w : World) (B g cap : Nat) (L : List (Int × Int)) : Prop := w.ownsRow B 83 3 (.slice (some ⟨g, 0, none⟩) L.length cap) L.length (sl L)
section
variable {w w' : World} {B g cp : Nat} {L : List (Int × Int)}
theorem Sb.lt (h : Sb w B g cp L) : B ≤ g ∧ g < w.heap.size := World.ownsRow.lt h g rfl
theorem Sb.cnt (h : Sb w B g cp L) {k : Nat} {x y : Int} (hk : L[k]? = some (x, y)) : w.cell? ⟨g, k * 3 + 1, none⟩ = some (.int .u32 x) := by
  have hl := (List.getElem?_eq_some_iff.1 hk).1
  rw [World.ownsRow.cellAt h _ (by omega)]
  exact (sl_at L k x y hk).1
theorem Sb.cap (h : Sb w B g cp L) {k : Nat} {x y : Int} (hk : L[k]? = some (x, y)) : w.cell? ⟨g, k * 3 + 2, none⟩ = some (.int .u32 y) := by
  have hl := (List.getElem?_eq_some_iff.1 hk).1
  rw [World.ownsRow.cellAt h _ (by omega)]
  exact (sl_at L k x y hk).2
theorem Sb.frozen (h : Sb w B g cp L) (i : Nat) : w.frozen? ⟨g, i, none⟩ = false := World.ownsRow.frozenAt h i
theorem Sb.set1 (h : Sb w B g cp L) {k : Nat} {x y : Int} (hk : L[k]? = some (x, y)) (z : Int) : Sb (w.setCell ⟨g, k * 3 + 1, none⟩ (.int .u32 z)) B g cp (L.set k (z, y)) := by
  have := (World.ownsRow.stored h (k * 3 + 1) (.int .u32 z)).1
  rw [(sl_set L k x y hk z).1] at this
  unfold Sb
  rw [List.length_set]
  exact this
theorem Sb.set2 (h : Sb w B g cp L) {k : Nat} {x y : Int} (hk : L[k]? = some (x, y)) (z : Int) : Sb (w.setCell ⟨g, k * 3 + 2, none⟩ (.int .u32 z)) B g cp (L.set k (x, z)) := by
  have := (World.ownsRow.stored h (k * 3 + 2) (.int .u32 z)).1
  rw [(sl_set L k x y hk z).2] at this
  unfold Sb
  rw [List.length_set]
  exact this
theorem Sb.grown {row : Option Nat} (h : Sb w B g cp L) (hg : w.grownBy w' row) (hne : some g ≠ row) : Sb w' B g cp L := World.ownsRow.kept h hg (.inr hne)
theorem Sb.far (h : Sb w B g cp L) {p : Addr} (hp : g ≠ p.block) (u : Value) : Sb (w.setCell p u) B g cp L := by
  refine World.ownsRow.kept (row := some p.block) h ⟨rfl, rfl, rfl, by simp, fun k _ hk => heap_setCell_other w p k u (fun e => hk (by simp [e]))⟩ (.inr ?_)
  intro e
  injection e with e
  exact hp e
theorem Sb.below {C : Nat} (h : Sb w B g cp L) (hb : Below C w w') (hg : g < C) : Sb w' B g cp L := by
  refine ⟨h.1, ?_⟩
  rcases h.2 with ⟨h', _⟩ | ⟨g', cap', cur, h', r1, r2, r3⟩
  · simp at h'
  · have e := h'
    simp only [Value.slice.injEq, Option.some.injEq, Addr.mk.injEq] at e
    exact .inr ⟨g', cap', cur, h', r1, (hb.block g' (by omega)).trans r2, r3⟩
end
/-- The renamer at p after the entries of m. -/
structure Rn (w : World) (B p mb : Nat) (rb sm : Value) (A2 A3 : Option Addr) (ini : Nat → Nat) (cap : Nat → Int) (m : Md) (g0 c0 g1 c1 : Nat) (f : Value → Option Value) (cnt : Nat) : Prop where
  row : Row w p 58 [rb, .slice (some ⟨g0, 0, none⟩) (ini 0 + (m.o 0).length) c0, .slice (some ⟨g1, 0, none⟩) (ini 1 + (m.o 1).length) c1, .slice A2 0 0, .slice A3 0 0, .map (some mb), sm]
  b0 : Sb w B g0 c0 (slotsL (ini 0) cap m.sum (m.o 0))
  b1 : Sb w B g1 c1 (slotsL (ini 1) cap m.sum (m.o 1))
  ne : g0 ≠ g1
  mp : MapF Try.prog w mb 50 cnt f
  no : ∀ i, m.fst i < 0 → f (refv i) = none
  at_ : ∀ s q i, (m.o s)[q]? = some i → f (refv i) = some (.int .u32 ((ini s + q : Nat) : Int))
  pB : B ≤ p
  mB : B ≤ mb
theorem Rn.below {w w' : World} {B p mb : Nat} {rb sm : Value} {A2 A3 : Option Addr} {ini : Nat → Nat} {cap : Nat → Int} {m : Md} {g0 c0 g1 c1 : Nat} {f : Value → Option Value} {cnt : Nat} (h : Rn w B p mb rb sm A2 A3 ini cap m g0 c0 g1 c1 f cnt) (hb : Below w.heap.size w w') : Rn w' B p mb rb sm A2 A3 ini cap m g0 c0 g1 c1 f cnt :=
  ⟨h.row.below hb h.row.lt, h.b0.below hb h.b0.lt.2, h.b1.below hb h.b1.lt.2, h.ne, h.mp.below hb h.mp.lt, h.no, h.at_, h.pB, h.mB⟩
theorem zero23 (w : World) : (zeroValue 23).run Try.prog w = .ok (.int .u32 0) w := by kernel_rfl
theorem key_ref (i : Nat) (hi : i ≤ 100000) : KeyV Try.prog 50 (refv i) := by
  have hw : (Lit.int .u32 (i : Int)).wf = true := WalkArith.wf_u32 (by omega)
  have hw0 : (Lit.int .u32 0).wf = true := by decide
  have k1 : Try.prog.keyType 50 = true := by kernel_rfl
  have k2 : (refv i).formed Try.prog 50 = true := by kernel_rfl
  have k3 : Try.prog.cellsOf 50 = 2 := by kernel_rfl
  have k4 : Try.prog.cellsOf 23 = 1 := by kernel_rfl
  have k5 : 1 ≤ Try.prog.types.size := Nat.le_of_ble_eq_true (by kernel_rfl)
  obtain ⟨m, hm⟩ : ∃ m, Try.prog.types.size + 1 = m + 1 + 1 := ⟨Try.prog.types.size - 1, by omega⟩
  unfold KeyV keyOf
  rw [k1, k2, hm]
  simp [Try.underlying50, Program.keyLits, Try.underlying23, k3, k4, refv, Value.cells, hw, hw0]

section
variable {w : World} {B p mb : Nat} {rb sm : Value} {A2 A3 : Option Addr} {ini : Nat → Nat} {cp : Nat → Int} {m : Md} {g0 c0 g1 c1 : Nat} {f : Value → Option Value} {cnt : Nat}
def lenS (ini : Nat → Nat) (m : Md) (s : Nat) : Nat := if s < 2 then ini s + (m.o s).length else 0
theorem len12 (h : Rn w B p mb rb sm A2 A3 ini cp m g0 c0 g1 c1 f cnt) (s : Nat) (hs : s < 4) : Calls Try.prog 12 #[.pointer (some ⟨p, 0, none⟩), .int .i64 (s : Int)] w fun e w' => e = .returned (.int .i64 (lenS ini m s : Nat)) ∧ w = w' := by
  have r1 := h.row.at_ (i := 1) rfl
  have r2 := h.row.at_ (i := 2) rfl
  have r3 := h.row.at_ (i := 3) rfl
  have r4 := h.row.at_ (i := 4) rfl
  have e : s = 0 ∨ s = 1 ∨ s = 2 ∨ s = 3 := by omega
  clear h
  rcases e with rfl | rfl | rfl | rfl
  all_goals
    unfold lenS
    go_enter Try.func12, Try.ntmps12
    go_wp2
    go_ret
    exact ⟨rfl, rfl⟩
theorem cnt15 (h : Rn w B p mb rb sm A2 A3 ini cp m g0 c0 g1 c1 f cnt) (s k : Nat) (hs : s < 2) (x y : Int) (hk : (slotsL (ini s) cp m.sum (m.o s))[k]? = some (x, y)) : Calls Try.prog 15 #[.pointer (some ⟨p, 0, none⟩), .int .i64 (s : Int), .int .i64 (k : Int)] w fun e w' => e = .returned (.int .u32 x) ∧ w = w' := by
  have r1 := h.row.at_ (i := 1) rfl
  have r2 := h.row.at_ (i := 2) rfl
  have e : s = 0 ∨ s = 1 := by omega
  have hl := (List.getElem?_eq_some_iff.1 hk).1
  rw [slotsL_len] at hl
  rcases e with rfl | rfl
  · have q := h.b0.cnt hk
    generalize ini 0 + (m.o 0).length = l0 at *
    have i1 : (k : Int) < (l0 : Int) := by omega
    have i0 : (0 : Int) ≤ (k : Int) := by omega
    clear h hk
    go_enter Try.func15, Try.ntmps15
    go_wp2
    go_ret
    exact ⟨rfl, rfl⟩
  · have q := h.b1.cnt hk
    generalize ini 1 + (m.o 1).length = l0 at *
    have i1 : (k : Int) < (l0 : Int) := by omega
    have i0 : (0 : Int) ≤ (k : Int) := by omega
    clear h hk
    go_enter Try.func15, Try.ntmps15
    go_wp2
    go_ret
    exact ⟨rfl, rfl⟩
theorem cap16 (h : Rn w B p mb rb sm A2 A3 ini cp m g0 c0 g1 c1 f cnt) (s k : Nat) (hs : s < 2) (x y : Int) (hk : (slotsL (ini s) cp m.sum (m.o s))[k]? = some (x, y)) : Calls Try.prog 16 #[.pointer (some ⟨p, 0, none⟩), .int .i64 (s : Int), .int .i64 (k : Int)] w fun e w' => e = .returned (.int .u32 y) ∧ w = w' := by
  have r1 := h.row.at_ (i := 1) rfl
  have r2 := h.row.at_ (i := 2) rfl
  have e : s = 0 ∨ s = 1 := by omega
  have hl := (List.getElem?_eq_some_iff.1 hk).1
  rw [slotsL_len] at hl
  rcases e with rfl | rfl
  · have q := h.b0.cap hk
    generalize ini 0 + (m.o 0).length = l0 at *
    have i1 : (k : Int) < (l0 : Int) := by omega
    have i0 : (0 : Int) ≤ (k : Int) := by omega
    clear h hk
    go_enter Try.func16, Try.ntmps16
    go_wp2
    go_ret
    exact ⟨rfl, rfl⟩
  · have q := h.b1.cap hk
    generalize ini 1 + (m.o 1).length = l0 at *
    have i1 : (k : Int) < (l0 : Int) := by omega
    have i0 : (0 : Int) ≤ (k : Int) := by omega
    clear h hk
    go_enter Try.func16, Try.ntmps16
    go_wp2
    go_ret
    exact ⟨rfl, rfl⟩
theorem top13 (h : Rn w B p mb rb sm A2 A3 ini cp m g0 c0 g1 c1 f cnt) (i : Nat) (hi : i ≤ 100000) : Calls Try.prog 13 #[.pointer (some ⟨p, 0, none⟩), refv i] w fun e w' => e = .returned (.tuple #[(f (refv i)).getD (.int .u32 0), .bool (f (refv i)).isSome]) ∧ Below w.heap.size w w' := by
  have hr := h.row.alloc (.cells #[.int .u32 0, .int .u32 (i : Int)] 50)
  have r5 := hr.at_ (i := 5) rfl
  have r1 := Row.newArr w 50 #[.int .u32 0, .int .u32 (i : Int)]
  have b0 := r1.at_ (i := 0) rfl
  have b1 := r1.at_ (i := 1) rfl
  have hlk := MapF.look_ok (h.mp.alloc (.cells #[.int .u32 0, .int .u32 (i : Int)] 50)).drew Try.underlying56 keyed50 (key_ref i hi) (zero23 _)
  have HB := Lib.hid ((Below.refl w.heap.size w).alloc (Nat.le_refl _) (.cells #[.int .u32 0, .int .u32 (i : Int)] 50))
  generalize hv : (f (refv i)).getD (.int .u32 0) = v at *
  generalize (f (refv i)).isSome = b at *
  unfold refv at hlk
  clear h hr r1 hv
  unfold refv
  go_enter Try.func13, Try.ntmps13
  go_wp2
  go_region_held3 (fun w' => w'.cell? ⟨p, 5, none⟩ = some (.map (some mb)) ∧ w'.cell? ⟨w.heap.size, 0, none⟩ = some (.int .u32 0) ∧ w'.cell? ⟨w.heap.size, 1, none⟩ = some (.int .u32 (i : Int)) ∧ (Instr.lookup 56 (.map (some mb)) (.agg #[.int .u32 0, .int .u32 (i : Int)]) true).run Try.prog w' = .ok (.tuple #[v, .bool b]) w') (first | exact ⟨r5, b0, b1, hlk⟩ | assumption) (fail)
  all_goals
    go_wp2
    go_ret2
    exact ⟨rfl, HB.out.drew⟩
end
end Go.Proofs.Ytidcbknnjpecbaa.AtD
