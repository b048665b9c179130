/- FnIsIdentOrNumNegation: the law's walk. -/
import Derived.Test.YtdifphanmemmlaaRows
import Derived.Test.YtdifphanmemmlaaBitsP
import Derived.Test.YtdifphanmemmlaaFloatP
import Derived.WalkKit
import Derived.ProofKit
import Derived.OpenShut
import Derived.Below
import Derived.WalkLawsBesides
import Derived.Lib.Hide
import Derived.Outline
import Derived.RegionTactic
namespace Go.Proofs.Ytdifphanmemmlaa.Neg
open Go.RowKit BitsP
def big (b : Nat) : Bool := FloatKind.f64.format.order b 9218868437227405311 == some .gt
def nan (b : Nat) : Bool := FloatKind.f64.format.order b b != some .eq
theorem isInf (b : Nat) (w : World) :
    Calls Try.prog 20 #[.float .f64 b, .int .i64 1] w fun e w' => e = .returned (.bool (big b)) ∧ w = w' := by
  go_enter Try.func20, Try.ntmps20
  go_wp2
  go_ret
  exact ⟨rfl, rfl⟩
theorem isNaN (b : Nat) (w : World) :
    Calls Try.prog 21 #[.float .f64 b] w fun e w' => e = .returned (.bool (nan b)) ∧ w = w' := by
  go_enter Try.func21, Try.ntmps21
  go_wp2
  go_ret
  exact ⟨rfl, rfl⟩
theorem ta98 (a : Option Addr) (w : World) : (Instr.typeAssert (.iface 32 (.pointer a)) 36 98 true).run Try.prog w = .ok (.tuple #[.pointer none, .bool false]) w := by kernel_rfl
theorem ta99 (a : Option Addr) (w : World) : (Instr.typeAssert (.iface 32 (.pointer a)) 36 99 true).run Try.prog w = .ok (.tuple #[.pointer none, .bool false]) w := by kernel_rfl
theorem ta100 (a : Option Addr) (w : World) : (Instr.typeAssert (.iface 32 (.pointer a)) 36 100 true).run Try.prog w = .ok (.tuple #[.pointer none, .bool false]) w := by kernel_rfl
theorem ta32 (a : Option Addr) (w : World) : (Instr.typeAssert (.iface 32 (.pointer a)) 36 32 true).run Try.prog w = .ok (.tuple #[.pointer a, .bool true]) w := by kernel_rfl
set_option maxRecDepth 100000 in
theorem isid (b bl : Nat) (pv : Value) (w : World) (hbl : bl < w.heap.size) (hc : w.cell? ⟨bl, 0, none⟩ = some (.float .f64 b)) (x y : Bool) (hx : big b = x) (hy : nan b = y) :
    Calls Try.prog 19 #[pv, .agg #[.iface 32 (.pointer (some ⟨bl, 0, none⟩)), .int .i32 0]] w fun e w' => e = .returned (.bool (x || y)) ∧ Below w.heap.size w w' := by
  have t1 := ta98
  have t2 := ta99
  have t3 := ta100
  have t4 := ta32
  cases x <;> cases y
  all_goals
    go_enter Try.func19, Try.ntmps19
    go_wp2_with (first | (go_at_call 20; refine (isInf _ _).mono ?_; rintro e w' ⟨rfl, rfl⟩) | (go_at_call 21; refine (isNaN _ _).mono ?_; rintro e w' ⟨rfl, rfl⟩))
    go_ret
    exact ⟨rfl, (Below.refl _ _).alloc (by simp) _⟩
noncomputable def zcs : Array Value := match (Try.prog.info? 97).bind (fun i => i.zero) with | some (.agg cs) => cs | _ => #[]
theorem zero97 (w : World) : (zeroValue 97).run Try.prog w = .ok (.agg zcs) w := by kernel_rfl
set_option maxRecDepth 100000 in
theorem zz (b bl : Nat) (w : World) (hbl : bl < w.heap.size) (hc : w.cell? ⟨bl, 0, none⟩ = some (.float .f64 b)) (x y : Bool) (hx : big b = x) (hy : nan b = y) :
    Calls Try.prog 13 #[.agg #[.iface 32 (.pointer (some ⟨bl, 0, none⟩)), .int .i32 0]] w fun e w' => e = .returned (.bool (x || y)) ∧ Below w.heap.size w w' := by
  have hz := zero97
  have HX := Lib.hid hx
  have HY := Lib.hid hy
  clear hx hy
  go_enter Try.func13, Try.ntmps13
  go_wp2_with fail
  refine (isid b bl _ _ ?_ ?_ x y HX.out HY.out).mono ?_
  · simp; omega
  · rw [World.cell?_alloc_lt _ _ _ (by simp; omega), World.cell?_alloc_lt _ _ _ hbl]; exact hc
  rintro e w' ⟨rfl, hb⟩
  go_wp2_with fail
  go_ret
  refine ⟨rfl, ?_⟩
  refine Below.trans ?_ (hb.mono (by simp; omega))
  repeat (first | exact Below.refl _ _ | apply Below.drew | (refine Below.alloc ?_ (by simp) _))
theorem below3 {w w1 w2 : World} (o o' : Obj) (hb1 : Below (w.alloc o).heap.size (w.alloc o) w1) (hb2 : Below (w1.alloc o').heap.size (w1.alloc o') w2) : Below w.heap.size w w2 := by
  have h1 : Below w.heap.size w (w.alloc o) := (Below.refl _ _).alloc (Nat.le_refl _) _
  have h2 : Below w.heap.size w w1 := h1.trans (hb1.mono (by simp))
  have h3 : Below w.heap.size w (w1.alloc o') := h2.alloc h2.size _
  exact h3.trans (hb2.mono (by have := h3.size; exact this))
set_option maxHeartbeats 400000 in
theorem law_fin (a0 nb : Nat) (w : World) (x y x' y' l : Bool) (hx : big a0 = x) (hy : nan a0 = y) (hx' : big nb = x') (hy' : nan nb = y')
    (hn : ∀ W, (Op.unary .neg (.float .f64 a0)).run Try.prog W = .ok (.float .f64 nb) W) (hl : (FloatP.D.order a0 18442240474082181119 == some .lt) = l)
    (hs : ∀ W, (binOp .sub 30 (.float .f64 a0) (.float .f64 a0)).run Try.prog W = .ok (.float .f64 0) W)
    (htab : (x || y) = false ∧ (x' || y') = false ∧ x = false ∧ y = false ∧ l = false) :
    Calls Try.prog 6 #[.float .f64 a0] w fun e w' => e = .returned (.bool true) ∧ Below w.heap.size w w' := by
  have hbig : (FloatKind.f64.format.order a0 9218868437227405311 == some .gt) = x := hx
  have hnan : (FloatKind.f64.format.order a0 a0 != some .eq) = y := hy
  have hz : (FloatKind.f64.format.order 0 0 == some .eq) = true := by decide +kernel
  have HX := Lib.hid hx
  have HY := Lib.hid hy
  have HX' := Lib.hid hx'
  have HY' := Lib.hid hy'
  clear hx hy hx' hy'
  obtain ⟨t1, t2, rfl, rfl, rfl⟩ := htab
  go_enter Try.func6, Try.ntmps6
  go_wp2_with fail
  refine (zz a0 _ _ ?_ ?_ _ _ HX.out HY.out).mono ?_
  · simp
  · simp
  rintro e w1 ⟨rfl, hb1⟩
  have HB1 := Lib.hid hb1
  clear hb1
  go_wp2_with fail
  refine (zz nb _ _ ?_ ?_ x' y' HX'.out HY'.out).mono ?_
  · simp
  · simp
  rintro e w2 ⟨rfl, hb2⟩
  have HB2 := Lib.hid hb2
  clear hb2
  go_wp2_with fail
  go_ret
  exact ⟨rfl, below3 _ _ HB1.out HB2.out⟩
set_option maxHeartbeats 400000 in
theorem law_inf (a0 nb : Nat) (w : World) (x y x' y' l : Bool) (hx : big a0 = x) (hy : nan a0 = y) (hx' : big nb = x') (hy' : nan nb = y')
    (hn : ∀ W, (Op.unary .neg (.float .f64 a0)).run Try.prog W = .ok (.float .f64 nb) W) (hl : (FloatP.D.order a0 18442240474082181119 == some .lt) = l)
    (hs0 : FloatP.D.sub a0 a0 = none)
    (htab : (x = true ∧ y = false ∧ x' = false ∧ y' = false ∧ l = false) ∨ (x = false ∧ y = false ∧ x' = true ∧ y' = false ∧ l = true) ∨ (x = false ∧ y = true ∧ x' = false ∧ y' = true ∧ l = false)) :
    Calls Try.prog 6 #[.float .f64 a0] w fun e w' => e = .returned (.bool true) ∧ Below w.heap.size w w' := by
  have hbig : (FloatKind.f64.format.order a0 9218868437227405311 == some .gt) = x := hx
  have hnan : (FloatKind.f64.format.order a0 a0 != some .eq) = y := hy
  have HX := Lib.hid hx
  have HY := Lib.hid hy
  have HX' := Lib.hid hx'
  have HY' := Lib.hid hy'
  have HS := Lib.hid hs0
  clear hx hy hx' hy' hs0
  rcases htab with ⟨rfl, rfl, rfl, rfl, rfl⟩ | ⟨rfl, rfl, rfl, rfl, rfl⟩ | ⟨rfl, rfl, rfl, rfl, rfl⟩
  all_goals
    go_enter Try.func6, Try.ntmps6
    go_wp2_with fail
    refine (zz a0 _ _ ?_ ?_ _ _ HX.out HY.out).mono ?_
    · simp
    · simp
    rintro e w1 ⟨rfl, hb1⟩
    have HB1 := Lib.hid hb1
    clear hb1
    go_wp2_with fail
    refine (zz nb _ _ ?_ ?_ _ _ HX'.out HY'.out).mono ?_
    · simp
    · simp
    rintro e w2 ⟨rfl, hb2⟩
    have HB2 := Lib.hid hb2
    clear hb2
    obtain ⟨r, hr, hrun⟩ := FloatP.run_sub_none Try.prog 30 a0 w2 HS.out
    go_wp2_with fail
    go_ret
    exact ⟨rfl, (below3 _ _ HB1.out HB2.out).drew⟩
theorem law (a0 : Nat) (w : World) (w0 : (Lit.float .f64 a0).wf = true) :
    Calls Try.prog 6 #[.float .f64 a0] w fun e w' => e = .returned (.bool true) ∧ Below w.heap.size w w' := by
  have hb : a0 < 18446744073709551616 := by simpa [Lit.wf] using w0
  rcases FloatP.facts a0 hb with h | h | h | h
  · exact law_fin a0 _ w _ _ _ _ _ h.big h.isn h.bigN h.isnN (FloatP.run_neg _ _) h.lit (fun W => FloatP.run_sub_some _ _ _ _ _ h.sub) ⟨rfl, rfl, rfl, rfl, rfl⟩
  · exact law_inf a0 _ w _ _ _ _ _ h.big h.isn h.bigN h.isnN (FloatP.run_neg _ _) h.lit h.sub (.inl ⟨rfl, rfl, rfl, rfl, rfl⟩)
  · exact law_inf a0 _ w _ _ _ _ _ h.big h.isn h.bigN h.isnN (FloatP.run_neg _ _) h.lit h.sub (.inr (.inl ⟨rfl, rfl, rfl, rfl, rfl⟩))
  · exact law_inf a0 _ w _ _ _ _ _ h.big h.isn h.bigN h.isnN (FloatP.run_neg _ _) h.lit h.sub (.inr (.inr ⟨rfl, rfl, rfl, rfl, rfl⟩))
end Go.Proofs.Ytdifphanmemmlaa.Neg
