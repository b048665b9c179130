/- FnEnforceNoCyclicChunkImportsErrsIffStaticCycle: the log. -/
import Derived.Test.YtfljkbfacncdgaaDoorRows
import Derived.Test.YtfljkbfacncdgaaDoorMem
import Derived.Test.YtfljkbfacncdgaaDoorSl
import Derived.Test.YtfljkbfacncdgaaDoorEnA
import Derived.Test.YtfljkbfacncdgaaDoorLocks
import Derived.Conc.MuLone
import Derived.Defers
import Derived.Deep.RegionHeld3
import Derived.Deep.RegionLaw
import Derived.Great.BuildSlice
import Derived.Laws.EntriesVeiled
import Derived.WalkKit
import Derived.ProofKit
import Derived.OpenShut
import Derived.Below
import Derived.WalkLawsBesides
import Derived.Lib.Hide
import Derived.Outline
import Derived.RegionTactic
import Derived.Deep.QuietTactic
import Derived.BigQuiet
import Derived.WalkSpells
import Derived.Deep.OwnRows
import Derived.IntWalk
import Derived.Deep.DeepMust
namespace Go.Proofs.YtfljkbfacncdgaaDoor.EnL
open Go.RowKit Mem Sl
set_option linter.unusedVariables false
open Args Fvs EnP EnA Locks Go.MuLone

/-- The log of blocks M (mutex), E (the flag), D (the function behind). -/
def logV (M : Nat) : Value := .agg #[.func (.func 20) #[] #[.pointer (some ⟨M, 0, none⟩), .pointer (some ⟨M + 1, 0, none⟩), .pointer (some ⟨M + 2, 0, none⟩)], .func (.func 23) #[] #[.pointer (some ⟨M, 0, none⟩), .pointer (some ⟨M + 1, 0, none⟩)], Value.nilFunc, Value.nilFunc, .int .i8 0, .map none]
structure Lg (w : World) (M : Nat) (e : Bool) : Prop where
  m0 : w.cell? ⟨M, 0, none⟩ = some (.int .i32 0)
  fm : w.frozen? ⟨M, 0, none⟩ = false
  e0 : w.cell? ⟨M + 1, 0, none⟩ = some (.bool e)
  fe : w.frozen? ⟨M + 1, 0, none⟩ = false
  d0 : w.cell? ⟨M + 2, 0, none⟩ = some (.func (.func 17) #[] #[])
  lt : M + 2 < w.heap.size
/-- What may have changed: the blocks of P, and new ones. -/
structure Fx (P : Nat → Prop) (w w' : World) : Prop where
  os : w'.os = w.os
  tape : w'.tape = w.tape
  output : w'.output = w.output
  size : w.heap.size ≤ w'.heap.size
  block : ∀ j, j < w.heap.size → ¬ P j → w'.heap[j]? = w.heap[j]?
section
variable {P Q : Nat → Prop} {w w' w'' : World}
theorem Fx.refl (P : Nat → Prop) (w : World) : Fx P w w := ⟨rfl, rfl, rfl, Nat.le_refl _, fun _ _ _ => rfl⟩
theorem Fx.trans (h : Fx P w w') (k : Fx P w' w'') : Fx P w w'' := ⟨k.os.trans h.os, k.tape.trans h.tape, k.output.trans h.output, Nat.le_trans h.size k.size, fun j hj hp => (k.block j (Nat.lt_of_lt_of_le hj h.size) hp).trans (h.block j hj hp)⟩
theorem Fx.wider (h : Fx P w w') (hq : ∀ j, P j → Q j) : Fx Q w w' := ⟨h.os, h.tape, h.output, h.size, fun j hj hp => h.block j hj (fun hh => hp (hq j hh))⟩
theorem Fx.of_below (h : Below w.heap.size w w') : Fx P w w' := ⟨h.os, h.tape, h.output, h.size, fun j hj _ => h.block j hj⟩
theorem Fx.below (h : Fx P w w') {B : Nat} (hB : B ≤ w.heap.size) (hP : ∀ j, P j → B ≤ j) : Below B w w' := ⟨h.os, h.tape, h.output, h.size, fun j hj => h.block j (Nat.lt_of_lt_of_le hj hB) (fun hp => by have := hP j hp; omega)⟩
theorem Fx.setCell (h : Fx P w w') {p : Addr} (hp : P p.block) (u : Value) : Fx P w (w'.setCell p u) :=
  ⟨h.os, h.tape, h.output, by simpa using h.size, fun j hj hn => (Below.heap_setCell w' p u j (fun e => hn (by rw [e]; exact hp))).trans (h.block j hj hn)⟩
theorem Fx.alloc (h : Fx P w w') (o : Obj) : Fx P w (w'.alloc o) :=
  ⟨h.os, h.tape, h.output, by simp; exact Nat.le_succ_of_le h.size, fun j hj hn => (Below.heap_alloc w' o j (Nat.lt_of_lt_of_le hj h.size)).trans (h.block j hj hn)⟩
theorem Fx.put (h : Fx P w w') (g o : Nat) (u : Value) (hp : P g) : Fx P w (w'.setCell ⟨g, o, none⟩ u) := h.setCell (p := ⟨g, o, none⟩) hp u
theorem Fx.cell (h : Fx P w w') {g o : Nat} (hg : g < w.heap.size) (hp : ¬ P g) : w'.cell? ⟨g, o, none⟩ = w.cell? ⟨g, o, none⟩ := World.cell?_of_block (a := ⟨g, o, none⟩) (h.block g hg hp)
theorem Fx.frozen (h : Fx P w w') {g o : Nat} (hg : g < w.heap.size) (hp : ¬ P g) : w'.frozen? ⟨g, o, none⟩ = w.frozen? ⟨g, o, none⟩ := by simp [World.frozen?, h.block g hg hp]
end
theorem Lg.kept {P : Nat → Prop} {w w' : World} {M : Nat} {e : Bool} (h : Lg w M e) (f : Fx P w w') (h0 : ¬ P M) (h1 : ¬ P (M + 1)) (h2 : ¬ P (M + 2)) : Lg w' M e := by
  have l := h.lt
  exact ⟨(f.cell (by omega) h0).trans h.m0, (f.frozen (by omega) h0).trans h.fm, (f.cell (by omega) h1).trans h.e0, (f.frozen (by omega) h1).trans h.fe, (f.cell l h2).trans h.d0, Nat.lt_of_lt_of_le l f.size⟩
theorem Lg.later {w w' : World} {M : Nat} {e : Bool} (h : Lg w M e) (hb : Below w.heap.size w w') : Lg w' M e := h.kept (Fx.of_below (P := fun _ => False) hb) (fun h => h) (fun h => h) (fun h => h)
/-- What making a log gives. -/
def Lm (w : World) (e : Ending) (w' : World) : Prop := ∃ M, e = .returned (logV M) ∧ w.heap.size ≤ M ∧ Lg w' M false ∧ Below w.heap.size w w'
theorem lg_of {w : World} {M : Nat} (h0 : w.heap[M]? = some (.cells #[.int .i32 0, .int .u32 0] 161 (0, 0))) (h1 : w.heap[M + 1]? = some (.cells #[.bool false] 4 (0, 0))) (h2 : w.heap[M + 2]? = some (.cells #[.func (.func 17) #[] #[]] 91 (0, 0))) : Lg w M false :=
  ⟨by rw [cell_of_row w M 0 _ 161 (0, 0) h0]; rfl, by simp [World.frozen?, h0], by rw [cell_of_row w (M + 1) 0 _ 4 (0, 0) h1]; rfl, by simp [World.frozen?, h1], by rw [cell_of_row w (M + 2) 0 _ 91 (0, 0) h2]; rfl, (Array.getElem?_eq_some_iff.1 h2).1⟩
theorem lg_new (W : World) : Lg (((W.alloc (.cells #[.int .i32 0, .int .u32 0] 161)).alloc (.cells #[.bool false] 4)).alloc (.cells #[.func (.func 17) #[] #[]] 91)) W.heap.size false := by
  have h0 := heap_alloc_new W (.cells #[.int .i32 0, .int .u32 0] 161)
  have h1 := heap_alloc_new (W.alloc (.cells #[.int .i32 0, .int .u32 0] 161)) (.cells #[.bool false] 4)
  have h2 := heap_alloc_new ((W.alloc (.cells #[.int .i32 0, .int .u32 0] 161)).alloc (.cells #[.bool false] 4)) (.cells #[.func (.func 17) #[] #[]] 91)
  simp only [World.size_alloc] at h1 h2
  refine lg_of ?_ ?_ h2
  · exact (Below.heap_alloc _ _ _ (by simp; omega)).trans ((Below.heap_alloc _ _ _ (by simp)).trans h0)
  · exact (Below.heap_alloc _ _ _ (by simp)).trans h1
theorem log16 (w : World) : Calls Tryd.prog 16 #[.agg #[.func (.func 17) #[] #[], .nilFunc, .nilFunc, .nilFunc, .int .i8 0, .map none]] w (Lm w) := by
  have HB := Lib.hid (Below.refl w.heap.size w)
  go_enter Tryd.func16, Tryd.ntmps16
  go_wp2
  refine bodyPost_ret (v := logV (w.heap.size + 1 + 1)) (by simp [results, Tryd.results16, go_sem, logV]) rfl ⟨w.heap.size + 1 + 1, rfl, by omega, ?_, ?_⟩
  · have h := lg_new ((w.alloc (.cells #[.func (.func 20) #[] #[.pointer (some ⟨w.heap.size + 1 + 1, 0, none⟩), .pointer (some ⟨w.heap.size + 1 + 1 + 1, 0, none⟩), .pointer (some ⟨w.heap.size + 1 + 1 + 1 + 1, 0, none⟩)], .func (.func 23) #[] #[.pointer (some ⟨w.heap.size + 1 + 1, 0, none⟩), .pointer (some ⟨w.heap.size + 1 + 1 + 1, 0, none⟩)], .nilFunc, .nilFunc, .int .i8 0, .map none] 98)).alloc (.cells #[.func (.func 20) #[] #[.pointer (some ⟨w.heap.size + 1 + 1, 0, none⟩), .pointer (some ⟨w.heap.size + 1 + 1 + 1, 0, none⟩), .pointer (some ⟨w.heap.size + 1 + 1 + 1 + 1, 0, none⟩)], .func (.func 23) #[] #[.pointer (some ⟨w.heap.size + 1 + 1, 0, none⟩), .pointer (some ⟨w.heap.size + 1 + 1 + 1, 0, none⟩)], .nilFunc, .nilFunc, .int .i8 0, .map none] 98))
    simp only [World.size_alloc] at h
    exact h
  · exact ((((HB.out.alloc (Nat.le_refl _) _).alloc (by simp) _).alloc (by simp <;> omega) _).alloc (by simp <;> omega) _).alloc (by simp <;> omega) _
theorem log14 (w : World) : Calls Tryd.prog 14 #[] w (Lm w) := by
  have L := Lib.hid (log16 (w.alloc (.cells #[.nilFunc, .nilFunc, .nilFunc, .nilFunc, .int .i8 0, .map none] 98)))
  have HB0 := Lib.hid ((Below.refl w.heap.size w).alloc (Nat.le_refl _) (.cells #[.nilFunc, .nilFunc, .nilFunc, .nilFunc, .int .i8 0, .map none] 98))
  go_enter Tryd.func14, Tryd.ntmps14
  go_wp2_with fail
  refine L.out.mono ?_
  rintro e w1 ⟨M, rfl, hM, hl, hb⟩
  simp only [World.size_alloc] at hM hb
  have hr := Row.newArr w 98 #[.nilFunc, .nilFunc, .nilFunc, .nilFunc, .int .i8 0, .map none]
  have HM := Lib.hid hM
  have HL := Lib.hid hl
  have HB := Lib.hid hb
  have hr1 := hr.below hb (Nat.lt_succ_self _)
  have k0 := hr1.at_ (i := 0) rfl
  have k1 := hr1.at_ (i := 1) rfl
  have k2 := hr1.at_ (i := 2) rfl
  have k3 := hr1.at_ (i := 3) rfl
  have k4 := hr1.at_ (i := 4) rfl
  have k5 := hr1.at_ (i := 5) rfl
  have z0 := hr1.frozen 0
  have z1 := hr1.frozen 1
  have z2 := hr1.frozen 2
  have z3 := hr1.frozen 3
  have z4 := hr1.frozen 4
  have z5 := hr1.frozen 5
  have HR := Lib.hid hr1.lt
  clear hr hr1 hM hl hb
  unfold logV
  go_wp2
  refine bodyPost_ret (v := logV M) (by simp [results, Tryd.results14, go_sem, logV, k0, k1, k2, k3, k4, k5]) rfl ⟨M, rfl, by have := HM.out; omega, ?_, ?_⟩
  · refine HL.out.kept (P := fun j => j = w.heap.size) (((((((Fx.refl (fun j => j = w.heap.size) w1).put w.heap.size 0 _ rfl).put w.heap.size 1 _ rfl).put w.heap.size 2 _ rfl).put w.heap.size 3 _ rfl).put w.heap.size 4 _ rfl).put w.heap.size 5 _ rfl) ?_ ?_ ?_ <;> (have := HM.out; omega)
  · exact (((((((HB0.out.trans (HB.out.mono (Nat.le_succ _))).setCell (Nat.le_refl _) _).setCell (Nat.le_refl _) _).setCell (Nat.le_refl _) _).setCell (Nat.le_refl _) _).setCell (Nat.le_refl _) _).setCell (Nat.le_refl _) _)
theorem lg_unlock {w : World} {M : Nat} {e0 : Bool} (h : Lg w M e0) : Lg ((w.setCell ⟨M, 0, none⟩ (.int .i32 1)).setCell ⟨M, 0, none⟩ (.int .i32 0)) M e0 ∧ Fx (fun j => j = M) w ((w.setCell ⟨M, 0, none⟩ (.int .i32 1)).setCell ⟨M, 0, none⟩ (.int .i32 0)) := by
  have f : Fx (fun j => j = M) w ((w.setCell ⟨M, 0, none⟩ (.int .i32 1)).setCell ⟨M, 0, none⟩ (.int .i32 0)) := ((Fx.refl (fun j => j = M) w).put M 0 _ rfl).put M 0 _ rfl
  refine ⟨⟨cell_self _ ?_, frozen_set _ _ _ _ _ (frozen_set _ _ _ _ _ h.fm), (f.cell (by have := h.lt; omega) (by omega)).trans h.e0, (f.frozen (by have := h.lt; omega) (by omega)).trans h.fe, (f.cell h.lt (by omega)).trans h.d0, Nat.lt_of_lt_of_le h.lt f.size⟩, f⟩
  rw [cell_self _ (by rw [h.m0]; rfl)]; rfl
theorem frozen_alloc' {w : World} {g i : Nat} (o : Obj) (hg : g < w.heap.size) (h : w.frozen? ⟨g, i, none⟩ = false) : (w.alloc o).frozen? ⟨g, i, none⟩ = false := by
  rw [← h]; simp [World.frozen?, Below.heap_alloc w o g hg]
theorem lg_add {W : World} {M : Nat} {e0 : Bool} (h : Lg W M e0) (o : Obj) : (((W.setCell ⟨M, 0, none⟩ (.int .i32 1)).setCell ⟨M + 1, 0, none⟩ (.bool true)).alloc o).cell? ⟨M, 0, none⟩ = some (.int .i32 1) ∧ (((W.setCell ⟨M, 0, none⟩ (.int .i32 1)).setCell ⟨M + 1, 0, none⟩ (.bool true)).alloc o).frozen? ⟨M, 0, none⟩ = false ∧
    Lg ((((W.setCell ⟨M, 0, none⟩ (.int .i32 1)).setCell ⟨M + 1, 0, none⟩ (.bool true)).alloc o).setCell ⟨M, 0, none⟩ (.int .i32 0)) M true ∧ Fx (fun j => j = M ∨ j = M + 1) W ((((W.setCell ⟨M, 0, none⟩ (.int .i32 1)).setCell ⟨M + 1, 0, none⟩ (.bool true)).alloc o).setCell ⟨M, 0, none⟩ (.int .i32 0)) := by
  have l := h.lt
  have f : Fx (fun j => j = M ∨ j = M + 1) W ((((W.setCell ⟨M, 0, none⟩ (.int .i32 1)).setCell ⟨M + 1, 0, none⟩ (.bool true)).alloc o).setCell ⟨M, 0, none⟩ (.int .i32 0)) := ((((Fx.refl (fun j => j = M ∨ j = M + 1) W).put M 0 _ (.inl rfl)).put (M + 1) 0 _ (.inr rfl)).alloc o).put M 0 _ (.inl rfl)
  have h1 : (W.setCell ⟨M, 0, none⟩ (.int .i32 1)).cell? ⟨M, 0, none⟩ = some (.int .i32 1) := cell_self _ (by rw [h.m0]; rfl)
  have h2 : ((W.setCell ⟨M, 0, none⟩ (.int .i32 1)).setCell ⟨M + 1, 0, none⟩ (.bool true)).cell? ⟨M, 0, none⟩ = some (.int .i32 1) := (World.cell?_setCell_other _ ⟨M + 1, 0, none⟩ ⟨M, 0, none⟩ _ (by simp)).trans h1
  have hc : (((W.setCell ⟨M, 0, none⟩ (.int .i32 1)).setCell ⟨M + 1, 0, none⟩ (.bool true)).alloc o).cell? ⟨M, 0, none⟩ = some (.int .i32 1) := by
    rw [World.cell?_alloc_lt _ _ _ (by simp; omega)]
    exact h2
  have hz : (((W.setCell ⟨M, 0, none⟩ (.int .i32 1)).setCell ⟨M + 1, 0, none⟩ (.bool true)).alloc o).frozen? ⟨M, 0, none⟩ = false := frozen_alloc' o (by simp; omega) (frozen_set _ _ _ _ _ (frozen_set _ _ _ _ _ h.fm))
  have h3 : (W.setCell ⟨M, 0, none⟩ (.int .i32 1)).cell? ⟨M + 1, 0, none⟩ = some (.bool e0) := (World.cell?_setCell_other _ ⟨M, 0, none⟩ ⟨M + 1, 0, none⟩ _ (by simp)).trans h.e0
  have h4 : ((W.setCell ⟨M, 0, none⟩ (.int .i32 1)).setCell ⟨M + 1, 0, none⟩ (.bool true)).cell? ⟨M + 1, 0, none⟩ = some (.bool true) := cell_self _ (by rw [h3]; rfl)
  refine ⟨hc, hz, ⟨cell_self _ (by rw [hc]; rfl), frozen_set _ _ _ _ _ hz, ?_, ?_, (f.cell l (by omega)).trans h.d0, Nat.lt_of_lt_of_le l f.size⟩, f⟩
  · refine (World.cell?_setCell_other _ ⟨M, 0, none⟩ ⟨M + 1, 0, none⟩ _ (by simp)).trans ?_
    rw [World.cell?_alloc_lt _ _ _ (by simp; omega)]
    exact h4
  · exact frozen_set _ _ _ _ _ (frozen_alloc' o (by simp; omega) (frozen_set _ _ _ _ _ (frozen_set _ _ _ _ _ h.fe)))
/-- The flag is read. -/
def Lh (M : Nat) (e0 : Bool) (w : World) (e : Ending) (w' : World) : Prop := e = .returned (.bool e0) ∧ Lg w' M e0 ∧ Fx (fun j => j = M) w w'
theorem has23 (M : Nat) (e0 : Bool) (w : World) (h : Lg w M e0) : Calls Tryd.prog 23 #[.pointer (some ⟨M, 0, none⟩), .pointer (some ⟨M + 1, 0, none⟩)] w (Lh M e0 w) := by
  have c0 := h.m0
  have z0 := h.fm
  have c1 := h.e0
  have H := Lib.hid h
  clear h
  go_enter_defers Tryd.func23, Tryd.ntmps23
  go_wp2_with (go_at_call 21; refine (lock_free muLib ⟨M, 0, none⟩ _ c0 z0).mono ?_; rintro e w' ⟨rfl, rfl⟩)
  refine leaves_cons (f := 22) (args := #[.pointer (some ⟨M, 0, none⟩)]) (by simp) (by simp [go_sem]) ?_
  refine (unlock_deferred muLib ⟨M, 0, none⟩ .returning _ ?_ ?_).mono ?_
  · exact World.cell?_setCell_same w ⟨M, 0, none⟩ (.int .i32 1) c0
  · simp [z0]
  rintro e u' w'' ⟨rfl, rfl, rfl⟩
  exact ⟨_, results_tmp rfl _ _ _, rfl, lg_unlock H.out⟩
/-- An error message. -/
def msgV (tx : ByteArray) : Value := .agg #[.slice none 0 0, .string ByteArray.empty, .nilIface, .pointer none, .string tx, .bool false, .int .u8 0, .int .u8 0]
theorem add20 (M : Nat) (e0 : Bool) (tx : ByteArray) (w : World) (h : Lg w M e0) : Calls Tryd.prog 20 #[msgV tx, .pointer (some ⟨M, 0, none⟩), .pointer (some ⟨M + 1, 0, none⟩), .pointer (some ⟨M + 2, 0, none⟩)] w fun e w' => e = .returned (.tuple #[]) ∧ Lg w' M true ∧ Fx (fun j => j = M ∨ j = M + 1) w w' := by
  have c0 := h.m0
  have z0 := h.fm
  have c1 := h.e0
  have z1 := h.fe
  have c2 := h.d0
  have H := Lib.hid h
  clear h
  unfold msgV
  have hal : Below w.heap.size w (w.alloc (.cells #[.slice none 0 0, .string ByteArray.empty, .nilIface, .pointer none, .string tx, .bool false, .int .u8 0, .int .u8 0] 152)) := (Below.refl _ _).alloc (Nat.le_refl _) _
  have h1 := H.out.later hal
  have c0' := h1.m0
  have z0' := h1.fm
  have HF := Lib.hid (Fx.of_below (P := fun j => j = M ∨ j = M + 1) hal)
  have H1 := Lib.hid h1
  have c1' := h1.e0
  have z1' := h1.fe
  have c2' := h1.d0
  have hne : ¬ M = M + 1 := by omega
  have hne2 : ¬ M + 1 = M := by omega
  have hlt := H.out.lt
  have hn3 : ¬ M = w.heap.size := by omega
  have hn4 : ¬ M + 1 = w.heap.size := by omega
  have hn5 : ¬ w.heap.size = M := by omega
  have hn6 : ¬ w.heap.size = M + 1 := by omega
  clear hlt
  clear h1 hal c0 z0 c1 z1 c2
  go_enter_defers Tryd.func20, Tryd.ntmps20
  go_wp2_with (go_at_call 21; refine (lock_free muLib ⟨M, 0, none⟩ _ c0' z0').mono ?_; rintro e w' ⟨rfl, rfl⟩)
  go_wp2
  go_end0
  go_wp2
  refine leaves_cons (f := 22) (args := #[.pointer (some ⟨M, 0, none⟩)]) (by simp) (by simp [go_sem]) ?_
  obtain ⟨k1, k2, k3, k4⟩ := lg_add H1.out (.cells #[.slice none 0 0, .string ByteArray.empty, .nilIface, .pointer none, .string tx, .bool false, .int .u8 0, .int .u8 0] 152)
  refine (unlock_deferred muLib ⟨M, 0, none⟩ .returning _ k1 k2).mono ?_
  rintro e u' w'' ⟨rfl, rfl, rfl⟩
  exact ⟨_, results_none rfl _ _ _, rfl, k3, HF.out.trans k4⟩
theorem data24 (tx : ByteArray) (w : World) : Calls Tryd.prog 24 #[.pointer none, .agg #[.int .i32 0, .int .i32 0], .string tx] w fun e w' => e = .returned (.agg #[.nilIface, .pointer none, .string tx, .bool false]) ∧ Below w.heap.size w w' := by
  have HB := Lib.hid (Below.refl w.heap.size w)
  go_enter Tryd.func24, Tryd.ntmps24
  go_wp2
  refine bodyPost_ret (v := .agg #[.nilIface, .pointer none, .string tx, .bool false]) (by simp [results, Tryd.results24, go_sem]) rfl ⟨rfl, ?_⟩
  exact ((HB.out.alloc (Nat.le_refl _) _).alloc (by simp) _).alloc (by simp <;> omega) _
theorem s3_of {w W0 w2 w3 : World} {M : Nat} {e0 : Bool} {v0 v1 v2 : Value} (hb : Below W0.heap.size W0 w2) (a0 : W0.cell? ⟨w.heap.size, 0, none⟩ = some v0) (a1 : W0.cell? ⟨w.heap.size + 1, 0, none⟩ = some v1) (a2 : W0.cell? ⟨w.heap.size + 1, 1, none⟩ = some v2) (h : Lg w M e0) (f : Fx (fun j => j = M ∨ j = M + 1) w2 w3) :
    w3.cell? ⟨w.heap.size, 0, none⟩ = some v0 ∧ w3.cell? ⟨w.heap.size + 1, 0, none⟩ = some v1 ∧ w3.cell? ⟨w.heap.size + 1, 1, none⟩ = some v2 := by
  have l := h.lt
  have q0 := cell_lt a0
  have q1 := cell_lt a1
  have hs := hb.size
  simp only at q0 q1
  exact ⟨(f.cell (by omega) (by omega)).trans (cell_later hb a0), (f.cell (by omega) (by omega)).trans (cell_later hb a1), (f.cell (by omega) (by omega)).trans (cell_later hb a2)⟩
/-- An error is added to the log. -/
def Ad (M : Nat) (w : World) (e : Ending) (w' : World) : Prop := e = .returned (.tuple #[]) ∧ Lg w' M true ∧ Fx (fun j => j = M ∨ j = M + 1) w w'
theorem err19 (M : Nat) (e0 : Bool) (tx : ByteArray) (w : World) (h : Lg w M e0) : Calls Tryd.prog 19 #[logV M, .pointer none, .agg #[.int .i32 0, .int .i32 0], .string tx] w (Ad M w) := by
  have H := Lib.hid h
  have A20 := Lib.hid (fun (W : World) (h : Lg W M e0) => (show Calls Tryd.prog 20 #[.agg #[.slice none 0 0, .string ⟨#[]⟩, .nilIface, .pointer none, .string tx, .bool false, .int .u8 0, .int .u8 0], .pointer (some ⟨M, 0, none⟩), .pointer (some ⟨M + 1, 0, none⟩), .pointer (some ⟨M + 2, 0, none⟩)] W (fun e w' => e = .returned (.tuple #[]) ∧ Lg w' M true ∧ Fx (fun j => j = M ∨ j = M + 1) W w') from add20 M e0 tx W h))
  clear h
  unfold logV
  go_enter Tryd.func19, Tryd.ntmps19
  go_wp2_with fail
  obtain ⟨W0, hW0⟩ : ∃ W0, W0 = (w.alloc (.cells #[.func (.func 20) #[] #[.pointer (some ⟨M, 0, none⟩), .pointer (some ⟨M + 1, 0, none⟩), .pointer (some ⟨M + 2, 0, none⟩)], .func (.func 23) #[] #[.pointer (some ⟨M, 0, none⟩), .pointer (some ⟨M + 1, 0, none⟩)], .nilFunc, .nilFunc, .int .i8 0, .map none] 98)).alloc (.cells #[.int .i32 0, .int .i32 0] 39) := ⟨_, rfl⟩
  have r1 := Row.newArr w 98 #[.func (.func 20) #[] #[.pointer (some ⟨M, 0, none⟩), .pointer (some ⟨M + 1, 0, none⟩), .pointer (some ⟨M + 2, 0, none⟩)], .func (.func 23) #[] #[.pointer (some ⟨M, 0, none⟩), .pointer (some ⟨M + 1, 0, none⟩)], .nilFunc, .nilFunc, .int .i8 0, .map none]
  have r2 := Row.newArr (w.alloc (.cells #[.func (.func 20) #[] #[.pointer (some ⟨M, 0, none⟩), .pointer (some ⟨M + 1, 0, none⟩), .pointer (some ⟨M + 2, 0, none⟩)], .func (.func 23) #[] #[.pointer (some ⟨M, 0, none⟩), .pointer (some ⟨M + 1, 0, none⟩)], .nilFunc, .nilFunc, .int .i8 0, .map none] 98)) 39 #[.int .i32 0, .int .i32 0]
  have r1 := r1.alloc (.cells #[.int .i32 0, .int .i32 0] 39)
  simp only [World.size_alloc] at r2
  rw [← hW0] at r1 r2 ⊢
  have hb0 : Below w.heap.size w W0 := by rw [hW0]; exact ((Below.refl _ _).alloc (Nat.le_refl _) _).alloc (by simp) _
  have a0 := r1.at_ (i := 0) rfl
  have a1 := r2.at_ (i := 0) rfl
  have a2 := r2.at_ (i := 1) rfl
  have HB0 := Lib.hid hb0
  clear hb0 hW0 r1 r2
  go_region_held3 (fun W => W.cell? ⟨w.heap.size, 0, none⟩ = some (.func (.func 20) #[] #[.pointer (some ⟨M, 0, none⟩), .pointer (some ⟨M + 1, 0, none⟩), .pointer (some ⟨M + 2, 0, none⟩)]) ∧ W.cell? ⟨w.heap.size + 1, 0, none⟩ = some (.int .i32 0) ∧ W.cell? ⟨w.heap.size + 1, 1, none⟩ = some (.int .i32 0)) (first | exact ⟨a0, a1, a2⟩ | exact ⟨cell_later HB2.out a0, cell_later HB2.out a1, cell_later HB2.out a2⟩ | exact S3.out) (first | (go_at_call 24; (with_reducible refine (data24 tx _).mono ?_); rintro e w2 ⟨rfl, hb2⟩; have HB2 := Lib.hid (show Below W0.heap.size W0 w2 from ⟨hb2.os, hb2.tape, hb2.output, hb2.size, hb2.block⟩); have HL2 := Lib.hid ((H.out.later HB0.out).later HB2.out); clear hb2) | (go_at_call 20; (with_reducible refine (A20.out _ HL2.out).mono ?_); rintro e w3 ⟨rfl, hl3, hf3⟩; have S3 := Lib.hid (show w3.cell? ⟨w.heap.size, 0, none⟩ = some (.func (.func 20) #[] #[.pointer (some ⟨M, 0, none⟩), .pointer (some ⟨M + 1, 0, none⟩), .pointer (some ⟨M + 2, 0, none⟩)]) ∧ w3.cell? ⟨w.heap.size + 1, 0, none⟩ = some (.int .i32 0) ∧ w3.cell? ⟨w.heap.size + 1, 1, none⟩ = some (.int .i32 0) from s3_of HB2.out a0 a1 a2 H.out hf3); have HL3 := Lib.hid hl3; have HF3 := Lib.hid hf3; clear hl3 hf3))
  go_end0
  exact ⟨rfl, HL3.out, (Fx.of_below HB0.out).trans ((Fx.of_below HB2.out).trans HF3.out)⟩
end Go.Proofs.YtfljkbfacncdgaaDoor.EnL
