/- FnAppendChunkFromZeroIsVerbatim: indices, the buffer. -/
import Derived.Test.YtmgkjkfhhdkkmabDoorRows
import Derived.Test.YtmgkjkfhhdkkmabDoorMem
import Derived.Test.YtmgkjkfhhdkkmabDoorSl
import Derived.Test.YtmgkjkfhhdkkmabDoorApG
import Derived.Laws.BitsAllLaws
import Derived.WalkKit
import Derived.ProofKit
import Derived.OpenShut
import Derived.Below
import Derived.WalkLawsBesides
import Derived.Lib.Hide
import Derived.Outline
import Derived.RegionTactic
import Derived.Deep.QuietTactic
import Derived.BigQuiet
import Derived.WalkSpells
import Derived.Deep.OwnRows
import Derived.IntWalk
import Derived.Deep.DeepMust
namespace Go.Proofs.YtmgkjkfhhdkkmabDoor.ApH
open Go.RowKit Mem Sl
set_option linter.unusedVariables false
open Own Vq ApA ApJ ApE ApF Args

theorem xor_max (v : Nat) (h : v < 4294967296) : 4294967295 ^^^ v = 4294967295 - v := by
  have e : (BitVec.allOnes 32 ^^^ BitVec.ofNat 32 v) = ~~~ (BitVec.ofNat 32 v) := BitVec.allOnes_xor
  have t := congrArg BitVec.toNat e
  rw [BitVec.toNat_xor, BitVec.toNat_not] at t
  simp only [BitVec.toNat_allOnes, BitVec.toNat_ofNat] at t
  rw [Nat.mod_eq_of_lt (by omega)] at t
  exact t
theorem fl_eq (v : Nat) (h : v < 4294967296) : bits .xor .u32 IntKind.u32.max (v : Int) = ((4294967295 - v : Nat) : Int) := by
  rw [show IntKind.u32.max = ((4294967295 : Nat) : Int) by decide, u32_xor_nat _ _ (by omega) h, xor_max v h]
/-- An index: 0, or the bits of one turned. -/
def ixOf (o : Option Nat) : Int := match o with | none => 0 | some v => ((4294967295 - v : Nat) : Int)
theorem mk23 (v : Nat) (w : World) (h : v ≤ 100000000) : Calls Tryd.prog 23 #[.int .u32 (v : Int)] w fun e w' => e = .returned (.agg #[.int .u32 (ixOf (some v))]) ∧ Below w.heap.size w w' := by
  have hf := fl_eq v (by omega)
  go_enter Tryd.func23, Tryd.ntmps23
  go_wp2
  exact bodyPost_ret (v := .agg #[.int .u32 ((4294967295 - v : Nat) : Int)]) (by simp [results, Tryd.results23, go_sem]) rfl ⟨rfl, (Below.refl _ _).alloc (Nat.le_refl _) _⟩
theorem val20 (o : Option Nat) (w : World) (h : ∀ v, o = some v → v ≤ 100000000) : Calls Tryd.prog 20 #[.agg #[.int .u32 (ixOf o)]] w fun e w' => e = .returned (.bool o.isSome) ∧ Below w.heap.size w w' := by
  have hb : (ixOf o != 0) = o.isSome := by
    cases o with
    | none => rfl
    | some v => have := h v rfl; unfold ixOf; simp; omega
  have HB := Lib.hid hb
  clear hb
  go_enter Tryd.func20, Tryd.ntmps20
  go_wp2
  go_ret
  exact ⟨by rw [← HB.out]; rfl, (Below.refl _ _).alloc (Nat.le_refl _) _⟩
theorem get21 (v : Nat) (w : World) (h : v ≤ 100000000) : Calls Tryd.prog 21 #[.agg #[.int .u32 (ixOf (some v))]] w fun e w' => e = .returned (.int .u32 (v : Int)) ∧ Below w.heap.size w w' := by
  have hf := fl_eq (4294967295 - v) (by omega)
  rw [show 4294967295 - (4294967295 - v) = v by omega] at hf
  unfold ixOf
  simp only
  generalize hV : ((4294967295 - v : Nat) : Int) = V at hf ⊢
  clear hV
  go_enter Tryd.func21, Tryd.ntmps21
  go_wp2
  go_ret
  exact ⟨rfl, (Below.refl _ _).alloc (Nat.le_refl _) _⟩
/-- The buffer's value: the bytes, and where the first name stands. -/
def mbuf (x : Value) (o : Option Nat) : Value := .agg #[x, .int .u32 (ixOf o)]
def fnOf (o : Option Nat) : Int := match o with | none => -1 | some v => (v : Int)
theorem buf10 (A : Option Addr) (n c : Nat) (o : Option Nat) (w : World) (h : ∀ v, o = some v → v ≤ 100000000) : Calls Tryd.prog 10 #[.slice A n c, .int .i64 (fnOf o)] w fun e w' => e = .returned (mbuf (.slice A n c) o) ∧ Below w.heap.size w w' := by
  cases o with
  | none =>
    show Calls Tryd.prog 10 #[.slice A n c, .int .i64 (-1)] w fun e w' => e = .returned (mbuf (.slice A n c) none) ∧ Below w.heap.size w w'
    go_enter Tryd.func10, Tryd.ntmps10
    go_wp2
    exact bodyPost_ret (v := .agg #[.slice A n c, .int .u32 0]) (by simp [results, Tryd.results10, go_sem]) rfl ⟨rfl, ((Below.refl _ _).alloc (Nat.le_refl _) _).alloc (by simp) _⟩
  | some v =>
    have hv := h v rfl
    show Calls Tryd.prog 10 #[.slice A n c, .int .i64 (v : Int)] w fun e w' => e = .returned (mbuf (.slice A n c) (some v)) ∧ Below w.heap.size w w'
    have h0 : (0 : Int) ≤ (v : Int) := by omega
    go_enter Tryd.func10, Tryd.ntmps10
    go_wp2_with fail
    refine (mk23 v _ hv).mono ?_
    rintro e w2 ⟨rfl, hb⟩
    have r1 : Row w2 w.heap.size 43 [.slice none 0 0, .int .u32 0] := ((Row.newArr w 43 #[.slice none 0 0, .int .u32 0]).alloc (.cells #[.int .u32 0] 41)).below hb (by simp; omega)
    have r2 : Row w2 (w.heap.size + 1) 41 [.int .u32 0] := by
      have h9 := (Row.newArr (w.alloc (.cells #[.slice none 0 0, .int .u32 0] 43)) 41 #[.int .u32 0]).below hb (by simp)
      simpa using h9
    have hbl : Below w.heap.size w w2 := (((Below.refl _ _).alloc (Nat.le_refl _) _).alloc (by simp) _).trans (hb.mono (by simp; omega))
    have HBL := Lib.hid hbl
    have a0 := r1.at_ (i := 0) rfl
    have a1 := r1.at_ (i := 1) rfl
    have b0 := r2.at_ (i := 0) rfl
    have fa0 := r1.frozen 0
    have fa1 := r1.frozen 1
    have fb0 := r2.frozen 0
    clear hb r1 r2 hbl
    go_wp2_with fail
    exact bodyPost_ret (v := .agg #[.slice A n c, .int .u32 (ixOf (some v))]) (by simp [results, Tryd.results10, go_sem, a0, a1]) rfl ⟨rfl, ((HBL.out.setCell (by simp) _).setCell (Nat.le_refl _) _).setCell (Nat.le_refl _) _⟩
theorem ix17 (b : Int) (w : World) (h : b ≠ 44) (h2 : b ≠ 59) (h3 : 0 ≤ b) (h4 : b ≤ 255) : Calls Tryd.prog 17 #[.string ⟨#[44, 59]⟩, .int .u8 b] w fun e w' => e = .returned (.int .i64 (-1)) ∧ w = w' := by
  refine (Tryd.strings_IndexByte ⟨#[44, 59]⟩ b w).mono ?_
  rintro e w' ⟨rfl, rfl⟩
  refine ⟨?_, rfl⟩
  have hb : ∀ k : Fin 256, k.val ≠ 44 → k.val ≠ 59 → Lib.indexByte [44, 59] (k.val.toUInt8) = -1 := by decide +kernel
  have := hb ⟨b.toNat, by omega⟩ (by simp; omega) (by simp; omega)
  simp only at this
  exact congrArg (fun z => Ending.returned (Value.int .i64 z)) this
end Go.Proofs.YtmgkjkfhhdkkmabDoor.ApH
