/- Slices of small structs: how they are built. -/
import Derived.Test.YtjgomgagaolhgabRows
import Derived.Test.YtjgomgagaolhgabMem
import Derived.Test.YtjgomgagaolhgabSl
import Derived.Test.YtjgomgagaolhgabArr
import Derived.WalkKit
import Derived.ProofKit
import Derived.OpenShut
import Derived.Below
import Derived.WalkLawsBesides
import Derived.Lib.Hide
import Derived.Outline
import Derived.RegionTactic
import Derived.Deep.QuietTactic
import Derived.BigQuiet
import Derived.WalkSpells
import Derived.Deep.OwnRows
import Derived.IntWalk
import Derived.Deep.DeepMust
namespace Go.Proofs.Ytjgomgagaolhgab.ArrB
open Go.RowKit Mem Sl
set_option linter.unusedVariables false
open Arr

theorem arr_made (w : World) (e : TypeId) (cs : Array Value) (n s : Nat) (V : Nat → Int → Value) (hs : cs.size = s) (hV : ∀ j, j < s → cs[j]? = some (V j 0)) : Arr (w.alloc (.cells (madeCells cs (n * s)) e)) w.heap.size n s V (fun _ _ => 0) := by
  have hrow := Row.newArr w e (madeCells cs (n * s))
  refine ⟨hrow.lt, fun k j hk hj => ?_, fun i => hrow.frozen i⟩
  rw [hrow.cell]
  have hlt : k * s + j < n * s := by
    have : (k + 1) * s ≤ n * s := Nat.mul_le_mul_right _ hk
    rw [Nat.add_mul, Nat.one_mul] at this
    omega
  have hm : (k * s + j) % s = j := by rw [Nat.add_comm, Nat.add_mul_mod_self_right, Nat.mod_eq_of_lt hj]
  have := hV j hj
  simp [madeCells, hlt, hs, hm, getElem!_def, this]
theorem run_make_wide {P : Program} (t e : TypeId) (z : Value) (size bytes : Nat) (cs : Array Value) (ht : P.underlying t = some (.slice e)) (hinfo : (P.info? e).map (fun i => (i.zero, i.size, i.bytes)) = some (some z, size, bytes)) (hz1 : z.cells = cs)
    (kl kc : IntKind) (n : Nat) (hbytes : bytes * n ≤ 281474976710656) (h63 : n ≤ 9223372036854775807) (w : World) :
    (Instr.makeSlice t (.int kl (n : Int)) (.int kc (n : Int))).run P w = .ok (.slice (some ⟨w.heap.size, 0, none⟩) n n) (w.alloc (.cells (madeCells cs (n * size)) e)) := by
  obtain ⟨i, hi, hzz⟩ := Option.map_eq_some_iff.1 hinfo
  simp only [Prod.mk.injEq] at hzz
  obtain ⟨hz, hs, hb⟩ := hzz
  have hb' : (i.bytes : Int) * (n : Int) ≤ 281474976710656 := by
    have h : ((i.bytes * n : Nat) : Int) ≤ 281474976710656 := by rw [hb]; omega
    rwa [Int.natCast_mul] at h
  have hr := run_make (P := P) w t e i z ht hi hz kl kc n n (by omega) (Int.le_refl _) hb' (by omega)
  simp only [Int.toNat_natCast, hs, hz1] at hr
  exact hr
def mk (l : List (List Int)) : Nat → Nat → Int := fun k j => (l.getD j []).getD k 0
def upto (F : Nat → Nat → Int) (m : Nat) : Nat → Nat → Int := fun k j => if k < m then F k j else 0
theorem upto_all {w : World} {g n s : Nat} {V : Nat → Int → Value} {F : Nat → Nat → Int} (h : Arr w g n s V (upto F n)) : Arr w g n s V F := h.congr (fun k j hk hj => by simp [upto, hk])
theorem upto_zero {w : World} {g n s : Nat} {V : Nat → Int → Value} {F : Nat → Nat → Int} (h : Arr w g n s V (fun _ _ => 0)) : Arr w g n s V (upto F 0) := h.congr (fun k j hk hj => by simp [upto])
/-- What a builder leaves. -/
def Built (w : World) (n s : Nat) (V : Nat → Int → Value) (F : Nat → Nat → Int) (e : Ending) (w' : World) : Prop :=
  e = .returned (.slice (some ⟨w.heap.size, 0, none⟩) n n) ∧ Arr w' w.heap.size n s V F ∧ Below w.heap.size w w'
theorem info52 : (Try.prog.info? 52).map (fun i => (i.zero, i.size, i.bytes)) = some (some (.agg #[.int .u32 0, .int .u32 0, .int .u32 0, .int .u32 0]), 4, 16) := by kernel_rfl
theorem info44 : (Try.prog.info? 44).map (fun i => (i.zero, i.size, i.bytes)) = some (some (.agg #[.int .u32 0, .int .u32 0, .int .u32 0]), 3, 12) := by kernel_rfl
theorem zero4 : ∀ j, j < 4 → (#[Value.int .u32 0, .int .u32 0, .int .u32 0, .int .u32 0] : Array Value)[j]? = some (u32s j 0) := by
  intro j hj
  have : j = 0 ∨ j = 1 ∨ j = 2 ∨ j = 3 := by omega
  rcases this with rfl | rfl | rfl | rfl <;> rfl
theorem zero3 : ∀ j, j < 3 → (#[Value.int .u32 0, .int .u32 0, .int .u32 0] : Array Value)[j]? = some (u32s j 0) := by
  intro j hj
  have : j = 0 ∨ j = 1 ∨ j = 2 := by omega
  rcases this with rfl | rfl | rfl <;> rfl
set_option maxHeartbeats 1000000 in
theorem arr23 (A0 A1 A2 A3 : Option Addr) (n c0 c1 c2 c3 : Nat) (z0 z1 z2 z3 : List Int) (w : World) (h0 : Args.IsInts .u32 w A0 n c0 z0) (h1 : Args.IsInts .u32 w A1 n c1 z1) (h2 : Args.IsInts .u32 w A2 n c2 z2) (h3 : Args.IsInts .u32 w A3 n c3 z3) (hn : n ≤ 65536) :
    Calls Try.prog 23 #[.slice A0 n c0, .slice A1 n c1, .slice A2 n c2, .slice A3 n c3] w (Built w n 4 u32s (mk [z3, z0, z1, z2])) := by
  have hmk := fun W => run_make_wide (P := Try.prog) 48 52 _ 4 16 _ Try.underlying48 info52 rfl .i64 .i64 n (by omega) (by omega) W
  have R0 := Lib.hid (fun k => h0.read k)
  have R1 := Lib.hid (fun k => h1.read k)
  have R2 := Lib.hid (fun k => h2.read k)
  have R3 := Lib.hid (fun k => h3.read k)
  clear h0 h1 h2 h3
  go_enter Try.func23, Try.ntmps23
  go_wp2
  go_loopw [10] (fun i wr => ∃ k : Nat, k ≤ n ∧ i = .int .i64 k ∧ Arr wr w.heap.size n 4 u32s (upto (mk [z3, z0, z1, z2]) k) ∧ Below w.heap.size w wr) (fun i _ => n - (intOf i).toNat)
  case atStart => exact ⟨0, Nat.zero_le _, rfl, upto_zero (arr_made w 52 _ n 4 u32s rfl zero4), (Below.refl _ _).alloc (Nat.le_refl _) _⟩
  case round =>
    obtain ⟨k, hk, rfl, harr, hbel⟩ := hrel
    by_cases hlt : k < n
    · obtain ⟨b0, o0, ha0, hb0, hc0⟩ := R0.out k hlt
      obtain ⟨b1, o1, ha1, hb1, hc1⟩ := R1.out k hlt
      obtain ⟨b2, o2, ha2, hb2, hc2⟩ := R2.out k hlt
      obtain ⟨b3, o3, ha3, hb3, hc3⟩ := R3.out k hlt
      subst ha0 ha1 ha2 ha3
      have d0 := cell_later hbel hc0
      have d1 := cell_later hbel hc1
      have d2 := cell_later hbel hc2
      have d3 := cell_later hbel hc3
      have e0 : wr.cell? ⟨w.heap.size, k * 4, none⟩ = some (.int .u32 _) := harr.cell k 0 hlt (by omega)
      have e1 : wr.cell? ⟨w.heap.size, k * 4 + 1, none⟩ = some (.int .u32 _) := harr.cell k 1 hlt (by omega)
      have e2 : wr.cell? ⟨w.heap.size, k * 4 + 2, none⟩ = some (.int .u32 _) := harr.cell k 2 hlt (by omega)
      have e3 : wr.cell? ⟨w.heap.size, k * 4 + 3, none⟩ = some (.int .u32 _) := harr.cell k 3 hlt (by omega)
      have fz := harr.frozen
      obtain ⟨x0, hx0⟩ : ∃ x, x = z0.getD k 0 := ⟨_, rfl⟩
      obtain ⟨x1, hx1⟩ : ∃ x, x = z1.getD k 0 := ⟨_, rfl⟩
      obtain ⟨x2, hx2⟩ : ∃ x, x = z2.getD k 0 := ⟨_, rfl⟩
      obtain ⟨x3, hx3⟩ : ∃ x, x = z3.getD k 0 := ⟨_, rfl⟩
      rw [← hx0] at d0
      rw [← hx1] at d1
      rw [← hx2] at d2
      rw [← hx3] at d3
      have hset := ((((harr.set (j := 0) hlt (by omega) x3).set (j := 1) hlt (by omega) x0).set (j := 2) hlt (by omega) x1).set (j := 3) hlt (by omega) x2).congr (F' := upto (mk [z3, z0, z1, z2]) (k + 1)) (by
        intro k' l hk' hl
        have e : l = 0 ∨ l = 1 ∨ l = 2 ∨ l = 3 := by omega
        by_cases hkk : k' = k
        · subst hkk
          rcases e with rfl | rfl | rfl | rfl <;> simp [upd, upto, mk, hx0, hx1, hx2, hx3]
        · have : (k' < k + 1) = (k' < k) := by apply propext; omega
          simp [upd, upto, hkk, this])
      have HS := Lib.hid hset
      have HB := Lib.hid ((((hbel.setCell (p := ⟨w.heap.size, k * 4, none⟩) (Nat.le_refl _) (.int .u32 x3)).setCell (p := ⟨w.heap.size, k * 4 + 1, none⟩) (Nat.le_refl _) (.int .u32 x0)).setCell (p := ⟨w.heap.size, k * 4 + 2, none⟩) (Nat.le_refl _) (.int .u32 x1)).setCell (p := ⟨w.heap.size, k * 4 + 3, none⟩) (Nat.le_refl _) (.int .u32 x2))
      clear hset harr hbel hc0 hc1 hc2 hc3 hx0 hx1 hx2 hx3
      go_wp2
      go_region
      go_wp2
      go_roundw
      case rel => exact ⟨k + 1, by omega, by go_num, HS.out.drew, HB.out.drew⟩
      case measure => simp [intOf]; omega
    · obtain rfl : k = n := by omega
      have HS := Lib.hid (upto_all harr)
      have HB := Lib.hid hbel
      clear harr hbel
      go_wp2
      go_ret
      exact ⟨rfl, HS.out, HB.out⟩
end Go.Proofs.Ytjgomgagaolhgab.ArrB
