/- ZZappendOrExtendPartRange. -/
import Derived.Test.YtjgomgagaolhgabRows
import Derived.Test.YtjgomgagaolhgabMem
import Derived.Test.YtjgomgagaolhgabSl
import Derived.Test.YtjgomgagaolhgabArr
import Derived.Test.YtjgomgagaolhgabArrB
import Derived.Test.YtjgomgagaolhgabClo
import Derived.Test.YtjgomgagaolhgabPrA
import Derived.Test.YtjgomgagaolhgabPrU
import Derived.WalkKit
import Derived.ProofKit
import Derived.OpenShut
import Derived.Below
import Derived.WalkLawsBesides
import Derived.Lib.Hide
import Derived.Outline
import Derived.RegionTactic
import Derived.Deep.QuietTactic
import Derived.BigQuiet
import Derived.WalkSpells
import Derived.Deep.OwnRows
import Derived.IntWalk
import Derived.Deep.DeepMust
namespace Go.Proofs.Ytjgomgagaolhgab.PrF
open Go.RowKit Mem Sl
set_option linter.unusedVariables false
open Arr ArrB PrA PrU

theorem set3 {w : World} {g n k : Nat} {z0 z1 z2 : List Int} {x0 x1 x2 : Int} (h : Arr w g n 3 u32s (upto (mk [z0, z1, z2]) k)) (hlt : k < n) (hx0 : x0 = z0.getD k 0) (hx1 : x1 = z1.getD k 0) (hx2 : x2 = z2.getD k 0) :
    Arr (((w.setCell ⟨g, k * 3, none⟩ (.int .u32 x0)).setCell ⟨g, k * 3 + 1, none⟩ (.int .u32 x1)).setCell ⟨g, k * 3 + 2, none⟩ (.int .u32 x2)) g n 3 u32s (upto (mk [z0, z1, z2]) (k + 1)) := by
  refine (((h.set (j := 0) hlt (by omega) x0).set (j := 1) hlt (by omega) x1).set (j := 2) hlt (by omega) x2).congr ?_
  intro k' l hk' hl
  have e : l = 0 ∨ l = 1 ∨ l = 2 := by omega
  by_cases hkk : k' = k
  · subst hkk
    rcases e with rfl | rfl | rfl <;> simp [upd, upto, mk, hx0, hx1, hx2]
  · have : (k' < k + 1) = (k' < k) := by apply propext; omega
    simp [upd, upto, hkk, this]
/-- What the call gives. -/
def AE (w : World) (n : Nat) (F : Nat → Nat → Int) (s p : Int) (e : Ending) (w' : World) : Prop :=
  ∃ (q m : Nat) (F' : Nat → Nat → Int), e = .returned (.tuple #[.slice (some ⟨q, 0, none⟩) m m, .slice (some ⟨q + 1, 0, none⟩) m m, .slice (some ⟨q + 1 + 1, 0, none⟩) m m]) ∧
    Row w' q 28 (iv .u32 (col F' 0 m)) ∧ Row w' (q + 1) 28 (iv .u32 (col F' 1 m)) ∧ Row w' (q + 1 + 1) 28 (iv .u32 (col F' 2 m)) ∧ Below w.heap.size w w' ∧
    ((m = n ∧ 0 < n ∧ F (n - 1) 0 = s ∧ F (n - 1) 2 = p ∧ F' = upd F (n - 1) 2 (p + 1)) ∨
     (m = n + 1 ∧ (0 < n → F (n - 1) 0 = s → F (n - 1) 2 ≠ p) ∧ (∀ k j, k < n → F' k j = F k j) ∧ F' n 0 = s ∧ F' n 1 = p ∧ F' n 2 = p + 1))
set_option maxHeartbeats 1000000 in
theorem ae36 (A0 A1 A2 : Option Addr) (n c0 c1 c2 : Nat) (z0 z1 z2 : List Int) (s p : Int) (w : World) (h0 : Args.IsInts .u32 w A0 n c0 z0) (h1 : Args.IsInts .u32 w A1 n c1 z1) (h2 : Args.IsInts .u32 w A2 n c2 z2) (hn : n ≤ 65536) (hp0 : 0 ≤ p) (hp : p < 4294967295) :
    Calls Try.prog 36 #[.slice A0 n c0, .slice A1 n c1, .slice A2 n c2, .int .u32 s, .int .u32 p] w (AE w n (mk [z0, z1, z2]) s p) := by
  have hmk := fun W => run_make_wide (P := Try.prog) 86 88 _ 3 12 _ Try.underlying86 info88 rfl .i64 .i64 n (by omega) (by omega) W
  have R0 := Lib.hid (fun k => h0.read k)
  have R1 := Lib.hid (fun k => h1.read k)
  have R2 := Lib.hid (fun k => h2.read k)
  clear h0 h1 h2
  go_enter Try.func36, Try.ntmps36
  go_wp2
  go_loopw [20] (fun i wr => ∃ k : Nat, k ≤ n ∧ i = .int .i64 k ∧ Arr wr w.heap.size n 3 u32s (upto (mk [z0, z1, z2]) k) ∧ Blk wr w.heap.size 88 (n * 3) ∧ Below w.heap.size w wr) (fun i _ => n - (intOf i).toNat)
  case atStart => exact ⟨0, Nat.zero_le _, rfl, upto_zero (arr_made w 88 _ n 3 u32s rfl zero3), ⟨_, heap_alloc_new w _, size_madeCells _ _⟩, (Below.refl _ _).alloc (Nat.le_refl _) _⟩
  case round =>
    obtain ⟨k, hk, rfl, harr, hblk, hbel⟩ := hrel
    by_cases hlt : k < n
    · obtain ⟨b0, o0, ha0, hb0, hc0⟩ := R0.out k (by omega)
      obtain ⟨b1, o1, ha1, hb1, hc1⟩ := R1.out k (by omega)
      obtain ⟨b2, o2, ha2, hb2, hc2⟩ := R2.out k (by omega)
      subst ha0 ha1 ha2
      have d0 := cell_later hbel hc0
      have d1 := cell_later hbel hc1
      have d2 := cell_later hbel hc2
      have e0 : wr.cell? ⟨w.heap.size, k * 3, none⟩ = some (.int .u32 _) := harr.cell k 0 hlt (by omega)
      have e1 : wr.cell? ⟨w.heap.size, k * 3 + 1, none⟩ = some (.int .u32 _) := harr.cell k 1 hlt (by omega)
      have e2 : wr.cell? ⟨w.heap.size, k * 3 + 2, none⟩ = some (.int .u32 _) := harr.cell k 2 hlt (by omega)
      have fz := harr.frozen
      obtain ⟨x0, hx0⟩ : ∃ x, x = z0.getD k 0 := ⟨_, rfl⟩
      obtain ⟨x1, hx1⟩ : ∃ x, x = z1.getD k 0 := ⟨_, rfl⟩
      obtain ⟨x2, hx2⟩ : ∃ x, x = z2.getD k 0 := ⟨_, rfl⟩
      rw [← hx0] at d0
      rw [← hx1] at d1
      rw [← hx2] at d2
      have HS := Lib.hid (set3 harr hlt hx0 hx1 hx2)
      have HK := Lib.hid (((hblk.set (k * 3) (.int .u32 x0)).set (k * 3 + 1) (.int .u32 x1)).set (k * 3 + 2) (.int .u32 x2))
      have HB := Lib.hid (((hbel.setCell (p := ⟨w.heap.size, k * 3, none⟩) (Nat.le_refl _) (.int .u32 x0)).setCell (p := ⟨w.heap.size, k * 3 + 1, none⟩) (Nat.le_refl _) (.int .u32 x1)).setCell (p := ⟨w.heap.size, k * 3 + 2, none⟩) (Nat.le_refl _) (.int .u32 x2))
      clear harr hbel hblk hc0 hc1 hc2 hx0 hx1 hx2
      go_wp2
      go_region
      go_wp2
      go_roundw
      case rel => exact ⟨k + 1, by omega, by go_num, HS.out.drew, HK.out.drew, HB.out.drew⟩
      case measure => simp [intOf]; omega
    · obtain rfl : k = n := by omega
      have HA := Lib.hid (upto_all harr)
      have HK := Lib.hid hblk
      have HB := Lib.hid hbel
      clear harr hbel hblk
      go_wp2_with fail
      refine (ext44 w.heap.size w.heap.size k (mk [z0, z1, z2]) s p wr HA.out HK.out (Nat.le_refl _) hn hp0 hp).mono ?_
      rintro e w2 ⟨g', m, cap, F', rfl, ha', hb', hg', hd⟩
      have hm : m ≤ 65537 := by rcases hd with ⟨h, _⟩ | ⟨h, _⟩ <;> omega
      have HA' := Lib.hid ha'
      have HB' := Lib.hid (HB.out.trans hb')
      have HD := Lib.hid hd
      clear ha' hb' hd HA HK HB
      go_wp2_with fail
      refine (unp43 g' m cap F' w2 HA'.out hm).mono ?_
      rintro e w3 ⟨rfl, s0, s1, s2, hb3⟩
      have S := Lib.hid (And.intro s0 (And.intro s1 s2))
      have HB3 := Lib.hid (HB'.out.trans (hb3.mono HB'.out.size))
      clear s0 s1 s2 hb3
      go_wp2_with fail
      go_ret3
      exact ⟨w2.heap.size, m, F', rfl, S.out.1, S.out.2.1, S.out.2.2, HB3.out, HD.out⟩
end Go.Proofs.Ytjgomgagaolhgab.PrF
