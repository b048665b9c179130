/- Slices of cross chunk imports: how they are built. -/
import Derived.Test.YtjgomgagaolhgabRows
import Derived.Test.YtjgomgagaolhgabMem
import Derived.Test.YtjgomgagaolhgabSl
import Derived.Test.YtjgomgagaolhgabArr
import Derived.Test.YtjgomgagaolhgabArrB
import Derived.OwnWalk
import Derived.Deep.MidRow
import Derived.Great.BuildSlice
import Derived.WalkKit
import Derived.ProofKit
import Derived.OpenShut
import Derived.Below
import Derived.WalkLawsBesides
import Derived.Lib.Hide
import Derived.Outline
import Derived.RegionTactic
import Derived.Deep.QuietTactic
import Derived.BigQuiet
import Derived.WalkSpells
import Derived.Deep.OwnRows
import Derived.IntWalk
import Derived.Deep.DeepMust
namespace Go.Proofs.Ytjgomgagaolhgab.CcB
open Go.RowKit Mem Sl
set_option linter.unusedVariables false
open Arr ArrB

theorem new41 (x : Int) (w : World) : Calls Try.prog 41 #[.int .u32 x] w fun e w' => e = .returned (.agg #[.slice none 0 0, .int .u32 x]) ∧ Below w.heap.size w w' := by
  go_enter Try.func41, Try.ntmps41
  go_wp2
  refine bodyPost_ret (v := .agg #[.slice none 0 0, .int .u32 x]) (by simp [results, Try.results41, go_sem]) rfl ⟨rfl, ?_⟩
  (repeat (first | exact Below.refl _ _ | apply Below.drew | apply below_drewN | (refine Below.alloc ?_ (by simp <;> omega) _) | (refine Below.setCell ?_ (by simp <;> omega) _)))
theorem chunk12 (x : Int) (w : World) : Calls Try.prog 12 #[.agg #[.slice none 0 0, .int .u32 x]] w fun e w' => e = .returned (.int .u32 x) ∧ Below w.heap.size w w' := by
  go_enter Try.func12, Try.ntmps12
  go_wp2
  go_ret
  refine ⟨rfl, ?_⟩
  (repeat (first | exact Below.refl _ _ | apply Below.drew | apply below_drewN | (refine Below.alloc ?_ (by simp <;> omega) _) | (refine Below.setCell ?_ (by simp <;> omega) _)))
def ccl (zs : List Int) : List Value := zs.flatMap fun x => [.slice none 0 0, .int .u32 x]
theorem ccl_len (zs : List Int) : (ccl zs).length = zs.length * 2 := by
  induction zs with
  | nil => rfl
  | cons a l ih => simp [ccl] at ih ⊢; omega
theorem ccl_snoc (zs : List Int) (k : Nat) (h : k < zs.length) : ccl (zs.take (k + 1)) = ccl (zs.take k) ++ [.slice none 0 0, .int .u32 (zs.getD k 0)] := by
  have e : zs[k]? = some (zs.getD k 0) := by simp [List.getD, h]
  rw [List.take_add_one, e]
  simp only [Option.toList_some, ccl, List.flatMap_append]
  rfl
theorem ccl_at (zs : List Int) (k j : Nat) (h : k < zs.length) (hj : j < 2) : (ccl zs)[k * 2 + j]? = some (cc j (zs.getD k 0)) := by
  induction zs generalizing k with
  | nil => simp at h
  | cons a l ih =>
    cases k with
    | zero =>
      have : j = 0 ∨ j = 1 := by omega
      rcases this with rfl | rfl <;> simp [ccl, cc]
    | succ k =>
      have := ih k (by simpa using h)
      have e : (k + 1) * 2 + j = (k * 2 + j) + 2 := by omega
      rw [e]
      simpa [ccl] using this
theorem owns_below {w w' : World} {base B : Nat} {E : TypeId} {size n : Nat} {v : Value} {xs : List Value} (h : w.ownsRow base E size v n xs) (hb : Below B w w') (hB : w.heap.size ≤ B) : w'.ownsRow base E size v n xs := by
  refine ⟨h.1, ?_⟩
  rcases h.2 with h0 | ⟨g, cap, cur, rfl, a, hh, b⟩
  · exact .inl h0
  · exact .inr ⟨g, cap, cur, rfl, a, (hb.block g (Nat.lt_of_lt_of_le (Array.getElem?_eq_some_iff.1 hh).1 hB)).trans hh, b⟩
theorem info33 : (Try.prog.info? 33).map (fun i => (i.zero, i.size, i.bytes)) = some (some (.agg #[.slice none 0 0, .int .u32 0]), 2, 32) := by kernel_rfl
/-- What the builder leaves. -/
theorem arr_of_owns {w : World} {base g n cap : Nat} {zs : List Int} (h : w.ownsRow base 33 2 (.slice (some ⟨g, 0, none⟩) n cap) n (ccl zs)) (hl : zs.length = n) (hg : g < w.heap.size) : Arr w g n 2 cc (fun k _ => zs.getD k 0) := by
  refine ⟨hg, fun k j hk hj => ?_, fun i => h.frozenAt i⟩
  rw [h.cellAt (k * 2 + j) (by omega)]
  exact ccl_at zs k j (by omega) hj
set_option maxHeartbeats 1000000 in
theorem arr10 (A : Option Addr) (n c : Nat) (zs : List Int) (w : World) (h : Args.IsInts .u32 w A n c zs) (hn : n ≤ 131072) :
    Calls Try.prog 10 #[.slice A n c] w (Built w n 2 cc (fun k _ => zs.getD k 0)) := by
  obtain ⟨i33, hi33, hz33⟩ := Option.map_eq_some_iff.1 info33
  simp only [Prod.mk.injEq] at hz33
  obtain ⟨hz, hs, hb⟩ := hz33
  have hlen := h.2.2.1
  have R := Lib.hid (fun k => h.read k)
  have HZ := Lib.hid hz
  have HS := Lib.hid hs
  have HBY := Lib.hid hb
  have HI := Lib.hid hi33
  clear h hz hs hb hi33
  go_enter Try.func10, Try.ntmps10
  go_wp2_with (refine wpList_make_own _ rfl _ _ 25 rfl w.heap.size 33 i33 _ 2 Try.underlying25 HI.out HZ.out HS.out .i64 .i64 _ n rfl rfl rfl (by rw [HBY.out]; omega) (by unfold maxLen; omega) (Nat.le_refl _) ?_; intro w0 hown0 hgr0; have HO0 := Lib.hid hown0; have HG0 := Lib.hid hgr0; clear hown0 hgr0)
  have HB0 := Lib.hid (show Below w.heap.size w w0 from ⟨HG0.out.os, HG0.out.tape, HG0.out.output, HG0.out.size, fun i hi => HG0.out.block i hi (by intro e; cases e)⟩)
  go_loopw [3, 4] (fun v i wr => ∃ k : Nat, k ≤ n ∧ i = .int .i64 k ∧ v = .slice (some ⟨w.heap.size, 0, none⟩) k n ∧ wr.ownsRow w.heap.size 33 2 (.slice (some ⟨w.heap.size, 0, none⟩) k n) k (ccl (zs.take k)) ∧ Below w.heap.size w wr) (fun _ i _ => n - (intOf i).toNat)
  case atStart => exact ⟨0, Nat.zero_le _, rfl, rfl, HO0.out, HB0.out⟩
  case round =>
    obtain ⟨k, hk, rfl, rfl, hown, hbel⟩ := hrel
    clear HO0 HG0 HB0
    by_cases hlt : k < n
    · obtain ⟨b, o, ha, hb, hc⟩ := R.out k hlt
      subst ha
      have d0 := cell_later hbel hc
      have HSN := Lib.hid (ccl_snoc zs k (by omega))
      obtain ⟨x, hx⟩ : ∃ x, x = zs.getD k 0 := ⟨_, rfl⟩
      rw [← hx] at d0 HSN
      have HOWN := Lib.hid hown
      have HBQ := Lib.hid hbel
      clear hown hbel hc hx
      go_wp2_with fail
      refine (new41 x wr).mono ?_
      rintro e w1 ⟨rfl, hb1⟩
      have hown1 := owns_below HOWN.out hb1 (Nat.le_refl _)
      have hbel1 := HBQ.out.trans (hb1.mono HBQ.out.size)
      have ha2 : Below w1.heap.size w1 (w1.alloc (.cells #[.slice none 0 0, .int .u32 x] 33)) := (Below.refl _ _).alloc (Nat.le_refl _) _
      have hown2 := owns_below hown1 ha2 (Nat.le_refl _)
      have hbel2 := hbel1.trans (ha2.mono hbel1.size)
      have hrow := Row.newArr w1 33 #[.slice none 0 0, .int .u32 x]
      have HO2 := Lib.hid hown2
      have HB2 := Lib.hid hbel2
      have HR := Lib.hid hrow
      clear hown1 hbel1 ha2 hown2 hbel2 hb1 hrow
      go_wp2_with (refine wpList_append_fits _ rfl _ _ 25 rfl w.heap.size 33 i33 2 Try.underlying25 HI.out HS.out w.heap.size k n (ccl (zs.take k)) rfl HO2.out ⟨w1.heap.size, 0, none⟩ 1 1 [.slice none 0 0, .int .u32 x] rfl rfl (by intro j u hu; rw [Addr.add_mid]; simpa using HR.out.at_ (i := j) (by simpa using hu)) (by simp [Value.oneCell']) (by omega) ?_; intro w3 hown3 hgr3; rw [← HSN.out] at hown3; have HO3 := Lib.hid hown3; have HB3 := Lib.hid (HB2.out.trans (grown_below hgr3 (Nat.le_refl _) HB2.out.size)); clear hown3 hgr3)
      go_roundw
      case rel => exact ⟨k + 1, by omega, by go_num, rfl, HO3.out, HB3.out⟩
      case measure => simp [intOf]; omega
    · obtain rfl : k = n := by omega
      have hfull : zs.take k = zs := List.take_of_length_le (by omega)
      rw [hfull] at hown
      have HS1 := Lib.hid (arr_of_owns hown hlen (by
        rcases hown.2 with ⟨h0, _⟩ | ⟨g, cap, cur, h0, _, hh, _⟩
        · cases h0
        · injection h0 with h0; injection h0 with h0; injection h0 with h0 _; rw [h0]; exact (Array.getElem?_eq_some_iff.1 hh).1))
      have HB := Lib.hid hbel
      clear hown hbel
      go_wp2
      go_ret
      exact ⟨rfl, HS1.out, HB.out⟩
end Go.Proofs.Ytjgomgagaolhgab.CcB
