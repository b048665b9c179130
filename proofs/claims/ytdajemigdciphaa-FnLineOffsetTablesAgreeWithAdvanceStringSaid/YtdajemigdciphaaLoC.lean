/- FnLineOffsetTablesAgreeWithAdvanceString: the law. -/
import Derived.Test.YtdajemigdciphaaRows
import Derived.Test.YtdajemigdciphaaMem
import Derived.Test.YtdajemigdciphaaSl
import Derived.Test.YtdajemigdciphaaLoB
import Derived.WalkKit
import Derived.ProofKit
import Derived.OpenShut
import Derived.Below
import Derived.WalkLawsBesides
import Derived.Lib.Hide
import Derived.Outline
import Derived.RegionTactic
import Derived.Deep.QuietTactic
import Derived.BigQuiet
import Derived.WalkSpells
import Derived.Deep.OwnRows
import Derived.IntWalk
import Derived.Deep.DeepMust
namespace Go.Proofs.Ytdajemigdciphaa.LoC
open Go.RowKit Mem Sl
set_option linter.unusedVariables false
open Dec Lin Adv Own LoA LoB

theorem zz8 (a0 : ByteArray) (a1 : Int) (w : World) (h : a0.size ≤ maxLen) : Calls Try.prog 8 #[.string a0, .int .i32 a1] w fun e w' => (∃ b, e = .returned (.bool b)) ∧ w = w' := by
  unfold maxLen at h
  go_enter Try.func8, Try.ntmps8
  go_wp2
  all_goals go_ret
  all_goals exact ⟨⟨_, rfl⟩, rfl⟩
theorem st10 (b n c i : Nat) (x : Int) (w : World) (hi : i < n) (hn : n ≤ 2000000) (hc : w.cell? ⟨b, i * 3 + 2, none⟩ = some (.int .i32 x)) : Calls Try.prog 10 #[.slice (some ⟨b, 0, none⟩) n c, .int .i64 i] w fun e w' => e = .returned (.int .i32 x) ∧ w = w' := by
  go_enter Try.func10, Try.ntmps10
  go_wp2
  go_ret
  exact ⟨rfl, rfl⟩
theorem co11 (b n c i : Nat) (x : Value) (w : World) (hi : i < n) (hn : n ≤ 2000000) (hc : w.cell? ⟨b, i * 3, none⟩ = some x) : Calls Try.prog 11 #[.slice (some ⟨b, 0, none⟩) n c, .int .i64 i] w fun e w' => e = .returned x ∧ w = w' := by
  go_enter Try.func11, Try.ntmps11
  go_wp2
  go_ret
  exact ⟨rfl, rfl⟩
def prv (S : List Nat) (k : Nat) : Int := if k = 0 then -1 else ((S.getD (k - 1) 0 : Nat) : Int)
theorem prv_lt {S : List Nat} {L T k : Nat} (h : Srt S L T) (hk : k < L) : prv S k < ((S.getD k 0 : Nat) : Int) := by
  unfold prv
  split
  · omega
  · have := h.up (k - 1) (by omega)
    rw [Nat.sub_add_cancel (by omega)] at this
    omega
set_option maxHeartbeats 4000000 in
set_option maxRecDepth 100000 in
theorem law (a0 : ByteArray) (a1 : Int) (w : World) (w0 : a0.size ≤ maxLen) (w1 : (Lit.int .i32 a1).wf = true) :
    Calls Try.prog 4 #[.string a0, .int .i32 a1] w fun e w' => e = .returned (.bool true) ∧ Below w.heap.size w w' := by
  have M := Lib.hid w0
  unfold maxLen at w0
  clear w1
  have heq := fun (W : World) (X : Option Addr) (l cc : Nat) => Lib.run_eql_slice_nil (P := Try.prog) W 32 21 X l cc 0 0 Try.underlying32
  go_enter Try.func4, Try.ntmps4
  go_wp2_with fail
  refine (zz8 a0 a1 w M.out).mono ?_
  rintro e w' ⟨⟨b, rfl⟩, rfl⟩
  cases b
  · go_wp2_with fail
    go_ret
    exact ⟨rfl, Below.refl _ _⟩
  by_cases q : 1048576 < a0.size
  · have g : decide (1048576 < (a0.size : Int)) = true := by simp; omega
    go_wp2_with fail
    go_ret
    exact ⟨rfl, Below.refl _ _⟩
  have g : decide (1048576 < (a0.size : Int)) = false := by simp; omega
  by_cases q1 : a1 < 0
  · have g1 : decide (a1 < 0) = true := by simp; omega
    go_wp2_with fail
    go_ret
    exact ⟨rfl, Below.refl _ _⟩
  have g1 : decide (a1 < 0) = false := by simp; omega
  by_cases q2 : 65536 < a1
  · have g2 : decide (65536 < a1) = true := by simp; omega
    go_wp2_with fail
    go_ret
    exact ⟨rfl, Below.refl _ _⟩
  have g2 : decide (65536 < a1) = false := by simp; omega
  obtain ⟨k1, rfl⟩ : ∃ k : Nat, a1 = k := ⟨a1.toNat, by omega⟩
  go_wp2_with fail
  refine (gen9 a0 k1 w (by omega) (by omega)).mono ?_
  intro e u hT
  obtain ⟨L, U, T, b, c, A5, n5, c5, S, hf, rfl, hb, hS, hST, hLc, hbl, hcells, hcol, h5⟩ := hT
  have hbd := fin_bounds a0 a0.size 0 0 0 0 (by omega) (by omega) (by omega) (by omega) (by omega) (fun _ => rfl)
  rw [hf] at hbd
  simp only at hbd
  have hL : L ≤ a0.size := hbd.1
  have hU : U ≤ a0.size := hbd.2.1
  have hTs : T ≤ a0.size := hbd.2.2.1
  have HF := Lib.hid hf
  have HB := Lib.hid hb
  have HS := Lib.hid hS
  have HST := Lib.hid hST
  have HBL := Lib.hid hbl
  have HCL := Lib.hid hcells
  have HCO := Lib.hid hcol
  have H5 := Lib.hid h5
  clear hf hb hS hST hbl hcells hcol h5 hbd g g1 g2 q1
  go_wp2_with fail
  have HR := Lib.hid (Row.newArr u 24 #[.int .i64 0, .int .i64 0])
  refine (adv6 u.heap.size 0 0 a0 _ HR.out (by omega) (by omega) (by omega) (by omega) (by omega)).mono ?_
  rintro e w3 ⟨rfl, hr, hg⟩
  have hB3 : Below u.heap.size u w3 := ((Below.refl _ _).alloc (Nat.le_refl _) _).trans (grown_below hg (Nat.le_refl _) (by simp))
  have HB3 := Lib.hid (show Below w.heap.size w w3 from HB.out.trans (hB3.mono HB.out.size))
  have HCL3 := Lib.hid (fun l hl => (hB3.cell (p := ⟨b, l * 3 + 2, none⟩) HBL.out).trans (HCL.out l hl))
  have HCO3 := Lib.hid ((hB3.cell (p := ⟨b, L * 3, none⟩) HBL.out).trans HCO.out)
  rw [HF.out, show W64 (0 + ((L : Nat) : Int)) = (L : Int) by unfold W64; omega, show col 0 L U = (U : Int) by unfold col W64; split <;> omega] at hr
  have c0 := hr.at_ (i := 0) rfl
  have c1 := hr.at_ (i := 1) rfl
  have HB4 := Lib.hid hB3
  clear hr hg hB3
  go_wp2_with fail
  go_loop [7, 8] (fun pv i => ∃ (k : Nat) (t : Int), i = .int .i64 k ∧ pv = .int .i64 t ∧ k ≤ L + 1 ∧ t = prv S k) (fun _ i => L + 1 - (intOf i).toNat)
  case atStart => exact ⟨0, -1, rfl, rfl, by omega, rfl⟩
  case round =>
    obtain ⟨k, t, rfl, rfl, hk1, ht⟩ := hrel
    by_cases hk : k < L + 1
    · have h1 := prv_lt HS.out hk
      have h2 := HS.out.lt k hk
      have HC := Lib.hid (HCL3.out k hk)
      obtain ⟨x, hx⟩ : ∃ x, S.getD k 0 = x := ⟨_, rfl⟩
      rw [hx] at h1 h2 HC
      rw [← ht] at h1
      have HX := Lib.hid hx
      clear hx ht
      have g1 : decide ((x : Int) ≤ t) = false := by simp; omega
      have g2 : decide ((a0.size : Int) < (x : Int)) = false := by simp; omega
      go_wp2_with fail
      refine (st10 b (L + 1) c k x w3 hk (by omega) HC.out).mono ?_
      rintro e w' ⟨rfl, rfl⟩
      by_cases hk0 : k = 0
      · subst hk0
        obtain rfl : x = 0 := by rw [← HX.out]; exact HS.out.zero (by omega)
        go_wp2_with fail
        go_round
        case rel => exact ⟨1, 0, by go_num, rfl, by omega, by unfold prv; rw [if_neg (by omega), HX.out]; rfl⟩
        case measure => simp [intOf]
      · have g3 : ((k : Int) == 0) = false := by simp; omega
        go_wp2_with fail
        go_round
        case rel => exact ⟨k + 1, x, by go_num, by go_num, by omega, by unfold prv; rw [if_neg (by omega), Nat.add_sub_cancel, HX.out]⟩
        case measure => simp [intOf]; omega
    · obtain rfl : k = L + 1 := by omega
      obtain rfl : t = (T : Int) := by rw [ht]; unfold prv; rw [if_neg (by omega), Nat.add_sub_cancel, HST.out]
      clear ht
      go_wp2_with fail
      refine (co11 b (L + 1) c L _ w3 (by omega) (by omega) HCO3.out).mono ?_
      rintro e w' ⟨rfl, rfl⟩
      rcases H5.out with ⟨rfl, rfl, rfl, hz⟩ | ⟨b5, m, rfl, rfl, hmc, hm, hlt5, hcell⟩
      · have g4 : (((a0.size : Int) - (T : Int)) == (U : Int)) = true := by simp; omega
        clear hz
        go_wp2_with fail
        go_ret
        exact ⟨rfl, HB3.out⟩
      · have c5' := (HB4.out.cell (p := ⟨b5, m, none⟩) hlt5).trans hcell
        have g4 : ((U : Int) == (U : Int)) = true := by simp
        clear hcell hlt5
        go_wp2_with fail
        go_quiet (fail)
        go_wp2_with fail
        go_ret
        exact ⟨rfl, ⟨HB3.out.os, HB3.out.tape, HB3.out.output, HB3.out.size, HB3.out.block⟩⟩
end Go.Proofs.Ytdajemigdciphaa.LoC
