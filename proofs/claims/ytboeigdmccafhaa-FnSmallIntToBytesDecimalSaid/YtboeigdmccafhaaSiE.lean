/- zzDecimal of a negative number. -/
import Derived.Test.YtboeigdmccafhaaRows
import Derived.Test.YtboeigdmccafhaaMem
import Derived.Test.YtboeigdmccafhaaSl
import Derived.Test.YtboeigdmccafhaaOwn
import Derived.Test.YtboeigdmccafhaaDig
import Derived.Test.YtboeigdmccafhaaStr
import Derived.Test.YtboeigdmccafhaaSiC
import Derived.OwnWalk
import Derived.WalkKit
import Derived.ProofKit
import Derived.OpenShut
import Derived.Below
import Derived.WalkLawsBesides
import Derived.Lib.Hide
import Derived.Outline
import Derived.RegionTactic
import Derived.Deep.QuietTactic
import Derived.BigQuiet
import Derived.WalkSpells
import Derived.Deep.OwnRows
import Derived.IntWalk
import Derived.Deep.DeepMust
namespace Go.Proofs.Ytboeigdmccafhaa.SiE
open Go.RowKit Mem Sl
set_option linter.unusedVariables false
open Own Dig Str SiC

set_option maxHeartbeats 4000000 in
set_option maxRecDepth 100000 in
theorem de7n (n : Nat) (w : World) (hn : n ≤ 9223372036854775807) (hn0 : 0 < n) :
    Calls Try.prog 7 #[.int .i64 (-(n : Int))] w fun e w' => e = .returned (.string (bytesOf (txt [45] n))) ∧ Below w.heap.size w w' := by
  have hmk : ∀ W : World, (Instr.makeSlice 25 (.int .i64 0) (.int .i64 24)).run Try.prog W = .ok (.slice (some ⟨W.heap.size, 0, none⟩) 0 24) (W.alloc (.cells (madeCells #[.int .u8 0] 24) 5)) := by
    intro W
    obtain ⟨i, hi, hzz⟩ := Option.map_eq_some_iff.1 info5
    simp only [Prod.mk.injEq] at hzz
    obtain ⟨hz, hsz, hby⟩ := hzz
    have hr := run_make (P := Try.prog) W 25 5 i _ Try.underlying25 hi hz .i64 .i64 0 24 (by omega) (by omega) (by rw [hby]; omega) (by omega)
    rw [hr, hsz]
    rfl
  have HO := Lib.hid (own_made w w.heap.size 5 .u8 24 (Nat.le_refl _) (by decide))
  have tn : decide (-(n : Int) < 0) = true := by simp; omega
  go_enter Try.func7, Try.ntmps7
  go_wp2_with (at_builtin; go_must (refine wpList_push _ rfl _ _ 25 rfl w.heap.size 5 .u8 1 Try.underlying25 info5 (by decide) _ _ rfl (HO.out.alloc _) (w.heap.size + 1) 45 rfl (by have h := ((Row.newArr (w.alloc (Obj.cells (madeCells #[Value.int IntKind.u8 0] 24) 5)) 5 #[.int .u8 45]).at_ (i := 0) rfl); simpa only [World.size_alloc] using h) (by simp) (by simp; omega) ?_; intro v7 w7 ho7 hb7; have HO7 := Lib.hid ho7; have HB7 := Lib.hid hb7; clear ho7 hb7))
  clear hmk
  have e1 : -(-(n : Int) + 1) + 1 = (n : Int) := by omega
  rw [e1]
  clear e1
  go_loop [6] (fun s6 => ∃ (k P : Nat), s6 = .int .u64 (P : Int) ∧ P = 10 ^ k ∧ (k = 0 ∨ P ≤ n) ∧ 0 < P ∧ P ≤ 9223372036854775807) (fun s6 => n - (intOf s6).toNat)
  case atStart => exact ⟨0, 1, rfl, rfl, .inl rfl, by omega, by omega⟩
  case round =>
    obtain ⟨k, P, rfl, hP, hk, hP0, hP1⟩ := hrel
    have HP := Lib.hid (And.intro hP hk)
    clear hP hk
    have hw := wrap_div n P hn
    obtain ⟨Qt, hQ⟩ : ∃ Qt, n / P = Qt := ⟨_, rfl⟩
    rw [hQ] at hw
    have HQ := Lib.hid hQ
    clear hQ
    by_cases hq : 10 ≤ Qt
    · have hle : P * 10 ≤ n := by
        have := (Nat.le_div_iff_mul_le hP0).1 (show 10 ≤ n / P by rw [HQ.out]; exact hq)
        omega
      go_wp2_with fail
      go_round
      case rel => exact ⟨k + 1, P * 10, by go_num, by rw [HP.out.1, Nat.pow_succ], .inr hle, by omega, by omega⟩
      case measure => simp [intOf]; omega
    · have hlt : n < P * 10 := by
        have h1 : n / P < 10 := by rw [HQ.out]; omega
        have := (Nat.div_lt_iff_lt_mul hP0).1 h1
        omega
      go_wp2_with fail
      have HD0 := Lib.hid (show digs n = [] ++ pad (k + 1) n by rw [pad_digs k n (by rw [Nat.pow_succ, ← HP.out.1]; exact hlt) (by rcases HP.out.2 with h | h; exact .inl h; exact .inr (by rw [← HP.out.1]; exact h))]; rfl)
      have HL0 := Lib.hid (show n < 10 ^ (k + 1) by rw [Nat.pow_succ, ← HP.out.1]; exact hlt)
      go_loopw [4, 5, 6] (fun s4 s5 s6 wr => Dl w [45] n s4 s5 s6 wr) (fun _ _ s6 _ => (intOf s6).toNat)
      case atStart => exact ⟨k + 1, n, P, [], _, _, rfl, rfl, rfl, rfl, HD0.out, HL0.out, fun h => by omega, fun _ => HP.out.1, hn, hP1, HO7.out, (((Below.refl _ _).alloc (Nat.le_refl _) _).alloc (by simp) _).trans HB7.out⟩
      case round =>
        obtain ⟨r, u, Pw, pre, v, wx, rfl, rfl, rfl, rfl, hdg, hu, hr0, hr1, hun, hPn, hown, hbel⟩ := hrel
        have HDG := Lib.hid hdg
        have HOW := Lib.hid hown
        have HBE := Lib.hid hbel
        clear hdg hown hbel
        cases r with
        | zero =>
          obtain rfl : Pw = 0 := hr0 rfl
          clear hr0 hr1 hu
          have hdp : digs n = pre := by have := HDG.out; simpa [pad] using this
          have hwf : ∀ z ∈ [(45 : Int)] ++ pre.map (fun d => ((48 + d : Nat) : Int)), (Lit.int .u8 z).wf = true := by
            intro z hz
            rcases List.mem_append.1 hz with hz | hz
            · simp at hz; subst hz; decide
            obtain ⟨d, hd, rfl⟩ := List.mem_map.1 hz
            have := digs_small n d (by rw [hdp]; exact hd)
            exact WalkArith.wf_u8 (by omega)
          obtain ⟨A, c, rfl, hints⟩ := HOW.out.ints hwf
          have hcv := run_string (P := Try.prog) Try.underlying25 Try.underlying5 Try.underlying9 hints
          obtain ⟨ln, hln⟩ : ∃ ln, ([(45 : Int)] ++ pre.map (fun d => ((48 + d : Nat) : Int))).length = ln := ⟨_, rfl⟩
          obtain ⟨bs, hbs⟩ : ∃ bs, bytesOf ([(45 : Int)] ++ pre.map (fun d => ((48 + d : Nat) : Int))) = bs := ⟨_, rfl⟩
          rw [hln, hbs] at hcv
          rw [hln]
          have HDP := Lib.hid (show bytesOf (txt [45] n) = bs by unfold txt; rw [hdp]; exact hbs)
          clear hints hdp hwf hln hbs
          go_wp2_with fail
          go_ret
          exact ⟨by rw [HDP.out]; rfl, HBE.out⟩
        | succ j =>
          have hPj := hr1 (by omega)
          have hP0' : 0 < Pw := by rw [hPj]; exact Nat.pow_pos (by omega)
          have hw2 := wrap_div u Pw hun
          have hdm := Nat.div_add_mod u Pw
          have hml := Nat.mod_lt u hP0'
          have hD9 : u / Pw < 10 := by
            rw [Nat.div_lt_iff_lt_mul hP0', hPj]
            simpa [Nat.pow_succ, Nat.mul_comm] using hu
          obtain ⟨R, hR⟩ : ∃ R, u % Pw = R := ⟨_, rfl⟩
          obtain ⟨D, hD⟩ : ∃ D, u / Pw = D := ⟨_, rfl⟩
          rw [hR] at hdm hml
          rw [hD] at hw2 hdm hD9
          obtain ⟨M, hM⟩ : ∃ M, Pw * D = M := ⟨_, rfl⟩
          rw [hM] at hdm
          have hMM : (D : Int) * (Pw : Int) = (M : Int) := by rw [← hM]; simp [Int.mul_comm]
          have HX := Lib.hid (And.intro hPj (And.intro hR (And.intro hD hu)))
          clear hPj hR hD hM hu hr0 hr1
          have hpl : pre.length ≤ 20 := by
            have h1 := digs_len 18 n (by omega)
            rw [HDG.out] at h1
            simp at h1
            omega
          go_wp2_with (at_builtin; go_must (refine wpList_push _ rfl _ _ 25 rfl w.heap.size 5 .u8 1 Try.underlying25 info5 (by decide) _ _ rfl (HOW.out.alloc _) wx.heap.size (48 + (D : Int)) rfl ((Row.newArr wx 5 #[.int .u8 (48 + (D : Int))]).at_ (i := 0) rfl) (by simp; omega) (by have := HBE.out.size; simp; omega) ?_; intro v7 w7 ho7 hb7; have HO7 := Lib.hid ho7; have HB7 := Lib.hid hb7; clear ho7 hb7))
          go_roundw
          case rel =>
            have hPj : Pw = 10 ^ j := HX.out.1
            have e1 : (u : Int) - (M : Int) = (R : Int) := by omega
            refine ⟨j, R, Pw / 10, pre ++ [D], _, _, rfl, rfl, by first | (rw [e1]) | (simp; omega), by simp, ?_, ?_, ?_, ?_, by omega, by omega, ?_, ?_⟩
            · rw [HDG.out, pad_step, ← hPj, HX.out.2.1, HX.out.2.2.1]
            · rw [← hPj]; exact hml
            · intro h; subst h; rw [hPj]
            · intro h
              obtain ⟨i, rfl⟩ : ∃ i, j = i + 1 := ⟨j - 1, by omega⟩
              rw [hPj, Nat.pow_succ, Nat.mul_div_cancel _ (by omega)]; rfl
            · simpa using HO7.out
            · exact (HBE.out.alloc HBE.out.size _).trans HB7.out
          case measure => simp [intOf]; omega
end Go.Proofs.Ytboeigdmccafhaa.SiE
