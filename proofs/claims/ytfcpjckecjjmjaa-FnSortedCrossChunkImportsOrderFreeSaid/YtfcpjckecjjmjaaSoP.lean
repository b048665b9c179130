/- FnSortedCrossChunkImportsOrderFree: partialInsertionSort over any state. -/
import Derived.Test.YtfcpjckecjjmjaaSoA
import Derived.Sort.WalkA6
import Derived.WalkKit
import Derived.ProofKit
import Derived.OpenShut
import Derived.Below
import Derived.WalkLawsBesides
import Derived.Lib.Hide
import Derived.Outline
import Derived.RegionTactic
import Derived.Deep.QuietTactic
import Derived.BigQuiet
import Derived.WalkSpells
import Derived.Deep.OwnRows
import Derived.IntWalk
import Derived.Deep.DeepMust
namespace Go.Proofs.Ytfcpjckecjjmjaa.SoP
open Go.RowKit Go.Sort Go.Shelf Go.Lib SoA
set_option linter.unusedVariables false
section
variable {P : Program} {ρ : Ren} {α : Type} [Inhabited α] {T : TypeId} {rv : Value} {gl gs : Nat} {lt : α → α → Bool} {n base : Nat} {S : World → Array α → Prop}
set_option maxRecDepth 100000 in
set_option maxHeartbeats 16000000 in
theorem par38 (L : LaysGt.n38 P ρ) (I : Ifc P T rv gl gs lt n base S) (hn : n ≤ 1048576) (W : World) (d : Array α) (a b : Nat) (hS : S W d) (hab : a < b) (hb : b ≤ n) :
    Calls P (ρ.f 38) #[.iface T rv, .int .i64 a, .int .i64 b] W fun e w' => e = .returned (.bool (partialInsertionSort lt d a b).2) ∧ S w' (partialInsertionSort lt d a b).1 := by
  have HI := Lib.hid I
  have HS := Lib.hid hS
  have mL := I.mL
  have mS := I.mS
  have eL := I.eL
  have eS := I.eS
  clear I hS
  have mixed := L.mixed; have t0 := L.t0; have a0 := L.a0; have z0 := L.z0; have v0 := L.v0; have t3 := L.t3; have a3 := L.a3; have z3 := L.z3; have v3 := L.v3; have t4 := L.t4; have a4 := L.a4; have z4 := L.z4; have v4 := L.v4; have t26 := L.t26; have a26 := L.a26; have z26 := L.z26; have v26 := L.v26; have t38 := L.t38; have a38 := L.a38; have z38 := L.z38; have v38 := L.v38; have t43 := L.t43; have a43 := L.a43; have z43 := L.z43; have v43 := L.v43; have t45 := L.t45; have a45 := L.a45; have z45 := L.z45; have v45 := L.v45
  go_enter L.f38, BodyGt.n38_ntmps ρ
  go_wp2
  go_loopw [7, 8] (fun vi vs wr => ∃ (i s : Nat) (dk : Array α), vi = .int .i64 i ∧ vs = .int .i64 s ∧ s ≤ 5 ∧ a < i ∧ i ≤ b ∧ Hid (S wr dk) ∧ Hid (partialIns lt a b (5 - s) i dk = partialIns lt a b 5 (a + 1) d)) (fun _ vs _ => 5 - (intOf vs).toNat)
  case atStart => exact ⟨a + 1, 0, d, by go_num, rfl, by omega, by omega, by omega, HS.out, rfl⟩
  case round =>
    obtain ⟨i, s, dk, rfl, rfl, hs5, hai, hib, SK, HO⟩ := hrel
    by_cases hs : s < 5
    · have hsz5 : (s : Int) < 5 := by omega
      go_wp2
      go_loopw [7] (fun vi wr2 => ∃ (kx : Nat), vi = .int .i64 kx ∧ i ≤ kx ∧ kx ≤ b ∧ Hid (S wr2 dk) ∧ Hid (scanSorted lt dk b kx = scanSorted lt dk b i)) (fun vi _ => b - (intOf vi).toNat)
      case atStart => exact ⟨i, rfl, Nat.le_refl _, hib, SK.out, rfl⟩
      case round =>
        obtain ⟨kx, rfl, hik, hkb, SC, HSc⟩ := hrel
        by_cases hkb' : kx < b
        · have hkz : (kx : Int) < (b : Int) := by omega
          cases hlv : lt dk[kx]! dk[kx - 1]! with
          | false =>
            have L1 := Lib.hid (fun W' (hs : S W' dk) => HI.out.lessZ (kx : Int) ((kx : Int) - 1) W' dk kx (kx - 1) false hs rfl (by omega) (by omega) (by omega) hlv)
            go_wp2_with (first | (go_at_fn gl; refine (L1.out _ SC.out).mono ?_; rintro e w' ⟨rfl, hs⟩; have S1 := Lib.hid hs; clear hs L1))
            go_roundw
            case rel => first | exact ⟨kx + 1, by go_num, by omega, by omega, S1.out, (scanSorted_go lt dk b kx hkb' hlv).symm.trans HSc.out⟩ | exact hrel
            case measure => simp [intOf]; omega
          | true =>
            have L1 := Lib.hid (fun W' (hs : S W' dk) => HI.out.lessZ (kx : Int) ((kx : Int) - 1) W' dk kx (kx - 1) true hs rfl (by omega) (by omega) (by omega) hlv)
            have HK := Lib.hid (show scanSorted lt dk b i = kx from by rw [← HSc.out, scanSorted_stop lt dk b kx (Or.inr hlv)])
            have hkne : ((kx : Int) == (b : Int)) = false := beq_eq_false_iff_ne.2 (by omega)
            by_cases h50 : b - a < 50
            · have h50z : (b : Int) - (a : Int) < 50 := by omega
              go_wp2_with (first | (go_at_fn gl; refine (L1.out _ SC.out).mono ?_; rintro e w' ⟨rfl, hs⟩; have S1 := Lib.hid hs; clear hs L1))
              have hv : partialInsertionSort lt d a b = (dk, false) := by
                unfold partialInsertionSort
                rw [← HO.out, pi_short lt a b s i dk hs (by rw [HK.out]; omega) h50]
              rw [hv]
              go_ret
              exact ⟨rfl, S1.out⟩
            · have h50z : ¬ ((b : Int) - (a : Int) < 50) := by omega
              have X1 := Lib.hid (fun W' (hs : S W' dk) => HI.out.swapZ (kx : Int) ((kx : Int) - 1) W' dk kx (kx - 1) hs rfl (by omega) (by omega) (by omega))
              by_cases hka : kx - a ≥ 2
              · have hkaz : (2 : Int) ≤ (kx : Int) - (a : Int) := by omega
                go_wp2_with (first | (go_at_fn gl; refine (L1.out _ SC.out).mono ?_; rintro e w' ⟨rfl, hs⟩; have S1 := Lib.hid hs; clear hs L1) | (go_at_fn gs; refine (X1.out _ S1.out).mono ?_; rintro e w' ⟨rfl, hs⟩; have S2 := Lib.hid hs; clear hs X1))
                go_loopw [9] (fun vj wr3 => ∃ (j : Nat) (dj : Array α), vj = .int .i64 j ∧ j ≤ kx - 1 ∧ Hid (S wr3 dj) ∧ Hid (shiftDown lt j dj = shiftDown lt (kx - 1) (swp dk kx (kx - 1)))) (fun vj _ => (intOf vj).toNat)
                case atStart => exact ⟨kx - 1, (swp dk kx (kx - 1)), by congr 1; omega, Nat.le_refl _, S2.out, rfl⟩
                case round =>
                  obtain ⟨j, dj, rfl, hjk, SJ, HDn⟩ := hrel
                  by_cases hj1 : 1 ≤ j
                  · have hj1z : (1 : Int) ≤ (j : Int) := by omega
                    cases hlv2 : lt dj[j]! dj[j - 1]! with
                    | true =>
                      have L2 := Lib.hid (fun W' (hs : S W' dj) => HI.out.lessZ (j : Int) ((j : Int) - 1) W' dj j (j - 1) true hs rfl (by omega) (by omega) (by omega) hlv2)
                      have X2 := Lib.hid (fun W' (hs : S W' dj) => HI.out.swapZ (j : Int) ((j : Int) - 1) W' dj j (j - 1) hs rfl (by omega) (by omega) (by omega))
                      go_wp2_with (first | (go_at_fn gl; refine (L2.out _ SJ.out).mono ?_; rintro e w' ⟨rfl, hs⟩; have T1 := Lib.hid hs; clear hs L2) | (go_at_fn gs; refine (X2.out _ T1.out).mono ?_; rintro e w' ⟨rfl, hs⟩; have T2 := Lib.hid hs; clear hs X2))
                      go_roundw
                      case rel => first | exact ⟨j - 1, swp dj j (j - 1), by congr 1; omega, by omega, T2.out, (shiftDown_go lt j dj hj1 hlv2).symm.trans HDn.out⟩ | exact hrel
                      case measure => simp [intOf]; omega
                    | false =>
                      have L2 := Lib.hid (fun W' (hs : S W' dj) => HI.out.lessZ (j : Int) ((j : Int) - 1) W' dj j (j - 1) false hs rfl (by omega) (by omega) (by omega) hlv2)
                      have HD := Lib.hid (show fixDown lt a kx (swp dk kx (kx - 1)) = dj from by unfold fixDown; rw [if_pos hka, ← HDn.out, shiftDown_stop lt j dj (Or.inr hlv2)])
                      by_cases hbk : b - kx ≥ 2
                      · have hbkz : (2 : Int) ≤ (b : Int) - (kx : Int) := by omega
                        go_wp2_with (first | (go_at_fn gl; refine (L2.out _ SJ.out).mono ?_; rintro e w' ⟨rfl, hs⟩; have T1 := Lib.hid hs; clear hs L2))
                        go_loopw [10] (fun vj wr4 => ∃ (ju : Nat) (du : Array α), vj = .int .i64 ju ∧ kx + 1 ≤ ju ∧ ju ≤ b ∧ Hid (S wr4 du) ∧ Hid (shiftUp lt b ju du = shiftUp lt b (kx + 1) dj)) (fun vj _ => b - (intOf vj).toNat)
                        case atStart => exact ⟨kx + 1, dj, by go_num, Nat.le_refl _, by omega, T1.out, rfl⟩
                        case round =>
                          obtain ⟨ju, du, rfl, hkj, hjb, SU, HU⟩ := hrel
                          by_cases hjb' : ju < b
                          · have hjz : (ju : Int) < (b : Int) := by omega
                            cases hlv3 : lt du[ju]! du[ju - 1]! with
                            | true =>
                              have L3 := Lib.hid (fun W' (hs : S W' du) => HI.out.lessZ (ju : Int) ((ju : Int) - 1) W' du ju (ju - 1) true hs rfl (by omega) (by omega) (by omega) hlv3)
                              have X3 := Lib.hid (fun W' (hs : S W' du) => HI.out.swapZ (ju : Int) ((ju : Int) - 1) W' du ju (ju - 1) hs rfl (by omega) (by omega) (by omega))
                              go_wp2_with (first | (go_at_fn gl; refine (L3.out _ SU.out).mono ?_; rintro e w' ⟨rfl, hs⟩; have U1 := Lib.hid hs; clear hs L3) | (go_at_fn gs; refine (X3.out _ U1.out).mono ?_; rintro e w' ⟨rfl, hs⟩; have U2 := Lib.hid hs; clear hs X3))
                              go_roundw
                              case rel => first | exact ⟨ju + 1, swp du ju (ju - 1), by go_num, by omega, by omega, U2.out, (shiftUp_go lt b ju du hjb' hlv3).symm.trans HU.out⟩ | exact hrel
                              case measure => simp [intOf]; omega
                            | false =>
                              have L3 := Lib.hid (fun W' (hs : S W' du) => HI.out.lessZ (ju : Int) ((ju : Int) - 1) W' du ju (ju - 1) false hs rfl (by omega) (by omega) (by omega) hlv3)
                              go_wp2_with (first | (go_at_fn gl; refine (L3.out _ SU.out).mono ?_; rintro e w' ⟨rfl, hs⟩; have U1 := Lib.hid hs; clear hs L3))
                              go_roundw
                              case rel => first | exact ⟨kx, s + 1, du, rfl, by go_num, by omega, by omega, by omega, U1.out, by rw [← HO.out, pi_go lt a b s i kx dk hs HK.out (by omega) h50, HD.out, show fixUp lt b kx dj = du from by unfold fixUp; rw [if_pos hbk, ← HU.out, shiftUp_stop lt b ju du (Or.inr hlv3)]]; exact rfl⟩ | exact hrel
                              case measure => simp [intOf]; omega
                          · have hjz : ¬ (ju : Int) < (b : Int) := by omega
                            go_wp2
                            go_roundw
                            case rel => first | exact ⟨kx, s + 1, du, rfl, by go_num, by omega, by omega, by omega, SU.out, by rw [← HO.out, pi_go lt a b s i kx dk hs HK.out (by omega) h50, HD.out, show fixUp lt b kx dj = du from by unfold fixUp; rw [if_pos hbk, ← HU.out, shiftUp_stop lt b ju du (Or.inl hjb')]]; exact rfl⟩ | exact hrel
                            case measure => simp [intOf]; omega
                      · have hbkz : ¬ (2 : Int) ≤ (b : Int) - (kx : Int) := by omega
                        go_wp2_with (first | (go_at_fn gl; refine (L2.out _ SJ.out).mono ?_; rintro e w' ⟨rfl, hs⟩; have T1 := Lib.hid hs; clear hs L2))
                        go_roundw
                        case rel => first | exact ⟨kx, s + 1, dj, rfl, by go_num, by omega, by omega, by omega, T1.out, by rw [← HO.out, pi_go lt a b s i kx dk hs HK.out (by omega) h50, HD.out, show fixUp lt b kx dj = dj from by unfold fixUp; rw [if_neg hbk]]; exact rfl⟩ | exact hrel
                        case measure => simp [intOf]; omega
                  · have hj1z : ¬ (1 : Int) ≤ (j : Int) := by omega
                    have HD := Lib.hid (show fixDown lt a kx (swp dk kx (kx - 1)) = dj from by unfold fixDown; rw [if_pos hka, ← HDn.out, shiftDown_stop lt j dj (Or.inl (by omega))])
                    by_cases hbk : b - kx ≥ 2
                    · have hbkz : (2 : Int) ≤ (b : Int) - (kx : Int) := by omega
                      go_wp2
                      go_loopw [10] (fun vj wr4 => ∃ (ju : Nat) (du : Array α), vj = .int .i64 ju ∧ kx + 1 ≤ ju ∧ ju ≤ b ∧ Hid (S wr4 du) ∧ Hid (shiftUp lt b ju du = shiftUp lt b (kx + 1) dj)) (fun vj _ => b - (intOf vj).toNat)
                      case atStart => exact ⟨kx + 1, dj, by go_num, Nat.le_refl _, by omega, SJ.out, rfl⟩
                      case round =>
                        obtain ⟨ju, du, rfl, hkj, hjb, SU, HU⟩ := hrel
                        by_cases hjb' : ju < b
                        · have hjz : (ju : Int) < (b : Int) := by omega
                          cases hlv3 : lt du[ju]! du[ju - 1]! with
                          | true =>
                            have L3 := Lib.hid (fun W' (hs : S W' du) => HI.out.lessZ (ju : Int) ((ju : Int) - 1) W' du ju (ju - 1) true hs rfl (by omega) (by omega) (by omega) hlv3)
                            have X3 := Lib.hid (fun W' (hs : S W' du) => HI.out.swapZ (ju : Int) ((ju : Int) - 1) W' du ju (ju - 1) hs rfl (by omega) (by omega) (by omega))
                            go_wp2_with (first | (go_at_fn gl; refine (L3.out _ SU.out).mono ?_; rintro e w' ⟨rfl, hs⟩; have U1 := Lib.hid hs; clear hs L3) | (go_at_fn gs; refine (X3.out _ U1.out).mono ?_; rintro e w' ⟨rfl, hs⟩; have U2 := Lib.hid hs; clear hs X3))
                            go_roundw
                            case rel => first | exact ⟨ju + 1, swp du ju (ju - 1), by go_num, by omega, by omega, U2.out, (shiftUp_go lt b ju du hjb' hlv3).symm.trans HU.out⟩ | exact hrel
                            case measure => simp [intOf]; omega
                          | false =>
                            have L3 := Lib.hid (fun W' (hs : S W' du) => HI.out.lessZ (ju : Int) ((ju : Int) - 1) W' du ju (ju - 1) false hs rfl (by omega) (by omega) (by omega) hlv3)
                            go_wp2_with (first | (go_at_fn gl; refine (L3.out _ SU.out).mono ?_; rintro e w' ⟨rfl, hs⟩; have U1 := Lib.hid hs; clear hs L3))
                            go_roundw
                            case rel => first | exact ⟨kx, s + 1, du, rfl, by go_num, by omega, by omega, by omega, U1.out, by rw [← HO.out, pi_go lt a b s i kx dk hs HK.out (by omega) h50, HD.out, show fixUp lt b kx dj = du from by unfold fixUp; rw [if_pos hbk, ← HU.out, shiftUp_stop lt b ju du (Or.inr hlv3)]]; exact rfl⟩ | exact hrel
                            case measure => simp [intOf]; omega
                        · have hjz : ¬ (ju : Int) < (b : Int) := by omega
                          go_wp2
                          go_roundw
                          case rel => first | exact ⟨kx, s + 1, du, rfl, by go_num, by omega, by omega, by omega, SU.out, by rw [← HO.out, pi_go lt a b s i kx dk hs HK.out (by omega) h50, HD.out, show fixUp lt b kx dj = du from by unfold fixUp; rw [if_pos hbk, ← HU.out, shiftUp_stop lt b ju du (Or.inl hjb')]]; exact rfl⟩ | exact hrel
                          case measure => simp [intOf]; omega
                    · have hbkz : ¬ (2 : Int) ≤ (b : Int) - (kx : Int) := by omega
                      go_wp2
                      go_roundw
                      case rel => first | exact ⟨kx, s + 1, dj, rfl, by go_num, by omega, by omega, by omega, SJ.out, by rw [← HO.out, pi_go lt a b s i kx dk hs HK.out (by omega) h50, HD.out, show fixUp lt b kx dj = dj from by unfold fixUp; rw [if_neg hbk]]; exact rfl⟩ | exact hrel
                      case measure => simp [intOf]; omega
              · have hkaz : ¬ (2 : Int) ≤ (kx : Int) - (a : Int) := by omega
                have HD := Lib.hid (show fixDown lt a kx (swp dk kx (kx - 1)) = (swp dk kx (kx - 1)) from by unfold fixDown; rw [if_neg hka])
                by_cases hbk : b - kx ≥ 2
                · have hbkz : (2 : Int) ≤ (b : Int) - (kx : Int) := by omega
                  go_wp2_with (first | (go_at_fn gl; refine (L1.out _ SC.out).mono ?_; rintro e w' ⟨rfl, hs⟩; have S1 := Lib.hid hs; clear hs L1) | (go_at_fn gs; refine (X1.out _ S1.out).mono ?_; rintro e w' ⟨rfl, hs⟩; have S2 := Lib.hid hs; clear hs X1))
                  go_loopw [10] (fun vj wr4 => ∃ (ju : Nat) (du : Array α), vj = .int .i64 ju ∧ kx + 1 ≤ ju ∧ ju ≤ b ∧ Hid (S wr4 du) ∧ Hid (shiftUp lt b ju du = shiftUp lt b (kx + 1) (swp dk kx (kx - 1)))) (fun vj _ => b - (intOf vj).toNat)
                  case atStart => exact ⟨kx + 1, (swp dk kx (kx - 1)), by go_num, Nat.le_refl _, by omega, S2.out, rfl⟩
                  case round =>
                    obtain ⟨ju, du, rfl, hkj, hjb, SU, HU⟩ := hrel
                    by_cases hjb' : ju < b
                    · have hjz : (ju : Int) < (b : Int) := by omega
                      cases hlv3 : lt du[ju]! du[ju - 1]! with
                      | true =>
                        have L3 := Lib.hid (fun W' (hs : S W' du) => HI.out.lessZ (ju : Int) ((ju : Int) - 1) W' du ju (ju - 1) true hs rfl (by omega) (by omega) (by omega) hlv3)
                        have X3 := Lib.hid (fun W' (hs : S W' du) => HI.out.swapZ (ju : Int) ((ju : Int) - 1) W' du ju (ju - 1) hs rfl (by omega) (by omega) (by omega))
                        go_wp2_with (first | (go_at_fn gl; refine (L3.out _ SU.out).mono ?_; rintro e w' ⟨rfl, hs⟩; have U1 := Lib.hid hs; clear hs L3) | (go_at_fn gs; refine (X3.out _ U1.out).mono ?_; rintro e w' ⟨rfl, hs⟩; have U2 := Lib.hid hs; clear hs X3))
                        go_roundw
                        case rel => first | exact ⟨ju + 1, swp du ju (ju - 1), by go_num, by omega, by omega, U2.out, (shiftUp_go lt b ju du hjb' hlv3).symm.trans HU.out⟩ | exact hrel
                        case measure => simp [intOf]; omega
                      | false =>
                        have L3 := Lib.hid (fun W' (hs : S W' du) => HI.out.lessZ (ju : Int) ((ju : Int) - 1) W' du ju (ju - 1) false hs rfl (by omega) (by omega) (by omega) hlv3)
                        go_wp2_with (first | (go_at_fn gl; refine (L3.out _ SU.out).mono ?_; rintro e w' ⟨rfl, hs⟩; have U1 := Lib.hid hs; clear hs L3))
                        go_roundw
                        case rel => first | exact ⟨kx, s + 1, du, rfl, by go_num, by omega, by omega, by omega, U1.out, by rw [← HO.out, pi_go lt a b s i kx dk hs HK.out (by omega) h50, HD.out, show fixUp lt b kx (swp dk kx (kx - 1)) = du from by unfold fixUp; rw [if_pos hbk, ← HU.out, shiftUp_stop lt b ju du (Or.inr hlv3)]]; exact rfl⟩ | exact hrel
                        case measure => simp [intOf]; omega
                    · have hjz : ¬ (ju : Int) < (b : Int) := by omega
                      go_wp2
                      go_roundw
                      case rel => first | exact ⟨kx, s + 1, du, rfl, by go_num, by omega, by omega, by omega, SU.out, by rw [← HO.out, pi_go lt a b s i kx dk hs HK.out (by omega) h50, HD.out, show fixUp lt b kx (swp dk kx (kx - 1)) = du from by unfold fixUp; rw [if_pos hbk, ← HU.out, shiftUp_stop lt b ju du (Or.inl hjb')]]; exact rfl⟩ | exact hrel
                      case measure => simp [intOf]; omega
                · exfalso; omega
        · obtain rfl : kx = b := by omega
          have hkz : ¬ (kx : Int) < (kx : Int) := by omega
          go_wp2
          have hv : partialInsertionSort lt d a kx = (dk, true) := by
            unfold partialInsertionSort
            rw [← HO.out, pi_true lt a kx s i dk hs (by rw [← HSc.out, scanSorted_stop lt dk kx kx (Or.inl (by omega))])]
          rw [hv]
          go_ret
          exact ⟨rfl, SC.out⟩
    · obtain rfl : s = 5 := by omega
      go_wp2
      have hv : partialInsertionSort lt d a b = (dk, false) := by
        unfold partialInsertionSort
        rw [← HO.out, pi_end]
      rw [hv]
      go_ret
      exact ⟨rfl, SK.out⟩
end
end Go.Proofs.Ytfcpjckecjjmjaa.SoP
