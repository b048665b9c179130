/- FnSortedCrossChunkImportsOrderFree: partitionEqual, partition over any state. -/
import Derived.Test.YtfcpjckecjjmjaaSoA
import Derived.Sort.WalkC4
import Derived.WalkKit
import Derived.ProofKit
import Derived.OpenShut
import Derived.Below
import Derived.WalkLawsBesides
import Derived.Lib.Hide
import Derived.Outline
import Derived.RegionTactic
import Derived.Deep.QuietTactic
import Derived.BigQuiet
import Derived.WalkSpells
import Derived.Deep.OwnRows
import Derived.IntWalk
import Derived.Deep.DeepMust
namespace Go.Proofs.Ytfcpjckecjjmjaa.SoQ
open Go.RowKit Go.Sort Go.Shelf Go.Lib SoA
set_option linter.unusedVariables false
section
variable {P : Program} {ρ : Ren} {α : Type} [Inhabited α] {T : TypeId} {rv : Value} {gl gs : Nat} {lt : α → α → Bool} {n base : Nat} {S : World → Array α → Prop}
set_option maxRecDepth 100000 in
set_option maxHeartbeats 16000000 in
theorem parE39 (L : LaysGt.n39 P ρ) (I : Ifc P T rv gl gs lt n base S) (hn : n ≤ 1048576) (W : World) (d : Array α) (a b pivot : Nat) (hS : S W d) (hap : a ≤ pivot) (hpb : pivot < b) (hb : b ≤ n) :
    Calls P (ρ.f 39) #[.iface T rv, .int .i64 a, .int .i64 b, .int .i64 pivot] W fun e w' => e = .returned (.int .i64 (partitionEqual lt d a b pivot).1) ∧ S w' (partitionEqual lt d a b pivot).2 := by
  have HI := Lib.hid I
  have HS := Lib.hid hS
  have mL := I.mL
  have mS := I.mS
  have eL := I.eL
  have eS := I.eS
  have X0 := Lib.hid (I.swapZ (a : Int) (pivot : Int) W d a pivot hS rfl rfl (by omega) (by omega))
  clear I hS
  have mixed := L.mixed; have t0 := L.t0; have a0 := L.a0; have z0 := L.z0; have v0 := L.v0; have t3 := L.t3; have a3 := L.a3; have z3 := L.z3; have v3 := L.v3; have t4 := L.t4; have a4 := L.a4; have z4 := L.z4; have v4 := L.v4; have t26 := L.t26; have a26 := L.a26; have z26 := L.z26; have v26 := L.v26; have t38 := L.t38; have a38 := L.a38; have z38 := L.z38; have v38 := L.v38; have t43 := L.t43; have a43 := L.a43; have z43 := L.z43; have v43 := L.v43; have t45 := L.t45; have a45 := L.a45; have z45 := L.z45; have v45 := L.v45
  go_enter L.f39, BodyGt.n39_ntmps ρ
  go_wp2_with (go_at_fn gs; refine X0.out.mono ?_; rintro e w' ⟨rfl, hs⟩; have S0 := Lib.hid hs; clear hs)
  go_loopw [9, 10] (fun vi vj wr => ∃ (i j : Nat) (dk : Array α), vi = .int .i64 i ∧ vj = .int .i64 j ∧ a < i ∧ i ≤ j + 1 ∧ j < b ∧ Hid (S wr dk) ∧ Hid (partEqLoop lt a i j dk = partEqLoop lt a (a + 1) (b - 1) (swp d a pivot))) (fun vi vj _ => (intOf vj).toNat + 1 - (intOf vi).toNat)
  case atStart => exact ⟨a + 1, b - 1, swp d a pivot, by go_num, by go_num, by omega, by omega, by omega, S0.out, rfl⟩
  case round =>
    obtain ⟨i, j, dk, rfl, rfl, hai, hij, hjb, SK, AE⟩ := hrel
    go_wp2
    go_loopw [9] (fun vi w1 => ∃ (i' : Nat), vi = .int .i64 i' ∧ i ≤ i' ∧ i' ≤ j + 1 ∧ Hid (S w1 dk) ∧ Hid (scanUp (fun x => !lt dk[a]! x) dk j i' = scanUp (fun x => !lt dk[a]! x) dk j i)) (fun vi _ => j + 1 - (intOf vi).toNat)
    case atStart => exact ⟨i, rfl, Nat.le_refl _, hij, SK.out, rfl⟩
    case round =>
      obtain ⟨i', rfl, hii, hij', SU, hsc⟩ := hrel
      by_cases hle : i' ≤ j
      · cases hlv : lt dk[a]! dk[i']! with
        | false =>
          have L1 := Lib.hid (fun W' (hs : S W' dk) => HI.out.lessZ (a : Int) (i' : Int) W' dk a i' false hs rfl rfl (by omega) (by omega) hlv)
          go_wp2_with (first | (go_at_fn gl; refine (L1.out _ SU.out).mono ?_; rintro e w' ⟨rfl, hs⟩; have U1 := Lib.hid hs; clear hs L1))
          go_roundw
          case rel => first | exact ⟨i' + 1, by go_num, by omega, by omega, U1.out, (scanUp_go (fun x => !lt dk[a]! x) dk j i' hle (by simp [hlv])).symm.trans hsc.out⟩ | exact hrel
          case measure => simp [intOf]; omega
        | true =>
          have L1 := Lib.hid (fun W' (hs : S W' dk) => HI.out.lessZ (a : Int) (i' : Int) W' dk a i' true hs rfl rfl (by omega) (by omega) hlv)
          have hi2 := Lib.hid (show i' = scanUp (fun x => !lt dk[a]! x) dk j i from (scanUp_end (fun x => !lt dk[a]! x) dk j i' (Or.inr (by simp [hlv]))).symm.trans hsc.out)
          clear hsc
          go_wp2_with (first | (go_at_fn gl; refine (L1.out _ SU.out).mono ?_; rintro e w' ⟨rfl, hs⟩; have U1 := Lib.hid hs; clear hs L1))
          go_loopw [10] (fun vj w2 => ∃ (j' : Nat), vj = .int .i64 j' ∧ j' ≤ j ∧ i' ≤ j' + 1 ∧ Hid (S w2 dk) ∧ Hid (scanDown (fun x => lt dk[a]! x) dk i' j' = scanDown (fun x => lt dk[a]! x) dk i' j)) (fun vj _ => (intOf vj).toNat)
          case atStart => exact ⟨j, rfl, Nat.le_refl _, hij', U1.out, rfl⟩
          case round =>
            obtain ⟨j', rfl, hjj, hij2, SD, hsd⟩ := hrel
            by_cases hle2 : i' ≤ j'
            · cases hlv2 : lt dk[a]! dk[j']! with
              | true =>
                have L2 := Lib.hid (fun W' (hs : S W' dk) => HI.out.lessZ (a : Int) (j' : Int) W' dk a j' true hs rfl rfl (by omega) (by omega) hlv2)
                go_wp2_with (first | (go_at_fn gl; refine (L2.out _ SD.out).mono ?_; rintro e w' ⟨rfl, hs⟩; have D1 := Lib.hid hs; clear hs L2))
                go_roundw
                case rel => first | exact ⟨j' - 1, by go_num, by omega, by omega, D1.out, (scanDown_go (fun x => lt dk[a]! x) dk i' j' hle2 (by omega) (by simp [hlv2])).symm.trans hsd.out⟩ | exact hrel
                case measure => simp [intOf]; omega
              | false =>
                have L2 := Lib.hid (fun W' (hs : S W' dk) => HI.out.lessZ (a : Int) (j' : Int) W' dk a j' false hs rfl rfl (by omega) (by omega) hlv2)
                have hj2 := Lib.hid (show j' = scanDown (fun x => lt dk[a]! x) dk i' j from (scanDown_end (fun x => lt dk[a]! x) dk i' j' (Or.inr (by simp [hlv2]))).symm.trans hsd.out)
                have hlt3 := scans_lt lt a i j dk (by omega) hi2.out hj2.out hle2
                clear hsd
                have X2 := Lib.hid (fun W' (hs : S W' dk) => HI.out.swapZ (i' : Int) (j' : Int) W' dk i' j' hs rfl rfl (by omega) (by omega))
                go_wp2_with (first | (go_at_fn gl; refine (L2.out _ SD.out).mono ?_; rintro e w' ⟨rfl, hs⟩; have D1 := Lib.hid hs; clear hs L2) | (go_at_fn gs; refine (X2.out _ D1.out).mono ?_; rintro e w' ⟨rfl, hs⟩; have D2 := Lib.hid hs; clear hs X2))
                go_roundw
                case rel => first | exact ⟨i' + 1, j' - 1, swp dk i' j', by go_num, by go_num, by omega, by omega, by omega, D2.out, (partEq_go lt a i j dk hi2.out hj2.out (by omega)).symm.trans AE.out⟩ | exact hrel
                case measure => simp [intOf]; omega
            · have hj2 := Lib.hid (show j' = scanDown (fun x => lt dk[a]! x) dk i' j from (scanDown_end (fun x => lt dk[a]! x) dk i' j' (Or.inl hle2)).symm.trans hsd.out)
              clear hsd
              have e := partEq_break lt a i j dk hi2.out hj2.out (by omega)
              have FIN := Lib.hid (show partitionEqual lt d a b pivot = (i', dk) from by unfold partitionEqual; rw [← AE.out, e])
              clear e
              go_wp2
              go_ret
              rw [FIN.out]
              exact ⟨rfl, SD.out⟩
      · have hi2 := Lib.hid (show i' = scanUp (fun x => !lt dk[a]! x) dk j i from (scanUp_end (fun x => !lt dk[a]! x) dk j i' (Or.inl hle)).symm.trans hsc.out)
        clear hsc
        go_wp2
        go_loopw [10] (fun vj w2 => ∃ (j' : Nat), vj = .int .i64 j' ∧ j' ≤ j ∧ i' ≤ j' + 1 ∧ Hid (S w2 dk) ∧ Hid (scanDown (fun x => lt dk[a]! x) dk i' j' = scanDown (fun x => lt dk[a]! x) dk i' j)) (fun vj _ => (intOf vj).toNat)
        case atStart => exact ⟨j, rfl, Nat.le_refl _, hij', SU.out, rfl⟩
        case round =>
          obtain ⟨j', rfl, hjj, hij2, SD, hsd⟩ := hrel
          by_cases hle2 : i' ≤ j'
          · exfalso; omega
          · have hj2 := Lib.hid (show j' = scanDown (fun x => lt dk[a]! x) dk i' j from (scanDown_end (fun x => lt dk[a]! x) dk i' j' (Or.inl hle2)).symm.trans hsd.out)
            clear hsd
            have e := partEq_break lt a i j dk hi2.out hj2.out (by omega)
            have FIN := Lib.hid (show partitionEqual lt d a b pivot = (i', dk) from by unfold partitionEqual; rw [← AE.out, e])
            clear e
            go_wp2
            go_ret
            rw [FIN.out]
            exact ⟨rfl, SD.out⟩
set_option maxRecDepth 100000 in
set_option maxHeartbeats 16000000 in
theorem par40 (L : LaysGt.n40 P ρ) (I : Ifc P T rv gl gs lt n base S) (hn : n ≤ 1048576) (W : World) (d : Array α) (a b pivot : Nat) (hS : S W d) (hap : a ≤ pivot) (hpb : pivot < b) (hb : b ≤ n) :
    Calls P (ρ.f 40) #[.iface T rv, .int .i64 a, .int .i64 b, .int .i64 pivot] W fun e w' => e = .returned (.tuple #[.int .i64 (partition lt d a b pivot).1, .bool (partition lt d a b pivot).2.1]) ∧ S w' (partition lt d a b pivot).2.2 := by
  have HI := Lib.hid I
  have HS := Lib.hid hS
  have mL := I.mL
  have mS := I.mS
  have eL := I.eL
  have eS := I.eS
  have X0 := Lib.hid (I.swapZ (a : Int) (pivot : Int) W d a pivot hS rfl rfl (by omega) (by omega))
  clear I hS
  have mixed := L.mixed; have t0 := L.t0; have a0 := L.a0; have z0 := L.z0; have v0 := L.v0; have t3 := L.t3; have a3 := L.a3; have z3 := L.z3; have v3 := L.v3; have t4 := L.t4; have a4 := L.a4; have z4 := L.z4; have v4 := L.v4; have t26 := L.t26; have a26 := L.a26; have z26 := L.z26; have v26 := L.v26; have t38 := L.t38; have a38 := L.a38; have z38 := L.z38; have v38 := L.v38; have t43 := L.t43; have a43 := L.a43; have z43 := L.z43; have v43 := L.v43; have t45 := L.t45; have a45 := L.a45; have z45 := L.z45; have v45 := L.v45
  obtain ⟨i, hi⟩ : ∃ i : Nat, i = a + 1 := ⟨_, rfl⟩
  obtain ⟨j, hj⟩ : ∃ j : Nat, j = b - 1 := ⟨_, rfl⟩
  obtain ⟨dk, hdk⟩ : ∃ dk : Array α, dk = swp d a pivot := ⟨_, rfl⟩
  have hai : a < i := by omega
  have hij : i ≤ j + 1 := by omega
  have hjb : j < b := by omega
  have Hi := Lib.hid hi
  have Hj := Lib.hid hj
  have Hdk := Lib.hid hdk
  clear hi hj hdk
  go_enter L.f40, BodyGt.n40_ntmps ρ
  go_wp2_with (go_at_fn gs; refine X0.out.mono ?_; rintro e w' ⟨rfl, hs⟩; rw [← Hdk.out] at hs; have S0 := Lib.hid hs; clear hs)
  rw [show ((a : Int) + 1) = (i : Int) by have := Hi.out; omega, show ((b : Int) - 1) = (j : Int) by have := Hj.out; omega]
  go_loopw [10] (fun vi w1 => ∃ (i' : Nat), vi = .int .i64 i' ∧ i ≤ i' ∧ i' ≤ j + 1 ∧ Hid (S w1 dk) ∧ Hid (scanUp (fun x => lt x dk[a]!) dk j i' = scanUp (fun x => lt x dk[a]!) dk j i)) (fun vi _ => j + 1 - (intOf vi).toNat)
  case atStart => exact ⟨i, rfl, Nat.le_refl _, hij, S0.out, rfl⟩
  case round =>
    obtain ⟨i', rfl, hii, hij', SU, hsc⟩ := hrel
    by_cases hle : i' ≤ j
    · cases hlv : lt dk[i']! dk[a]! with
      | true =>
        have L1 := Lib.hid (fun W' (hs : S W' dk) => HI.out.lessZ (i' : Int) (a : Int) W' dk i' a true hs rfl rfl (by omega) (by omega) hlv)
        go_wp2_with (first | (go_at_fn gl; refine (L1.out _ SU.out).mono ?_; rintro e w' ⟨rfl, hs⟩; have U1 := Lib.hid hs; clear hs L1))
        go_roundw
        case rel => first | exact ⟨i' + 1, by go_num, by omega, by omega, U1.out, (scanUp_go (fun x => lt x dk[a]!) dk j i' hle (by simp [hlv])).symm.trans hsc.out⟩ | exact hrel
        case measure => simp [intOf]; omega
      | false =>
        have L1 := Lib.hid (fun W' (hs : S W' dk) => HI.out.lessZ (i' : Int) (a : Int) W' dk i' a false hs rfl rfl (by omega) (by omega) hlv)
        have hi2 := Lib.hid (show i' = scanUp (fun x => lt x dk[a]!) dk j i from (scanUp_end (fun x => lt x dk[a]!) dk j i' (Or.inr (by simp [hlv]))).symm.trans hsc.out)
        clear hsc
        go_wp2_with (first | (go_at_fn gl; refine (L1.out _ SU.out).mono ?_; rintro e w' ⟨rfl, hs⟩; have U1 := Lib.hid hs; clear hs L1))
        go_loopw [11] (fun vj w2 => ∃ (j' : Nat), vj = .int .i64 j' ∧ j' ≤ j ∧ i' ≤ j' + 1 ∧ Hid (S w2 dk) ∧ Hid (scanDown (fun x => !lt x dk[a]!) dk i' j' = scanDown (fun x => !lt x dk[a]!) dk i' j)) (fun vj _ => (intOf vj).toNat)
        case atStart => exact ⟨j, rfl, Nat.le_refl _, hij', U1.out, rfl⟩
        case round =>
          obtain ⟨j', rfl, hjj, hij2, SD, hsd⟩ := hrel
          by_cases hle2 : i' ≤ j'
          · cases hlv2 : lt dk[j']! dk[a]! with
            | false =>
              have L2 := Lib.hid (fun W' (hs : S W' dk) => HI.out.lessZ (j' : Int) (a : Int) W' dk j' a false hs rfl rfl (by omega) (by omega) hlv2)
              go_wp2_with (first | (go_at_fn gl; refine (L2.out _ SD.out).mono ?_; rintro e w' ⟨rfl, hs⟩; have D1 := Lib.hid hs; clear hs L2))
              go_roundw
              case rel => first | exact ⟨j' - 1, by go_num, by omega, by omega, D1.out, (scanDown_go (fun x => !lt x dk[a]!) dk i' j' hle2 (by omega) (by simp [hlv2])).symm.trans hsd.out⟩ | exact hrel
              case measure => simp [intOf]; omega
            | true =>
              have L2 := Lib.hid (fun W' (hs : S W' dk) => HI.out.lessZ (j' : Int) (a : Int) W' dk j' a true hs rfl rfl (by omega) (by omega) hlv2)
              have hj2 := Lib.hid (show j' = scanDown (fun x => !lt x dk[a]!) dk i' j from (scanDown_end (fun x => !lt x dk[a]!) dk i' j' (Or.inr (by simp [hlv2]))).symm.trans hsd.out)
              have hlt3 := part_scans_lt lt a i j dk (by omega) hi2.out hj2.out hle2
              clear hsd
              have X2 := Lib.hid (fun W' (hs : S W' dk) => HI.out.swapZ (i' : Int) (j' : Int) W' dk i' j' hs rfl rfl (by omega) (by omega))
              go_wp2_with (first | (go_at_fn gl; refine (L2.out _ SD.out).mono ?_; rintro e w' ⟨rfl, hs⟩; have D1 := Lib.hid hs; clear hs L2) | (go_at_fn gs; refine (X2.out _ D1.out).mono ?_; rintro e w' ⟨rfl, hs⟩; have D2 := Lib.hid hs; clear hs X2))
              (try rw [decide_eq_false (show ¬ j' < i' by omega)])
              obtain ⟨I0, hI0⟩ : ∃ I0 : Nat, I0 = i' + 1 := ⟨_, rfl⟩
              obtain ⟨J0, hJ0⟩ : ∃ J0 : Nat, J0 = j' - 1 := ⟨_, rfl⟩
              obtain ⟨D0, hD0⟩ : ∃ D0 : Array α, D0 = swp dk i' j' := ⟨_, rfl⟩
              have PF := Lib.hid (show partition lt d a b pivot = ((partLoop lt a I0 J0 D0).1, false, swp (partLoop lt a I0 J0 D0).2 (partLoop lt a I0 J0 D0).1 a) from by
                rw [hI0, hJ0, hD0]; exact part_first_go lt d a b pivot Hi.out Hj.out Hdk.out hi2.out hj2.out (by omega))
              have HI0 := Lib.hid hI0
              have HJ0 := Lib.hid hJ0
              have HD0 := Lib.hid hD0
              clear hI0 hJ0 hD0
              go_loopw [10, 11] (fun vi vj wr => ∃ (i j : Nat) (dk : Array α), vi = .int .i64 i ∧ vj = .int .i64 j ∧ a < i ∧ i ≤ j + 1 ∧ j < b ∧ Hid (S wr dk) ∧ Hid (partLoop lt a i j dk = partLoop lt a I0 J0 D0)) (fun vi vj _ => (intOf vj).toNat + 1 - (intOf vi).toNat)
              case atStart => exact ⟨i' + 1, j' - 1, swp dk i' j', by go_num, by go_num, by omega, by omega, by omega, D2.out, by rw [HI0.out, HJ0.out, HD0.out]; exact rfl⟩
              case round =>
                clear hi2 hj2 HI0 HJ0 HD0 Hi Hj Hdk hai hij hjb hii hij' hle hjj hij2 hle2 hlt3 hlv hlv2
                obtain ⟨i, j, dk, rfl, rfl, hai, hij, hjb, SK, AE⟩ := hrel
                go_wp2
                go_loopw [10] (fun vi w1 => ∃ (i' : Nat), vi = .int .i64 i' ∧ i ≤ i' ∧ i' ≤ j + 1 ∧ Hid (S w1 dk) ∧ Hid (scanUp (fun x => lt x dk[a]!) dk j i' = scanUp (fun x => lt x dk[a]!) dk j i)) (fun vi _ => j + 1 - (intOf vi).toNat)
                case atStart => exact ⟨i, rfl, Nat.le_refl _, hij, SK.out, rfl⟩
                case round =>
                  obtain ⟨i', rfl, hii, hij', SU, hsc⟩ := hrel
                  by_cases hle : i' ≤ j
                  · cases hlv : lt dk[i']! dk[a]! with
                    | true =>
                      have L1 := Lib.hid (fun W' (hs : S W' dk) => HI.out.lessZ (i' : Int) (a : Int) W' dk i' a true hs rfl rfl (by omega) (by omega) hlv)
                      go_wp2_with (first | (go_at_fn gl; refine (L1.out _ SU.out).mono ?_; rintro e w' ⟨rfl, hs⟩; have U1 := Lib.hid hs; clear hs L1))
                      go_roundw
                      case rel => first | exact ⟨i' + 1, by go_num, by omega, by omega, U1.out, (scanUp_go (fun x => lt x dk[a]!) dk j i' hle (by simp [hlv])).symm.trans hsc.out⟩ | exact hrel
                      case measure => simp [intOf]; omega
                    | false =>
                      have L1 := Lib.hid (fun W' (hs : S W' dk) => HI.out.lessZ (i' : Int) (a : Int) W' dk i' a false hs rfl rfl (by omega) (by omega) hlv)
                      have hi2 := Lib.hid (show i' = scanUp (fun x => lt x dk[a]!) dk j i from (scanUp_end (fun x => lt x dk[a]!) dk j i' (Or.inr (by simp [hlv]))).symm.trans hsc.out)
                      clear hsc
                      go_wp2_with (first | (go_at_fn gl; refine (L1.out _ SU.out).mono ?_; rintro e w' ⟨rfl, hs⟩; have U1 := Lib.hid hs; clear hs L1))
                      go_loopw [11] (fun vj w2 => ∃ (j' : Nat), vj = .int .i64 j' ∧ j' ≤ j ∧ i' ≤ j' + 1 ∧ Hid (S w2 dk) ∧ Hid (scanDown (fun x => !lt x dk[a]!) dk i' j' = scanDown (fun x => !lt x dk[a]!) dk i' j)) (fun vj _ => (intOf vj).toNat)
                      case atStart => exact ⟨j, rfl, Nat.le_refl _, hij', U1.out, rfl⟩
                      case round =>
                        obtain ⟨j', rfl, hjj, hij2, SD, hsd⟩ := hrel
                        by_cases hle2 : i' ≤ j'
                        · cases hlv2 : lt dk[j']! dk[a]! with
                          | false =>
                            have L2 := Lib.hid (fun W' (hs : S W' dk) => HI.out.lessZ (j' : Int) (a : Int) W' dk j' a false hs rfl rfl (by omega) (by omega) hlv2)
                            go_wp2_with (first | (go_at_fn gl; refine (L2.out _ SD.out).mono ?_; rintro e w' ⟨rfl, hs⟩; have D1 := Lib.hid hs; clear hs L2))
                            go_roundw
                            case rel => first | exact ⟨j' - 1, by go_num, by omega, by omega, D1.out, (scanDown_go (fun x => !lt x dk[a]!) dk i' j' hle2 (by omega) (by simp [hlv2])).symm.trans hsd.out⟩ | exact hrel
                            case measure => simp [intOf]; omega
                          | true =>
                            have L2 := Lib.hid (fun W' (hs : S W' dk) => HI.out.lessZ (j' : Int) (a : Int) W' dk j' a true hs rfl rfl (by omega) (by omega) hlv2)
                            have hj2 := Lib.hid (show j' = scanDown (fun x => !lt x dk[a]!) dk i' j from (scanDown_end (fun x => !lt x dk[a]!) dk i' j' (Or.inr (by simp [hlv2]))).symm.trans hsd.out)
                            have hlt3 := part_scans_lt lt a i j dk (by omega) hi2.out hj2.out hle2
                            clear hsd
                            have X2 := Lib.hid (fun W' (hs : S W' dk) => HI.out.swapZ (i' : Int) (j' : Int) W' dk i' j' hs rfl rfl (by omega) (by omega))
                            go_wp2_with (first | (go_at_fn gl; refine (L2.out _ SD.out).mono ?_; rintro e w' ⟨rfl, hs⟩; have D1 := Lib.hid hs; clear hs L2) | (go_at_fn gs; refine (X2.out _ D1.out).mono ?_; rintro e w' ⟨rfl, hs⟩; have D2 := Lib.hid hs; clear hs X2))
                            go_roundw
                            case rel => first | exact ⟨i' + 1, j' - 1, swp dk i' j', by go_num, by go_num, by omega, by omega, by omega, D2.out, (part_go lt a i j dk hi2.out hj2.out (by omega)).symm.trans AE.out⟩ | exact hrel
                            case measure => simp [intOf]; omega
                        · have hj2 := Lib.hid (show j' = scanDown (fun x => !lt x dk[a]!) dk i' j from (scanDown_end (fun x => !lt x dk[a]!) dk i' j' (Or.inl hle2)).symm.trans hsd.out)
                          clear hsd
                          have FIN := Lib.hid (show partition lt d a b pivot = (j', false, swp dk j' a) from by rw [PF.out, ← AE.out, part_break lt a i j dk hi2.out hj2.out (by omega)])
                          have X3 := Lib.hid (fun W' (hs : S W' dk) => HI.out.swapZ (j' : Int) (a : Int) W' dk j' a hs rfl rfl (by omega) (by omega))
                          go_wp2_with (first | (go_at_fn gs; refine (X3.out _ SD.out).mono ?_; rintro e w' ⟨rfl, hs⟩; have D3 := Lib.hid hs; clear hs X3))
                          go_ret2
                          rw [FIN.out]
                          exact ⟨rfl, D3.out⟩
                  · have hi2 := Lib.hid (show i' = scanUp (fun x => lt x dk[a]!) dk j i from (scanUp_end (fun x => lt x dk[a]!) dk j i' (Or.inl hle)).symm.trans hsc.out)
                    clear hsc
                    go_wp2
                    go_loopw [11] (fun vj w2 => ∃ (j' : Nat), vj = .int .i64 j' ∧ j' ≤ j ∧ i' ≤ j' + 1 ∧ Hid (S w2 dk) ∧ Hid (scanDown (fun x => !lt x dk[a]!) dk i' j' = scanDown (fun x => !lt x dk[a]!) dk i' j)) (fun vj _ => (intOf vj).toNat)
                    case atStart => exact ⟨j, rfl, Nat.le_refl _, hij', SU.out, rfl⟩
                    case round =>
                      obtain ⟨j', rfl, hjj, hij2, SD, hsd⟩ := hrel
                      by_cases hle2 : i' ≤ j'
                      · exfalso; omega
                      · have hj2 := Lib.hid (show j' = scanDown (fun x => !lt x dk[a]!) dk i' j from (scanDown_end (fun x => !lt x dk[a]!) dk i' j' (Or.inl hle2)).symm.trans hsd.out)
                        clear hsd
                        have FIN := Lib.hid (show partition lt d a b pivot = (j', false, swp dk j' a) from by rw [PF.out, ← AE.out, part_break lt a i j dk hi2.out hj2.out (by omega)])
                        have X3 := Lib.hid (fun W' (hs : S W' dk) => HI.out.swapZ (j' : Int) (a : Int) W' dk j' a hs rfl rfl (by omega) (by omega))
                        go_wp2_with (first | (go_at_fn gs; refine (X3.out _ SD.out).mono ?_; rintro e w' ⟨rfl, hs⟩; have D3 := Lib.hid hs; clear hs X3))
                        go_ret2
                        rw [FIN.out]
                        exact ⟨rfl, D3.out⟩
          · have hj2 := Lib.hid (show j' = scanDown (fun x => !lt x dk[a]!) dk i' j from (scanDown_end (fun x => !lt x dk[a]!) dk i' j' (Or.inl hle2)).symm.trans hsd.out)
            clear hsd
            have FIN := Lib.hid (show partition lt d a b pivot = (j', true, swp dk j' a) from part_first_break lt d a b pivot Hi.out Hj.out Hdk.out hi2.out hj2.out (by omega))
            have X3 := Lib.hid (fun W' (hs : S W' dk) => HI.out.swapZ (j' : Int) (a : Int) W' dk j' a hs rfl rfl (by omega) (by omega))
            go_wp2_with (first | (go_at_fn gs; refine (X3.out _ SD.out).mono ?_; rintro e w' ⟨rfl, hs⟩; have D3 := Lib.hid hs; clear hs X3))
            go_ret2
            rw [FIN.out]
            exact ⟨rfl, D3.out⟩
    · have hi2 := Lib.hid (show i' = scanUp (fun x => lt x dk[a]!) dk j i from (scanUp_end (fun x => lt x dk[a]!) dk j i' (Or.inl hle)).symm.trans hsc.out)
      clear hsc
      go_wp2
      go_loopw [11] (fun vj w2 => ∃ (j' : Nat), vj = .int .i64 j' ∧ j' ≤ j ∧ i' ≤ j' + 1 ∧ Hid (S w2 dk) ∧ Hid (scanDown (fun x => !lt x dk[a]!) dk i' j' = scanDown (fun x => !lt x dk[a]!) dk i' j)) (fun vj _ => (intOf vj).toNat)
      case atStart => exact ⟨j, rfl, Nat.le_refl _, hij', SU.out, rfl⟩
      case round =>
        obtain ⟨j', rfl, hjj, hij2, SD, hsd⟩ := hrel
        by_cases hle2 : i' ≤ j'
        · exfalso; omega
        · have hj2 := Lib.hid (show j' = scanDown (fun x => !lt x dk[a]!) dk i' j from (scanDown_end (fun x => !lt x dk[a]!) dk i' j' (Or.inl hle2)).symm.trans hsd.out)
          clear hsd
          have FIN := Lib.hid (show partition lt d a b pivot = (j', true, swp dk j' a) from part_first_break lt d a b pivot Hi.out Hj.out Hdk.out hi2.out hj2.out (by omega))
          have X3 := Lib.hid (fun W' (hs : S W' dk) => HI.out.swapZ (j' : Int) (a : Int) W' dk j' a hs rfl rfl (by omega) (by omega))
          go_wp2_with (first | (go_at_fn gs; refine (X3.out _ SD.out).mono ?_; rintro e w' ⟨rfl, hs⟩; have D3 := Lib.hid hs; clear hs X3))
          go_ret2
          rw [FIN.out]
          exact ⟨rfl, D3.out⟩
end
end Go.Proofs.Ytfcpjckecjjmjaa.SoQ
