/- FnSortedCrossChunkImportsOrderFree: siftDown over any state. -/
import Derived.Test.YtfcpjckecjjmjaaSoA
import Derived.Sort.WalkB2
import Derived.WalkKit
import Derived.ProofKit
import Derived.OpenShut
import Derived.Below
import Derived.WalkLawsBesides
import Derived.Lib.Hide
import Derived.Outline
import Derived.RegionTactic
import Derived.Deep.QuietTactic
import Derived.BigQuiet
import Derived.WalkSpells
import Derived.Deep.OwnRows
import Derived.IntWalk
import Derived.Deep.DeepMust
namespace Go.Proofs.Ytfcpjckecjjmjaa.SoD
open Go.RowKit Go.Sort Go.Shelf Go.Lib SoA
set_option linter.unusedVariables false
section
variable {P : Program} {ρ : Ren} {α : Type} [Inhabited α] {T : TypeId} {rv : Value} {gl gs : Nat} {lt : α → α → Bool} {n base : Nat} {S : World → Array α → Prop}
set_option maxRecDepth 100000 in
set_option maxHeartbeats 8000000 in
theorem sift43 (L : LaysGt.n43 P ρ) (I : Ifc P T rv gl gs lt n base S) (hn : n ≤ 1048576) (W : World) (d : Array α) (lo hi first : Nat) (hS : S W d) (hlo : lo ≤ hi) (hb : first + hi ≤ n) :
    Calls P (ρ.f 43) #[.iface T rv, .int .i64 lo, .int .i64 hi, .int .i64 first] W fun e w' => e = .returned (.tuple #[]) ∧ S w' (siftDown lt hi first lo d) := by
  have HI := Lib.hid I
  have HS := Lib.hid hS
  have mL := I.mL
  have mS := I.mS
  have eL := I.eL
  have eS := I.eS
  clear I hS
  have mixed := L.mixed; have t0 := L.t0; have a0 := L.a0; have z0 := L.z0; have v0 := L.v0; have t3 := L.t3; have a3 := L.a3; have z3 := L.z3; have v3 := L.v3; have t4 := L.t4; have a4 := L.a4; have z4 := L.z4; have v4 := L.v4; have t26 := L.t26; have a26 := L.a26; have z26 := L.z26; have v26 := L.v26; have t38 := L.t38; have a38 := L.a38; have z38 := L.z38; have v38 := L.v38; have t43 := L.t43; have a43 := L.a43; have z43 := L.z43; have v43 := L.v43; have t45 := L.t45; have a45 := L.a45; have z45 := L.z45; have v45 := L.v45
  go_enter L.f43, BodyGt.n43_ntmps ρ
  go_wp2
  go_loopw [8] (fun s8 wr => ∃ (root : Nat) (dk : Array α), s8 = .int .i64 root ∧ root ≤ hi ∧ S wr dk ∧ siftDown lt hi first root dk = siftDown lt hi first lo d) (fun s8 _ => hi - (intOf s8).toNat)
  case atStart => exact ⟨lo, d, rfl, hlo, HS.out, rfl⟩
  case round =>
    obtain ⟨root, dk, rfl, hr, hs, he⟩ := hrel
    have SK := Lib.hid hs
    have HE := Lib.hid he
    clear hs he
    by_cases h0 : hi ≤ 2 * root + 1
    · have h0z : (hi : Int) ≤ 2 * (root : Int) + 1 := by omega
      have FIN := Lib.hid (show S wr (siftDown lt hi first lo d) from by rw [← HE.out, sd_end lt dk h0]; exact SK.out)
      go_wp2
      go_end0
      exact ⟨rfl, FIN.out⟩
    have h0z : ¬ ((hi : Int) ≤ 2 * (root : Int) + 1) := by omega
    by_cases h1 : 2 * root + 2 < hi
    · have h1z : 2 * (root : Int) + 1 + 1 < (hi : Int) := by omega
      cases hL : lt dk[first + (2 * root + 1)]! dk[first + (2 * root + 2)]! with
      | true =>
        cases hG : lt dk[first + root]! dk[first + (2 * root + 2)]! with
        | true =>
          have A1 := Lib.hid (HI.out.lessZ ((first : Int) + (2 * (root : Int) + 1)) ((first : Int) + (2 * (root : Int) + 1) + 1) wr dk (first + (2 * root + 1)) (first + (2 * root + 2)) true SK.out (by omega) (by omega) (by omega) (by omega) hL)
          have A2 := Lib.hid (fun W' (hs : S W' dk) => HI.out.lessZ ((first : Int) + (root : Int)) ((first : Int) + (2 * (root : Int) + 1 + 1)) W' dk (first + root) (first + (2 * root + 2)) true hs (by omega) (by omega) (by omega) (by omega) hG)
          have A3 := Lib.hid (fun W' (hs : S W' dk) => HI.out.swapZ ((first : Int) + (root : Int)) ((first : Int) + (2 * (root : Int) + 1 + 1)) W' dk (first + root) (first + (2 * root + 2)) hs (by omega) (by omega) (by omega) (by omega))
          go_wp2_with (first | (go_at_fn gl; refine A1.out.mono ?_; rintro e w' ⟨rfl, hs⟩; have S1 := Lib.hid hs; clear hs A1) | (go_at_fn gl; refine (A2.out _ S1.out).mono ?_; rintro e w' ⟨rfl, hs⟩; have S2 := Lib.hid hs; clear hs A2) | (go_at_fn gs; refine (A3.out _ S2.out).mono ?_; rintro e w' ⟨rfl, hs⟩; have S3 := Lib.hid hs; clear hs A3))
          go_roundw
          case rel => first | exact ⟨2 * root + 2, swp dk (first + root) (first + (2 * root + 2)), by go_num, by omega, S3.out, by rw [← HE.out, sd_right_go lt dk h1 hL hG]⟩ | exact hrel
          case measure => simp [intOf]; omega
        | false =>
          have A1 := Lib.hid (HI.out.lessZ ((first : Int) + (2 * (root : Int) + 1)) ((first : Int) + (2 * (root : Int) + 1) + 1) wr dk (first + (2 * root + 1)) (first + (2 * root + 2)) true SK.out (by omega) (by omega) (by omega) (by omega) hL)
          have A2 := Lib.hid (fun W' (hs : S W' dk) => HI.out.lessZ ((first : Int) + (root : Int)) ((first : Int) + (2 * (root : Int) + 1 + 1)) W' dk (first + root) (first + (2 * root + 2)) false hs (by omega) (by omega) (by omega) (by omega) hG)
          go_wp2_with (first | (go_at_fn gl; refine A1.out.mono ?_; rintro e w' ⟨rfl, hs⟩; have S1 := Lib.hid hs; clear hs A1) | (go_at_fn gl; refine (A2.out _ S1.out).mono ?_; rintro e w' ⟨rfl, hs⟩; have S2 := Lib.hid hs; clear hs A2))
          (try simp only [Exit.inBlock, Exit.then]); refine bodyPost_ret (results_none rfl _ _ _) rfl ?_
          refine ⟨rfl, ?_⟩
          rw [← HE.out, sd_right_stop lt dk h1 hL hG]
          exact S2.out
      | false =>
        cases hG : lt dk[first + root]! dk[first + (2 * root + 1)]! with
        | true =>
          have A1 := Lib.hid (HI.out.lessZ ((first : Int) + (2 * (root : Int) + 1)) ((first : Int) + (2 * (root : Int) + 1) + 1) wr dk (first + (2 * root + 1)) (first + (2 * root + 2)) false SK.out (by omega) (by omega) (by omega) (by omega) hL)
          have A2 := Lib.hid (fun W' (hs : S W' dk) => HI.out.lessZ ((first : Int) + (root : Int)) ((first : Int) + (2 * (root : Int) + 1)) W' dk (first + root) (first + (2 * root + 1)) true hs (by omega) (by omega) (by omega) (by omega) hG)
          have A3 := Lib.hid (fun W' (hs : S W' dk) => HI.out.swapZ ((first : Int) + (root : Int)) ((first : Int) + (2 * (root : Int) + 1)) W' dk (first + root) (first + (2 * root + 1)) hs (by omega) (by omega) (by omega) (by omega))
          go_wp2_with (first | (go_at_fn gl; refine A1.out.mono ?_; rintro e w' ⟨rfl, hs⟩; have S1 := Lib.hid hs; clear hs A1) | (go_at_fn gl; refine (A2.out _ S1.out).mono ?_; rintro e w' ⟨rfl, hs⟩; have S2 := Lib.hid hs; clear hs A2) | (go_at_fn gs; refine (A3.out _ S2.out).mono ?_; rintro e w' ⟨rfl, hs⟩; have S3 := Lib.hid hs; clear hs A3))
          go_roundw
          case rel => first | exact ⟨2 * root + 1, swp dk (first + root) (first + (2 * root + 1)), by go_num, by omega, S3.out, by rw [← HE.out, sd_left_go lt dk (by omega) (fun _ => hL) hG]⟩ | exact hrel
          case measure => simp [intOf]; omega
        | false =>
          have A1 := Lib.hid (HI.out.lessZ ((first : Int) + (2 * (root : Int) + 1)) ((first : Int) + (2 * (root : Int) + 1) + 1) wr dk (first + (2 * root + 1)) (first + (2 * root + 2)) false SK.out (by omega) (by omega) (by omega) (by omega) hL)
          have A2 := Lib.hid (fun W' (hs : S W' dk) => HI.out.lessZ ((first : Int) + (root : Int)) ((first : Int) + (2 * (root : Int) + 1)) W' dk (first + root) (first + (2 * root + 1)) false hs (by omega) (by omega) (by omega) (by omega) hG)
          go_wp2_with (first | (go_at_fn gl; refine A1.out.mono ?_; rintro e w' ⟨rfl, hs⟩; have S1 := Lib.hid hs; clear hs A1) | (go_at_fn gl; refine (A2.out _ S1.out).mono ?_; rintro e w' ⟨rfl, hs⟩; have S2 := Lib.hid hs; clear hs A2))
          (try simp only [Exit.inBlock, Exit.then]); refine bodyPost_ret (results_none rfl _ _ _) rfl ?_
          refine ⟨rfl, ?_⟩
          rw [← HE.out, sd_left_stop lt dk (by omega) (fun _ => hL) hG]
          exact S2.out
    · have h1z : ¬ (2 * (root : Int) + 1 + 1 < (hi : Int)) := by omega
      cases hG : lt dk[first + root]! dk[first + (2 * root + 1)]! with
      | true =>
        have A2 := Lib.hid (fun W' (hs : S W' dk) => HI.out.lessZ ((first : Int) + (root : Int)) ((first : Int) + (2 * (root : Int) + 1)) W' dk (first + root) (first + (2 * root + 1)) true hs (by omega) (by omega) (by omega) (by omega) hG)
        have A3 := Lib.hid (fun W' (hs : S W' dk) => HI.out.swapZ ((first : Int) + (root : Int)) ((first : Int) + (2 * (root : Int) + 1)) W' dk (first + root) (first + (2 * root + 1)) hs (by omega) (by omega) (by omega) (by omega))
        go_wp2_with (first | (go_at_fn gl; refine (A2.out _ SK.out).mono ?_; rintro e w' ⟨rfl, hs⟩; have S2 := Lib.hid hs; clear hs A2) | (go_at_fn gs; refine (A3.out _ S2.out).mono ?_; rintro e w' ⟨rfl, hs⟩; have S3 := Lib.hid hs; clear hs A3))
        go_roundw
        case rel => first | exact ⟨2 * root + 1, swp dk (first + root) (first + (2 * root + 1)), by go_num, by omega, S3.out, by rw [← HE.out, sd_left_go lt dk (by omega) (fun h => absurd h h1) hG]⟩ | exact hrel
        case measure => simp [intOf]; omega
      | false =>
        have A2 := Lib.hid (fun W' (hs : S W' dk) => HI.out.lessZ ((first : Int) + (root : Int)) ((first : Int) + (2 * (root : Int) + 1)) W' dk (first + root) (first + (2 * root + 1)) false hs (by omega) (by omega) (by omega) (by omega) hG)
        go_wp2_with (first | (go_at_fn gl; refine (A2.out _ SK.out).mono ?_; rintro e w' ⟨rfl, hs⟩; have S2 := Lib.hid hs; clear hs A2))
        (try simp only [Exit.inBlock, Exit.then]); refine bodyPost_ret (results_none rfl _ _ _) rfl ?_
        refine ⟨rfl, ?_⟩
        rw [← HE.out, sd_left_stop lt dk (by omega) (fun h => absurd h h1) hG]
        exact S2.out
end
end Go.Proofs.Ytfcpjckecjjmjaa.SoD
