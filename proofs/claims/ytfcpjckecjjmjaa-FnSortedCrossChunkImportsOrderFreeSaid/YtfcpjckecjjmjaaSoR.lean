/- FnSortedCrossChunkImportsOrderFree: reverseRange over any state. -/
import Derived.Test.YtfcpjckecjjmjaaSoA
import Derived.WalkKit
import Derived.ProofKit
import Derived.OpenShut
import Derived.Below
import Derived.WalkLawsBesides
import Derived.Lib.Hide
import Derived.Outline
import Derived.RegionTactic
import Derived.Deep.QuietTactic
import Derived.BigQuiet
import Derived.WalkSpells
import Derived.Deep.OwnRows
import Derived.IntWalk
import Derived.Deep.DeepMust
namespace Go.Proofs.Ytfcpjckecjjmjaa.SoR
open Go.RowKit Go.Sort Go.Shelf Go.Lib SoA
set_option linter.unusedVariables false
section
variable {P : Program} {ρ : Ren} {α : Type} [Inhabited α] {T : TypeId} {rv : Value} {gl gs : Nat} {lt : α → α → Bool} {n base : Nat} {S : World → Array α → Prop}
set_option maxRecDepth 100000 in
set_option maxHeartbeats 8000000 in
theorem rev37 (L : LaysGt.n37 P ρ) (I : Ifc P T rv gl gs lt n base S) (hn : n ≤ 1048576) (W : World) (d : Array α) (a b : Nat) (hS : S W d) (hab : a ≤ b) (hb : b ≤ n) :
    Calls P (ρ.f 37) #[.iface T rv, .int .i64 a, .int .i64 b] W fun e w' => e = .returned (.tuple #[]) ∧ S w' (reverseRange d a b) := by
  have HI := Lib.hid I
  have HS := Lib.hid hS
  have mS := I.mS
  have eS := I.eS
  clear I hS
  have mixed := L.mixed; have t0 := L.t0; have a0 := L.a0; have z0 := L.z0; have v0 := L.v0; have t3 := L.t3; have a3 := L.a3; have z3 := L.z3; have v3 := L.v3; have t4 := L.t4; have a4 := L.a4; have z4 := L.z4; have v4 := L.v4; have t26 := L.t26; have a26 := L.a26; have z26 := L.z26; have v26 := L.v26; have t38 := L.t38; have a38 := L.a38; have z38 := L.z38; have v38 := L.v38; have t43 := L.t43; have a43 := L.a43; have z43 := L.z43; have v43 := L.v43; have t45 := L.t45; have a45 := L.a45; have z45 := L.z45; have v45 := L.v45
  go_enter L.f37, BodyGt.n37_ntmps ρ
  go_wp2
  go_loopw [6, 7] (fun s6 s7 wr => ∃ (i jn : Nat) (jz : Int) (dk : Array α), s6 = .int .i64 i ∧ s7 = .int .i64 jz ∧ ((i : Int) < jz → jz = jn) ∧ (¬ (i : Int) < jz → ¬ i < jn) ∧ jz < (b : Int) ∧ -1 ≤ jz ∧ i ≤ n ∧ S wr dk ∧ reverseLoop i jn dk = reverseLoop a (b - 1) d) (fun s6 _ _ => n + 1 - (intOf s6).toNat)
  case atStart => exact ⟨a, b - 1, (b : Int) - 1, d, rfl, rfl, fun h => by omega, fun h => by omega, by omega, by omega, by omega, HS.out, rfl⟩
  case round =>
    obtain ⟨i, jn, jz, dk, rfl, rfl, h1, h2, h3, h4, h5, hs, he⟩ := hrel
    have SK := Lib.hid hs
    have HE := Lib.hid he
    clear hs he
    by_cases hlt : (i : Int) < jz
    · obtain rfl := h1 hlt
      have hij : i < jn := by omega
      have A3 := Lib.hid (HI.out.swapZ (i : Int) (jn : Int) wr dk i jn SK.out rfl rfl (by omega) (by omega))
      have NE := Lib.hid (show reverseLoop (i + 1) (jn - 1) (swp dk i jn) = reverseLoop a (b - 1) d from by rw [← HE.out, reverseLoop.eq_def i jn, if_pos hij])
      clear h1 h2
      go_wp2_with (go_at_fn gs; refine A3.out.mono ?_; rintro e w' ⟨rfl, hs⟩; have S3 := Lib.hid hs; clear hs A3)
      go_roundw
      case rel => first | exact ⟨i + 1, jn - 1, (jn : Int) - 1, swp dk i jn, by go_num, by go_num, fun h => by omega, fun h => by omega, by omega, by omega, by omega, S3.out, NE.out⟩ | exact hrel
      case measure => simp [intOf]; omega
    · have hnot := h2 hlt
      have FIN := Lib.hid (show S wr (reverseRange d a b) from by
        unfold reverseRange
        rw [← HE.out, reverseLoop.eq_def i jn, if_neg hnot]
        exact SK.out)
      clear h1 h2
      go_wp2
      go_end0
      exact ⟨rfl, FIN.out⟩
end
end Go.Proofs.Ytfcpjckecjjmjaa.SoR
