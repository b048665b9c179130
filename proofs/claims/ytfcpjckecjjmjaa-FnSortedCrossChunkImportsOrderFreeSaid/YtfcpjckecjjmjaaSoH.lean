/- FnSortedCrossChunkImportsOrderFree: heapSort over any state. -/
import Derived.Test.YtfcpjckecjjmjaaSoD
import Derived.Sort.WalkB3
import Derived.WalkKit
import Derived.ProofKit
import Derived.OpenShut
import Derived.Below
import Derived.WalkLawsBesides
import Derived.Lib.Hide
import Derived.Outline
import Derived.RegionTactic
import Derived.Deep.QuietTactic
import Derived.BigQuiet
import Derived.WalkSpells
import Derived.Deep.OwnRows
import Derived.IntWalk
import Derived.Deep.DeepMust
namespace Go.Proofs.Ytfcpjckecjjmjaa.SoH
open Go.RowKit Go.Sort Go.Shelf Go.Lib SoA SoD
set_option linter.unusedVariables false
section
variable {P : Program} {ρ : Ren} {α : Type} [Inhabited α] {T : TypeId} {rv : Value} {gl gs : Nat} {lt : α → α → Bool} {n base : Nat} {S : World → Array α → Prop}
set_option maxRecDepth 100000 in
set_option maxHeartbeats 8000000 in
theorem heap34 (L : LaysGt.n34 P ρ) (I : Ifc P T rv gl gs lt n base S) (hn : n ≤ 1048576) (W : World) (d : Array α) (a b : Nat) (hS : S W d) (hab : a ≤ b) (hb : b ≤ n) :
    Calls P (ρ.f 34) #[.iface T rv, .int .i64 a, .int .i64 b] W fun e w' => e = .returned (.tuple #[]) ∧ S w' (heapSort lt d a b) := by
  have HI := Lib.hid I
  have HS := Lib.hid hS
  have LD := Lib.hid (show LaysGt.n43 P ρ from { L with })
  have mS := I.mS
  have eS := I.eS
  clear I hS
  have mixed := L.mixed; have t0 := L.t0; have a0 := L.a0; have z0 := L.z0; have v0 := L.v0; have t3 := L.t3; have a3 := L.a3; have z3 := L.z3; have v3 := L.v3; have t4 := L.t4; have a4 := L.a4; have z4 := L.z4; have v4 := L.v4; have t26 := L.t26; have a26 := L.a26; have z26 := L.z26; have v26 := L.v26; have t38 := L.t38; have a38 := L.a38; have z38 := L.z38; have v38 := L.v38; have t43 := L.t43; have a43 := L.a43; have z43 := L.z43; have v43 := L.v43; have t45 := L.t45; have a45 := L.a45; have z45 := L.z45; have v45 := L.v45
  have e43 : ∀ args w, (callFunc (ρ.f 43) args).run P w = .ok (.enter (ρ.f 43) args) w := enters_of L.f43 (by kernel_rfl) rfl
  have ecast : ((b - a : Nat) : Int) = (b : Int) - (a : Int) := by omega
  go_enter L.f34, BodyGt.n34_ntmps ρ
  go_wp2
  go_loopw [9] (fun s9 wr => ∃ (k : Nat) (z : Int) (dk : Array α), s9 = .int .i64 z ∧ z = (k : Int) - 1 ∧ k ≤ (b - a - 1) / 2 + 1 ∧ S wr dk ∧ heapBuild lt (b - a) a k dk = heapBuild lt (b - a) a ((b - a - 1) / 2 + 1) d) (fun s9 _ => (intOf s9 + 1).toNat)
  case atStart => exact ⟨(b - a - 1) / 2 + 1, _, d, rfl, by rw [half_start hab], Nat.le_refl _, HS.out, rfl⟩
  case round =>
    obtain ⟨k, z, dk, rfl, hz, hk, hs, he⟩ := hrel
    have SK := Lib.hid hs
    have HE := Lib.hid he
    clear hs he
    cases k with
    | zero =>
      obtain rfl : z = -1 := by omega
      clear hz hk
      have HB := Lib.hid (show dk = heapBuild lt (b - a) a ((b - a - 1) / 2 + 1) d from HE.out)
      go_wp2
      go_loopw [10] (fun s10 wr2 => ∃ (k2 : Nat) (z : Int) (dj : Array α), s10 = .int .i64 z ∧ z = (k2 : Int) - 1 ∧ k2 ≤ b - a ∧ S wr2 dj ∧ heapPop lt a k2 dj = heapPop lt a (b - a) dk) (fun s10 _ => (intOf s10 + 1).toNat)
      case atStart => exact ⟨b - a, _, dk, rfl, by rw [ecast], Nat.le_refl _, SK.out, rfl⟩
      case round =>
        obtain ⟨k2, z, dj, rfl, hz, hk2, hs, he⟩ := hrel
        have SJ := Lib.hid hs
        have HP := Lib.hid he
        clear hs he
        cases k2 with
        | zero =>
          obtain rfl : z = -1 := by omega
          clear hz
          have FIN := Lib.hid (show S wr (heapSort lt d a b) from by
            have e : dj = heapSort lt d a b := by rw [heapSort, ← HB.out, ← HP.out]; rfl
            rw [← e]; exact SJ.out)
          go_wp2
          go_end0
          exact ⟨rfl, FIN.out⟩
        | succ k3 =>
          obtain rfl : z = (k3 : Int) := by omega
          clear hz
          have A1 := Lib.hid (HI.out.swapZ (a : Int) ((a : Int) + (k3 : Int)) wr dj a (a + k3) SJ.out rfl (by omega) (by omega) (by omega))
          have A2 := Lib.hid (fun W' (hs : S W' (swp dj a (a + k3))) => sift43 LD.out HI.out hn W' _ 0 k3 a hs (Nat.zero_le _) (by omega))
          go_wp2_with (first
            | (go_at_fn gs; refine A1.out.mono ?_; rintro e w' ⟨rfl, hs⟩; have S1 := Lib.hid hs; clear hs A1)
            | (go_at_fn (ρ.f 43); refine (A2.out _ S1.out).mono ?_; rintro e w' ⟨rfl, hs⟩; have S2 := Lib.hid hs; clear hs A2))
          go_roundw
          case rel => exact ⟨k3, _, _, rfl, rfl, by omega, S2.out, HP.out⟩
          case measure => simp [intOf]
    | succ kx =>
      obtain rfl : z = (kx : Int) := by omega
      clear hz
      have hc := sift43 LD.out HI.out hn wr dk kx (b - a) a SK.out (by omega) (by omega)
      rw [ecast] at hc
      have A2 := Lib.hid hc
      clear hc
      go_wp2_with (go_at_fn (ρ.f 43); refine A2.out.mono ?_; rintro e w' ⟨rfl, hs⟩; have S2 := Lib.hid hs; clear hs A2)
      go_roundw
      case rel => exact ⟨kx, _, _, rfl, rfl, by omega, S2.out, HE.out⟩
      case measure => simp [intOf]
end
end Go.Proofs.Ytfcpjckecjjmjaa.SoH
