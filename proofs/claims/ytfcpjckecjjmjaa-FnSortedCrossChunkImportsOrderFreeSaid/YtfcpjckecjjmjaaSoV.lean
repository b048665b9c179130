/- FnSortedCrossChunkImportsOrderFree: choosePivot over any state. -/
import Derived.Test.YtfcpjckecjjmjaaSoO
import Derived.Shelf.GgSortFunc.Pivot
import Derived.WalkKit
import Derived.ProofKit
import Derived.OpenShut
import Derived.Below
import Derived.WalkLawsBesides
import Derived.Lib.Hide
import Derived.Outline
import Derived.RegionTactic
import Derived.Deep.QuietTactic
import Derived.BigQuiet
import Derived.WalkSpells
import Derived.Deep.OwnRows
import Derived.IntWalk
import Derived.Deep.DeepMust
namespace Go.Proofs.Ytfcpjckecjjmjaa.SoV
open Go.RowKit Go.Sort Go.Shelf Go.Lib SoA SoO
set_option linter.unusedVariables false
section
variable {P : Program} {ρ : Ren} {α : Type} [Inhabited α] {T : TypeId} {rv : Value} {gl gs : Nat} {lt : α → α → Bool} {n base : Nat} {S : World → Array α → Prop}
theorem pivQ (L : LaysGt.n36 P ρ) (I : Ifc P T rv gl gs lt n base S) (hn : n ≤ 1048576) (W : World) (d : Array α) (hS : S W d) :
    ∃ Q : Nat → World → Prop, Q 0 (W.alloc (.cells #[.int .i64 0] (ρ.t 3))) ∧ (∀ s W', Q s W' → W'.cell? ⟨W.heap.size, 0, none⟩ = some (.int .i64 (s : Int))) ∧ (∀ s W', Q s W' → S W' d) ∧
      (∀ (x s : Nat) W', 1 ≤ x → x + 1 < n → s + 3 < 4611686018427387904 → Q s W' → Calls P (ρ.f 46) #[.iface T rv, .int .i64 x, .pointer (some ⟨W.heap.size, 0, none⟩)] W' fun e w' => e = .returned (.int .i64 (medianAdjacent lt d x s).1) ∧ Q (medianAdjacent lt d x s).2 w') ∧
      (∀ (x y z s : Nat) W', x < n → y < n → z < n → s + 3 < 4611686018427387904 → Q s W' → Calls P (ρ.f 47) #[.iface T rv, .int .i64 x, .int .i64 y, .int .i64 z, .pointer (some ⟨W.heap.size, 0, none⟩)] W' fun e w' => e = .returned (.int .i64 (median lt d x y z s).1) ∧ Q (median lt d x y z s).2 w') := by
  have hb := I.has _ _ hS
  refine ⟨fun s W' => S W' d ∧ Ct W.heap.size s W', ⟨I.later _ _ _ hS ((Below.refl base W).alloc hb _), ?_, ?_⟩, fun s W' h => h.2.1, fun s W' h => h.1, fun x s W' h1 h2 hs hq => ?_, fun x y z s W' hx hy hz hs hq => ?_⟩
  · rw [World.cell?_alloc_at _ _ _ _ rfl]; rfl
  · exact World.frozen?_alloc_at _ _ _ _ rfl
  · exact (adj46 (P := P) (ρ := ρ) { L with } I hn W' d x W.heap.size s hq.1 h1 h2 hb hq.2 hs)
  · exact (med47 (P := P) (ρ := ρ) { L with } I hn W' d x y z W.heap.size s hq.1 hx hy hz hb hq.2 hs)
set_option maxRecDepth 100000 in
set_option maxHeartbeats 4000000 in
theorem piv36 (L : LaysGt.n36 P ρ) (I : Ifc P T rv gl gs lt n base S) (hn : n ≤ 1048576) (W : World) (d : Array α) (a b : Nat) (hS : S W d) (hab : a < b) (hb : b ≤ n) :
    Calls P (ρ.f 36) #[.iface T rv, .int .i64 a, .int .i64 b] W fun e w' => e = .returned (.tuple #[.int .i64 (choosePivot lt d a b).1, .int .i64 (hintCode (choosePivot lt d a b).2)]) ∧ S w' d := by
  obtain ⟨Q, hQ0, QC, QS, MA, MD⟩ := pivQ L I hn W d hS
  obtain ⟨W0, hW0⟩ : ∃ W0 : World, W.alloc (.cells #[.int .i64 0] (ρ.t 3)) = W0 := ⟨_, rfl⟩
  rw [hW0] at hQ0
  have cc0 := QC _ _ hQ0
  clear hS I
  have mixed := L.mixed; have t0 := L.t0; have a0 := L.a0; have z0 := L.z0; have v0 := L.v0; have t3 := L.t3; have a3 := L.a3; have z3 := L.z3; have v3 := L.v3; have t4 := L.t4; have a4 := L.a4; have z4 := L.z4; have v4 := L.v4; have t26 := L.t26; have a26 := L.a26; have z26 := L.z26; have v26 := L.v26; have t38 := L.t38; have a38 := L.a38; have z38 := L.z38; have v38 := L.v38; have t43 := L.t43; have a43 := L.a43; have z43 := L.z43; have v43 := L.v43; have t45 := L.t45; have a45 := L.a45; have z45 := L.z45; have v45 := L.v45; have t60 := L.t60; have a60 := L.a60; have z60 := L.z60; have v60 := L.v60; have t71 := L.t71; have a71 := L.a71; have z71 := L.z71; have v71 := L.v71; have t74 := L.t74; have a74 := L.a74; have z74 := L.z74; have v74 := L.v74
  have e46 : ∀ args w, (callFunc (ρ.f 46) args).run P w = .ok (.enter (ρ.f 46) args) w := enters_of L.f46 (by kernel_rfl) rfl
  have e47 : ∀ args w, (callFunc (ρ.f 47) args).run P w = .ok (.enter (ρ.f 47) args) w := enters_of L.f47 (by kernel_rfl) rfl
  rw [choosePivot_eq]
  obtain ⟨I, hI⟩ : ∃ I : Nat, I = a + (b - a) / 4 * 1 := ⟨_, rfl⟩
  obtain ⟨J, hJ⟩ : ∃ J : Nat, J = a + (b - a) / 4 * 2 := ⟨_, rfl⟩
  obtain ⟨K, hK⟩ : ∃ K : Nat, K = a + (b - a) / 4 * 3 := ⟨_, rfl⟩
  have eI : ((a : Int) + ((b : Int) - (a : Int)) / 4) = (I : Int) := by omega
  have eJ : ((a : Int) + ((b : Int) - (a : Int)) / 4 * 2) = (J : Int) := by omega
  have eK : ((a : Int) + ((b : Int) - (a : Int)) / 4 * 3) = (K : Int) := by omega
  by_cases h8 : b - a ≥ 8
  · by_cases h50 : b - a ≥ 50
    · obtain ⟨i1, s1, h1⟩ : ∃ i1 s1, medianAdjacent lt d I 0 = (i1, s1) := ⟨_, _, rfl⟩
      obtain ⟨j1, s2, h2⟩ : ∃ j1 s2, medianAdjacent lt d J s1 = (j1, s2) := ⟨_, _, rfl⟩
      obtain ⟨k1, s3, h3⟩ : ∃ k1 s3, medianAdjacent lt d K s2 = (k1, s3) := ⟨_, _, rfl⟩
      obtain ⟨p, s, h4⟩ : ∃ p s, median lt d i1 j1 k1 s3 = (p, s) := ⟨_, _, rfl⟩
      have hraw : rawPivot lt d a b = (p, s) := by simp only [rawPivot, if_pos h8, if_pos h50, ← hI, ← hJ, ← hK, h1, h2, h3, h4]
      have m1 := medianAdjacent_mem lt d I 0; rw [h1] at m1
      have m2 := medianAdjacent_mem lt d J s1; rw [h2] at m2
      have m3 := medianAdjacent_mem lt d K s2; rw [h3] at m3
      have n1 := medianAdjacent_count lt d I 0; rw [h1] at n1
      have n2 := medianAdjacent_count lt d J s1; rw [h2] at n2
      have n3 := medianAdjacent_count lt d K s2; rw [h3] at n3
      simp only [] at m1 m2 m3 n1 n2 n3
      have c1 : ∀ W', Q 0 W' → Calls P (ρ.f 46) #[.iface T rv, .int .i64 (I : Int), .pointer (some ⟨W.heap.size, 0, none⟩)] W' fun e w' => e = .returned (.int .i64 (i1 : Int)) ∧ Q s1 w' := fun W' hq => by
        have h := MA I 0 W' (by omega) (by omega) (by omega) hq; rw [h1] at h; exact h
      have c2 : ∀ W', Q s1 W' → Calls P (ρ.f 46) #[.iface T rv, .int .i64 (J : Int), .pointer (some ⟨W.heap.size, 0, none⟩)] W' fun e w' => e = .returned (.int .i64 (j1 : Int)) ∧ Q s2 w' := fun W' hq => by
        have h := MA J s1 W' (by omega) (by omega) (by omega) hq; rw [h2] at h; exact h
      have c3 : ∀ W', Q s2 W' → Calls P (ρ.f 46) #[.iface T rv, .int .i64 (K : Int), .pointer (some ⟨W.heap.size, 0, none⟩)] W' fun e w' => e = .returned (.int .i64 (k1 : Int)) ∧ Q s3 w' := fun W' hq => by
        have h := MA K s2 W' (by omega) (by omega) (by omega) hq; rw [h3] at h; exact h
      have c4 : ∀ W', Q s3 W' → Calls P (ρ.f 47) #[.iface T rv, .int .i64 (i1 : Int), .int .i64 (j1 : Int), .int .i64 (k1 : Int), .pointer (some ⟨W.heap.size, 0, none⟩)] W' fun e w' => e = .returned (.int .i64 (p : Int)) ∧ Q s w' := fun W' hq => by
        have h := MD i1 j1 k1 s3 W' (by omega) (by omega) (by omega) (by omega) hq; rw [h4] at h; exact h
      rw [hraw]
      obtain ⟨Hc, hHc⟩ : ∃ Hc : Int, Hc = hintCode (hintOf s) := ⟨_, rfl⟩
      have hh0 : s = 0 → Hc = 1 := fun h => by rw [hHc, h]; rfl
      have hh12 : s = 12 → Hc = 2 := fun h => by rw [hHc, h]; rfl
      have hhx : s ≠ 0 → s ≠ 12 → Hc = 0 := fun h1 h2 => by rw [hHc]; unfold hintOf; rw [if_neg h1, if_neg h2]; rfl
      show Calls P (ρ.f 36) _ W fun e w' => e = .returned (.tuple #[.int .i64 (p : Int), .int .i64 (hintCode (hintOf s))]) ∧ S w' d
      rw [← hHc]
      clear hHc hraw
      clear h1 h2 h3 h4 MA MD hI hJ hK m1 m2 m3
      go_enter L.f36, BodyGt.n36_ntmps ρ
      go_wp2_with (first
        | (go_at_fn_of (ρ.f 46) (Value.int .i64 (I : Int)); refine (c1 _ hQ0).mono ?_; rintro e w' ⟨rfl, q1⟩)
        | (go_at_fn_of (ρ.f 46) (Value.int .i64 (J : Int)); refine (c2 _ q1).mono ?_; rintro e w' ⟨rfl, q2⟩)
        | (go_at_fn_of (ρ.f 46) (Value.int .i64 (K : Int)); refine (c3 _ q2).mono ?_; rintro e w' ⟨rfl, q3⟩)
        | (go_at_fn (ρ.f 47); refine (c4 _ q3).mono ?_; rintro e w' ⟨rfl, q4⟩; have cc4 := QC _ _ q4))
      all_goals
        go_ret2
        refine ⟨?_, QS _ _ q4⟩
        first
          | (have e0 : (s : Int) = 0 := of_beq_int (by assumption)
             rw [hh0 (by omega)]; rfl)
          | (have e1 : (s : Int) = 12 := of_beq_int (by assumption)
             rw [hh12 (by omega)]; rfl)
          | (have e0 : (s : Int) ≠ 0 := of_bne_int (by assumption)
             have e1 : (s : Int) ≠ 12 := of_bne_int (by assumption)
             rw [hhx (by omega) (by omega)]; rfl)
          | (rw [hh0 (by omega)]; rfl)
    · obtain ⟨p, s, h4⟩ : ∃ p s, median lt d I J K 0 = (p, s) := ⟨_, _, rfl⟩
      have hraw : rawPivot lt d a b = (p, s) := by simp only [rawPivot, if_pos h8, if_neg h50, ← hI, ← hJ, ← hK, h4]
      have c4 : ∀ W', Q 0 W' → Calls P (ρ.f 47) #[.iface T rv, .int .i64 (I : Int), .int .i64 (J : Int), .int .i64 (K : Int), .pointer (some ⟨W.heap.size, 0, none⟩)] W' fun e w' => e = .returned (.int .i64 (p : Int)) ∧ Q s w' := fun W' hq => by
        have h := MD I J K 0 W' (by omega) (by omega) (by omega) (by omega) hq; rw [h4] at h; exact h
      rw [hraw]
      obtain ⟨Hc, hHc⟩ : ∃ Hc : Int, Hc = hintCode (hintOf s) := ⟨_, rfl⟩
      have hh0 : s = 0 → Hc = 1 := fun h => by rw [hHc, h]; rfl
      have hh12 : s = 12 → Hc = 2 := fun h => by rw [hHc, h]; rfl
      have hhx : s ≠ 0 → s ≠ 12 → Hc = 0 := fun h1 h2 => by rw [hHc]; unfold hintOf; rw [if_neg h1, if_neg h2]; rfl
      show Calls P (ρ.f 36) _ W fun e w' => e = .returned (.tuple #[.int .i64 (p : Int), .int .i64 (hintCode (hintOf s))]) ∧ S w' d
      rw [← hHc]
      clear hHc hraw
      clear h4 MA MD hI hJ hK
      go_enter L.f36, BodyGt.n36_ntmps ρ
      go_wp2_with (first | (go_at_fn (ρ.f 47); refine (c4 _ hQ0).mono ?_; rintro e w' ⟨rfl, q4⟩; have cc4 := QC _ _ q4))
      all_goals
        go_ret2
        refine ⟨?_, QS _ _ q4⟩
        first
          | (have e0 : (s : Int) = 0 := of_beq_int (by assumption)
             rw [hh0 (by omega)]; rfl)
          | (have e1 : (s : Int) = 12 := of_beq_int (by assumption)
             rw [hh12 (by omega)]; rfl)
          | (have e0 : (s : Int) ≠ 0 := of_bne_int (by assumption)
             have e1 : (s : Int) ≠ 12 := of_bne_int (by assumption)
             rw [hhx (by omega) (by omega)]; rfl)
          | (rw [hh0 (by omega)]; rfl)
  · obtain ⟨p, hp⟩ : ∃ p : Nat, p = J := ⟨_, rfl⟩
    obtain ⟨s, hs⟩ : ∃ s : Nat, s = 0 := ⟨_, rfl⟩
    have hraw : rawPivot lt d a b = (p, s) := by simp only [rawPivot, if_neg h8, ← hJ, hp, hs]
    rw [hraw]
    obtain ⟨Hc, hHc⟩ : ∃ Hc : Int, Hc = hintCode (hintOf s) := ⟨_, rfl⟩
    have hh0 : s = 0 → Hc = 1 := fun h => by rw [hHc, h]; rfl
    have hh12 : s = 12 → Hc = 2 := fun h => by rw [hHc, h]; rfl
    have hhx : s ≠ 0 → s ≠ 12 → Hc = 0 := fun h1 h2 => by rw [hHc]; unfold hintOf; rw [if_neg h1, if_neg h2]; rfl
    show Calls P (ρ.f 36) _ W fun e w' => e = .returned (.tuple #[.int .i64 (p : Int), .int .i64 (hintCode (hintOf s))]) ∧ S w' d
    rw [← hHc]
    clear hHc hraw
    subst hp
    clear MA MD hI hJ hK
    rw [← hs] at hQ0
    have cc4 := QC _ _ hQ0
    clear cc0
    go_enter L.f36, BodyGt.n36_ntmps ρ
    go_wp2
    all_goals
      go_ret2
      refine ⟨?_, QS _ _ hQ0⟩
      first
        | (have e0 : (s : Int) = 0 := of_beq_int (by assumption)
           rw [hh0 (by omega)]; rfl)
        | (have e1 : (s : Int) = 12 := of_beq_int (by assumption)
           rw [hh12 (by omega)]; rfl)
        | (have e0 : (s : Int) ≠ 0 := of_bne_int (by assumption)
           have e1 : (s : Int) ≠ 12 := of_bne_int (by assumption)
           rw [hhx (by omega) (by omega)]; rfl)
        | (rw [hh0 (by omega)]; rfl)
end
end Go.Proofs.Ytfcpjckecjjmjaa.SoV
