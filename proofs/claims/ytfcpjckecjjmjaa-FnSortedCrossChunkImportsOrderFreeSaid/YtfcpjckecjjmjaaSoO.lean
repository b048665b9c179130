/- FnSortedCrossChunkImportsOrderFree: order2, median, medianAdjacent over any state. -/
import Derived.Test.YtfcpjckecjjmjaaSoA
import Derived.Shelf.GgSortFunc.Pivot
import Derived.WalkKit
import Derived.ProofKit
import Derived.OpenShut
import Derived.Below
import Derived.WalkLawsBesides
import Derived.Lib.Hide
import Derived.Outline
import Derived.RegionTactic
import Derived.Deep.QuietTactic
import Derived.BigQuiet
import Derived.WalkSpells
import Derived.Deep.OwnRows
import Derived.IntWalk
import Derived.Deep.DeepMust
namespace Go.Proofs.Ytfcpjckecjjmjaa.SoO
open Go.RowKit Go.Sort Go.Shelf Go.Lib SoA
set_option linter.unusedVariables false

/-- The counter's cell holds s. -/
def Ct (cb s : Nat) (W : World) : Prop := W.cell? ⟨cb, 0, none⟩ = some (.int .i64 (s : Int)) ∧ W.frozen? ⟨cb, 0, none⟩ = false
theorem Ct.lt {cb s : Nat} {W : World} (h : Ct cb s W) : cb < W.heap.size := by
  refine Nat.lt_of_not_le fun hle => ?_
  have := h.1
  simp only [World.cell?, Array.getElem?_eq_none hle] at this
  simp at this
theorem Ct.ab {cb s base : Nat} {W W' : World} (h : Ct cb s W) (ha : Ab base W W') (hb : base ≤ cb) : Ct cb s W' := by
  have e := ha.2 cb hb h.lt
  refine ⟨?_, ?_⟩
  · rw [World.cell?_of_block (w := W) (a := ⟨cb, 0, none⟩) e]; exact h.1
  · rw [World.frozen?_of_block (w := W) (a := ⟨cb, 0, none⟩) e]; exact h.2
theorem Ct.set {cb s : Nat} {W : World} (h : Ct cb s W) (t : Nat) (z : Int) (hz : z = (t : Int)) : Ct cb t (W.setCell ⟨cb, 0, none⟩ (.int .i64 z)) := by
  subst hz
  refine ⟨World.cell?_setCell_same _ _ _ h.1, by simpa using h.2⟩
section
variable {P : Program} {ρ : Ren} {α : Type} [Inhabited α] {T : TypeId} {rv : Value} {gl gs : Nat} {lt : α → α → Bool} {n base : Nat} {S : World → Array α → Prop}
theorem Ifc.set (I : Ifc P T rv gl gs lt n base S) {W : World} {d : Array α} (hS : S W d) {cb : Nat} (hb : base ≤ cb) (v : Value) : S (W.setCell ⟨cb, 0, none⟩ v) d :=
  I.later _ _ _ hS ((Below.refl base W).setCell (p := ⟨cb, 0, none⟩) hb v)
set_option maxRecDepth 100000 in
set_option maxHeartbeats 4000000 in
theorem ord50 (L : LaysGt.n50 P ρ) (I : Ifc P T rv gl gs lt n base S) (hn : n ≤ 1048576) (W : World) (d : Array α) (a b cb s : Nat) (hS : S W d) (ha : a < n) (hb : b < n) (hcb : base ≤ cb) (hC : Ct cb s W) (hs : s < 4611686018427387904) :
    Calls P (ρ.f 50) #[.iface T rv, .int .i64 a, .int .i64 b, .pointer (some ⟨cb, 0, none⟩)] W fun e w' =>
      e = .returned (.tuple #[.int .i64 (order2 lt d a b s).1, .int .i64 (order2 lt d a b s).2.1]) ∧ S w' d ∧ Ct cb (order2 lt d a b s).2.2 w' := by
  have HI := Lib.hid I
  have hl := I.lessA W d b a hS hb ha
  have mL := I.mL
  have eL := I.eL
  have HC := Lib.hid hC
  clear I hS hC
  have mixed := L.mixed; have t0 := L.t0; have a0 := L.a0; have z0 := L.z0; have v0 := L.v0; have t3 := L.t3; have a3 := L.a3; have z3 := L.z3; have v3 := L.v3; have t4 := L.t4; have a4 := L.a4; have z4 := L.z4; have v4 := L.v4; have t26 := L.t26; have a26 := L.a26; have z26 := L.z26; have v26 := L.v26; have t38 := L.t38; have a38 := L.a38; have z38 := L.z38; have v38 := L.v38; have t43 := L.t43; have a43 := L.a43; have z43 := L.z43; have v43 := L.v43; have t45 := L.t45; have a45 := L.a45; have z45 := L.z45; have v45 := L.v45; have t71 := L.t71; have a71 := L.a71; have z71 := L.z71; have v71 := L.v71
  go_enter L.f50, BodyGt.n50_ntmps ρ
  cases hlv : lt d[b]! d[a]! with
  | true =>
    rw [hlv] at hl
    have e2 : order2 lt d a b s = (b, a, s + 1) := by simp [order2, hlv]
    go_wp2_with (go_at_fn gl; refine hl.mono ?_; rintro e w' ⟨rfl, hs, hA⟩; have S1 := Lib.hid hs; have C1 := Lib.hid (Ct.ab HC.out hA hcb); have cs := C1.out.1; have fs := C1.out.2; clear hs hA)
    go_ret2
    rw [e2]
    exact ⟨rfl, Ifc.set HI.out S1.out hcb _, C1.out.set (s + 1) _ (by omega)⟩
  | false =>
    rw [hlv] at hl
    have e2 : order2 lt d a b s = (a, b, s) := by simp [order2, hlv]
    go_wp2_with (go_at_fn gl; refine hl.mono ?_; rintro e w' ⟨rfl, hs, hA⟩; have S1 := Lib.hid hs; have C1 := Lib.hid (Ct.ab HC.out hA hcb); clear hs hA)
    go_ret2
    rw [e2]
    exact ⟨rfl, S1.out, C1.out⟩
set_option maxRecDepth 100000 in
set_option maxHeartbeats 4000000 in
theorem med47 (L : LaysGt.n47 P ρ) (I : Ifc P T rv gl gs lt n base S) (hn : n ≤ 1048576) (W : World) (d : Array α) (a b c cb s : Nat) (hS : S W d) (ha : a < n) (hb : b < n) (hc : c < n) (hcb : base ≤ cb) (hC : Ct cb s W) (hs : s + 3 < 4611686018427387904) :
    Calls P (ρ.f 47) #[.iface T rv, .int .i64 a, .int .i64 b, .int .i64 c, .pointer (some ⟨cb, 0, none⟩)] W fun e w' =>
      e = .returned (.int .i64 (median lt d a b c s).1) ∧ S w' d ∧ Ct cb (median lt d a b c s).2 w' := by
  have l1 := order2_lt' lt d s ha hb
  have s1 := order2_swaps' lt d a b s
  have l2 := order2_lt' lt d (order2 lt d a b s).2.2 l1.2 hc
  have s2 := order2_swaps' lt d (order2 lt d a b s).2.1 c (order2 lt d a b s).2.2
  have step := fun (W' : World) (t a' b' : Nat) (ha' : a' < n) (hb' : b' < n) (ht : t < 4611686018427387904) (hS' : S W' d) (hC' : Ct cb t W') => ord50 (P := P) (ρ := ρ) { L with } I hn W' d a' b' cb t hS' ha' hb' hcb hC' ht
  have c1 := Lib.hid (step W s a b ha hb (by omega) hS hC)
  have c2 := Lib.hid (fun W' => step W' _ _ c l1.2 hc (show (order2 lt d a b s).2.2 < 4611686018427387904 by omega))
  have c3 := Lib.hid (fun W' => step W' _ _ _ l1.1 l2.1 (show (order2 lt d (order2 lt d a b s).2.1 c (order2 lt d a b s).2.2).2.2 < 4611686018427387904 by omega))
  have e50 : ∀ args w, (callFunc (ρ.f 50) args).run P w = .ok (.enter (ρ.f 50) args) w := enters_of L.f50 (by kernel_rfl) rfl
  clear I hS hC step l1 l2 s1 s2
  have mixed := L.mixed; have t0 := L.t0; have a0 := L.a0; have z0 := L.z0; have v0 := L.v0; have t3 := L.t3; have a3 := L.a3; have z3 := L.z3; have v3 := L.v3; have t4 := L.t4; have a4 := L.a4; have z4 := L.z4; have v4 := L.v4; have t26 := L.t26; have a26 := L.a26; have z26 := L.z26; have v26 := L.v26; have t38 := L.t38; have a38 := L.a38; have z38 := L.z38; have v38 := L.v38; have t43 := L.t43; have a43 := L.a43; have z43 := L.z43; have v43 := L.v43; have t45 := L.t45; have a45 := L.a45; have z45 := L.z45; have v45 := L.v45; have t71 := L.t71; have a71 := L.a71; have z71 := L.z71; have v71 := L.v71; have t74 := L.t74; have a74 := L.a74; have z74 := L.z74; have v74 := L.v74
  go_enter L.f47, BodyGt.n47_ntmps ρ
  go_wp2_with (go_at_fn_of (ρ.f 50) (Value.int .i64 (b : Int)); refine c1.out.mono ?_; rintro e w' ⟨rfl, hs1, hc1⟩; have S1 := Lib.hid hs1; have C1 := Lib.hid hc1; clear hs1 hc1)
  go_wp2_with (go_at_fn_of (ρ.f 50) (Value.int .i64 (c : Int)); refine (c2.out _ S1.out C1.out).mono ?_; rintro e w' ⟨rfl, hs1, hc1⟩; have S2 := Lib.hid hs1; have C2 := Lib.hid hc1; clear hs1 hc1)
  go_wp2_with (go_at_fn_of (ρ.f 50) (Value.int .i64 ((order2 lt d a b s).1 : Int)); refine (c3.out _ S2.out C2.out).mono ?_; rintro e w' ⟨rfl, hs1, hc1⟩; have S3 := Lib.hid hs1; have C3 := Lib.hid hc1; clear hs1 hc1)
  go_ret
  exact ⟨rfl, S3.out, C3.out⟩
set_option maxRecDepth 100000 in
set_option maxHeartbeats 4000000 in
theorem adj46 (L : LaysGt.n46 P ρ) (I : Ifc P T rv gl gs lt n base S) (hn : n ≤ 1048576) (W : World) (d : Array α) (a cb s : Nat) (hS : S W d) (ha1 : 1 ≤ a) (ha2 : a + 1 < n) (hcb : base ≤ cb) (hC : Ct cb s W) (hs : s + 3 < 4611686018427387904) :
    Calls P (ρ.f 46) #[.iface T rv, .int .i64 a, .pointer (some ⟨cb, 0, none⟩)] W fun e w' =>
      e = .returned (.int .i64 (medianAdjacent lt d a s).1) ∧ S w' d ∧ Ct cb (medianAdjacent lt d a s).2 w' := by
  have hm := med47 (P := P) (ρ := ρ) { L with } I hn W d (a - 1) a (a + 1) cb s hS (by omega) (by omega) ha2 hcb hC hs
  rw [show ((a - 1 : Nat) : Int) = (a : Int) - 1 by omega, show ((a + 1 : Nat) : Int) = (a : Int) + 1 by omega] at hm
  have e47 : ∀ args w, (callFunc (ρ.f 47) args).run P w = .ok (.enter (ρ.f 47) args) w := enters_of L.f47 (by kernel_rfl) rfl
  clear I hS hC
  have mixed := L.mixed; have t0 := L.t0; have a0 := L.a0; have z0 := L.z0; have v0 := L.v0; have t3 := L.t3; have a3 := L.a3; have z3 := L.z3; have v3 := L.v3; have t4 := L.t4; have a4 := L.a4; have z4 := L.z4; have v4 := L.v4; have t26 := L.t26; have a26 := L.a26; have z26 := L.z26; have v26 := L.v26; have t38 := L.t38; have a38 := L.a38; have z38 := L.z38; have v38 := L.v38; have t43 := L.t43; have a43 := L.a43; have z43 := L.z43; have v43 := L.v43; have t45 := L.t45; have a45 := L.a45; have z45 := L.z45; have v45 := L.v45; have t71 := L.t71; have a71 := L.a71; have z71 := L.z71; have v71 := L.v71; have t74 := L.t74; have a74 := L.a74; have z74 := L.z74; have v74 := L.v74
  go_enter L.f46, BodyGt.n46_ntmps ρ
  go_wp2_with (go_at_fn (ρ.f 47); refine hm.mono ?_; rintro e w' ⟨rfl, hs1, hc1⟩; have S1 := Lib.hid hs1; have C1 := Lib.hid hc1; clear hs1 hc1)
  go_ret
  exact ⟨rfl, S1.out, C1.out⟩
end
end Go.Proofs.Ytfcpjckecjjmjaa.SoO
