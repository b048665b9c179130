/- FnSortedCrossChunkImportsOrderFree: sort.Sort over any state. -/
import Derived.Test.YtfcpjckecjjmjaaSoM
import Derived.Shelf.GgSortMore.Bridge
import Derived.Shelf.GgSortFunc.Bridge
import Derived.Shelf.Small.Bits
import Derived.WalkKit
import Derived.ProofKit
import Derived.OpenShut
import Derived.Below
import Derived.WalkLawsBesides
import Derived.Lib.Hide
import Derived.Outline
import Derived.RegionTactic
import Derived.Deep.QuietTactic
import Derived.BigQuiet
import Derived.WalkSpells
import Derived.Deep.OwnRows
import Derived.IntWalk
import Derived.Deep.DeepMust
namespace Go.Proofs.Ytfcpjckecjjmjaa.SoS
open Go.RowKit Go.Sort Go.Shelf Go.Lib SoA SoM
set_option linter.unusedVariables false
section
variable {P : Program} {ρ : Ren} {α : Type} [Inhabited α] {T : TypeId} {rv : Value} {gl gs : Nat} {lt : α → α → Bool} {n base : Nat} {S : World → Array α → Prop}
set_option maxRecDepth 1000000 in
set_option maxHeartbeats 4000000 in
/-- sort.Sort leaves a sorted permutation. -/
theorem sort11 (L : LaysGt.n11 P ρ) (hO : SWO lt) (I : Ifc P T rv gl gs lt n base S) (hn : n ≤ 1048576) (gn : Nat)
    (mN : ∀ w, Sem.run P (method (P.types.size + 100) T rv "Len") w = .ok (gn, rv) w) (eN : ∀ args w, (callFunc gn args).run P w = .ok (.enter gn args) w) (W : World) (d : Array α) (hS : S W d)
    (hlen : Calls P gn #[rv] W fun e w' => e = .returned (.int .i64 n) ∧ S w' d) :
    Calls P (ρ.f 11) #[.iface T rv] W fun e w' => e = .returned (.tuple #[]) ∧ ∃ d', S w' d' ∧ d'.toList.Perm d.toList ∧ SortedIn lt 0 n d' := by
  have hsz := I.size _ _ hS
  by_cases h1 : n ≤ 1
  · have h1z : (n : Int) ≤ 1 := by omega
    have HL := Lib.hid hlen
    have FIN := Lib.hid (show SortedIn lt 0 n d from fun i j _ hij hj => absurd hj (by omega))
    clear I hS hlen hsz
    have mixed := L.mixed; have t0 := L.t0; have a0 := L.a0; have z0 := L.z0; have v0 := L.v0; have t3 := L.t3; have a3 := L.a3; have z3 := L.z3; have v3 := L.v3; have t4 := L.t4; have a4 := L.a4; have z4 := L.z4; have v4 := L.v4; have t5 := L.t5; have a5 := L.a5; have z5 := L.z5; have v5 := L.v5; have t9 := L.t9; have a9 := L.a9; have z9 := L.z9; have v9 := L.v9; have t26 := L.t26; have a26 := L.a26; have z26 := L.z26; have v26 := L.v26; have t38 := L.t38; have a38 := L.a38; have z38 := L.z38; have v38 := L.v38; have t43 := L.t43; have a43 := L.a43; have z43 := L.z43; have v43 := L.v43; have t45 := L.t45; have a45 := L.a45; have z45 := L.z45; have v45 := L.v45; have t47 := L.t47; have a47 := L.a47; have z47 := L.z47; have v47 := L.v47; have t56 := L.t56; have a56 := L.a56; have z56 := L.z56; have v56 := L.v56; have t58 := L.t58; have a58 := L.a58; have z58 := L.z58; have v58 := L.v58; have t60 := L.t60; have a60 := L.a60; have z60 := L.z60; have v60 := L.v60; have t61 := L.t61; have a61 := L.a61; have z61 := L.z61; have v61 := L.v61; have t65 := L.t65; have a65 := L.a65; have z65 := L.z65; have v65 := L.v65; have t67 := L.t67; have a67 := L.a67; have z67 := L.z67; have v67 := L.v67; have t71 := L.t71; have a71 := L.a71; have z71 := L.z71; have v71 := L.v71; have t73 := L.t73; have a73 := L.a73; have z73 := L.z73; have v73 := L.v73; have t74 := L.t74; have a74 := L.a74; have z74 := L.z74; have v74 := L.v74
    go_enter L.f11, BodyGt.n11_ntmps ρ
    go_wp2_with (go_at_fn gn; refine HL.out.mono ?_; rintro e w' ⟨rfl, hs⟩; have S1 := Lib.hid hs; clear hs)
    all_goals first
      | (exfalso; omega)
      | ((try simp only [Exit.inBlock, Exit.then]); refine bodyPost_ret (results_none rfl _ _ _) rfl ?_; exact ⟨rfl, d, S1.out, List.Perm.refl _, FIN.out⟩)
  · have h1z : ¬ ((n : Int) ≤ 1) := by omega
    have e17 : ∀ args w, (callFunc (ρ.f 17) args).run P w = .ok (.enter (ρ.f 17) args) w := enters_of L.f17 (by kernel_rfl) rfl
    have e18 : ∀ args w, (callFunc (ρ.f 18) args).run P w = .ok (.enter (ρ.f 18) args) w := enters_of L.f18 (by kernel_rfl) rfl
    have hb := fun w => Any.bits_Len (LaysGg.n13.bits (({ L with } : LaysGt.n17 P ρ).elder)) (n : Int) w (by omega) (by omega)
    change ∀ w, Calls P (ρ.f 17) _ w _ at hb
    have wr : IntKind.u64.wrap (n : Int) = n := by simp [IntKind.wrap, IntKind.bits, IntKind.signed]; omega
    have hlim : Lib.bitLen n ≤ 64 := Nat.le_trans (Lib.bitLen_le n 62 (by omega) (by omega)) (by omega)
    have hp := Lib.hid (fun W' (hs : S W' d) => pdq18 (P := P) (ρ := ρ) { L with } hO I hn (n + 1) 0 n (Lib.bitLen n) d W' (by omega) hs (Nat.zero_le _) (Nat.le_refl _) hlim (Or.inl rfl))
    obtain ⟨pL, sL⟩ := pdq_sorts lt hO d 0 n (Lib.bitLen n) true true (Nat.zero_le _) (by omega) (Or.inl rfl)
    have hz := pL.1
    have pp := pL.2.2
    rw [show (pdq lt d 0 n (Lib.bitLen n) true true).extract 0 n = pdq lt d 0 n (Lib.bitLen n) true true from by
      have e : n = (pdq lt d 0 n (Lib.bitLen n) true true).size := by omega
      conv => lhs; arg 3; rw [e]
      exact Array.extract_size, show d.extract 0 n = d from by
      conv => lhs; arg 3; rw [← hsz]
      exact Array.extract_size] at pp
    have HL := Lib.hid hlen
    have PP := Lib.hid pp
    have SL := Lib.hid sL
    have HB := Lib.hid hb
    clear I hS hlen hsz pL sL pp hz hb
    have mixed := L.mixed; have t0 := L.t0; have a0 := L.a0; have z0 := L.z0; have v0 := L.v0; have t3 := L.t3; have a3 := L.a3; have z3 := L.z3; have v3 := L.v3; have t4 := L.t4; have a4 := L.a4; have z4 := L.z4; have v4 := L.v4; have t5 := L.t5; have a5 := L.a5; have z5 := L.z5; have v5 := L.v5; have t9 := L.t9; have a9 := L.a9; have z9 := L.z9; have v9 := L.v9; have t26 := L.t26; have a26 := L.a26; have z26 := L.z26; have v26 := L.v26; have t38 := L.t38; have a38 := L.a38; have z38 := L.z38; have v38 := L.v38; have t43 := L.t43; have a43 := L.a43; have z43 := L.z43; have v43 := L.v43; have t45 := L.t45; have a45 := L.a45; have z45 := L.z45; have v45 := L.v45; have t47 := L.t47; have a47 := L.a47; have z47 := L.z47; have v47 := L.v47; have t56 := L.t56; have a56 := L.a56; have z56 := L.z56; have v56 := L.v56; have t58 := L.t58; have a58 := L.a58; have z58 := L.z58; have v58 := L.v58; have t60 := L.t60; have a60 := L.a60; have z60 := L.z60; have v60 := L.v60; have t61 := L.t61; have a61 := L.a61; have z61 := L.z61; have v61 := L.v61; have t65 := L.t65; have a65 := L.a65; have z65 := L.z65; have v65 := L.v65; have t67 := L.t67; have a67 := L.a67; have z67 := L.z67; have v67 := L.v67; have t71 := L.t71; have a71 := L.a71; have z71 := L.z71; have v71 := L.v71; have t73 := L.t73; have a73 := L.a73; have z73 := L.z73; have v73 := L.v73; have t74 := L.t74; have a74 := L.a74; have z74 := L.z74; have v74 := L.v74
    go_enter L.f11, BodyGt.n11_ntmps ρ
    go_wp2_with (first
      | (go_at_fn gn; refine HL.out.mono ?_; rintro e w' ⟨rfl, hs⟩; have S1 := Lib.hid hs; clear hs)
      | (go_at_fn (ρ.f 17); refine (HB.out _).mono ?_; rintro e w' ⟨rfl, rfl⟩)
      | (go_at_fn (ρ.f 18); refine (hp.out _ S1.out).mono ?_; rintro e w' ⟨rfl, hs⟩; have S2 := Lib.hid hs; clear hs))
    all_goals first
      | (exfalso; omega)
      | (go_end0; exact ⟨rfl, _, S2.out, PP.out, SL.out⟩)
end
end Go.Proofs.Ytfcpjckecjjmjaa.SoS
