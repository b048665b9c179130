/- FnTryToGetImportedEnumValueMatchesLastKeyAtEnumRoot: for every input the law returns true (the card: what the listed variables hold is tied to the text). This text is the frame round the walk, printed by gen2.py. -/
import Derived.Test.YtnjjenellkpkaaaDoorRows
import Derived.Test.YtnjjenellkpkaaaDoorCards
import Derived.Test.YtnjjenellkpkaaaDoorTie
import Derived.Test.YtnjjenellkpkaaaDoorTeL
import Derived.Test.YtnjjenellkpkaaaDoorArgs
import Derived.Test.YtnjjenellkpkaaaDoorVars
import Derived.WalkKit
import Derived.ProofKit
import Derived.OpenShut
import Derived.ShutString
import Derived.ChangeOld
import Derived.Below
import Derived.LaidMore
import Derived.Stop.Joined
import Derived.SevenTiedAt
import Derived.Lay
namespace Go.Proofs.YtnjjenellkpkaaaDoor.fnTryToGetImportedEnumValueMatchesLastKeyAtEnumRoot
open Go.ChangeShapes Go.WideShapes Go.ChangeAt Go.RowKit
open Go.ChangeMaps (open_string shut_string)
set_option linter.unusedVariables false

theorem own : ownKnob Tryd.prog.godebug = none := by kernel_rfl
theorem laidOut : laidOutB Tryd.prog = true := by kernel_rfl

set_option maxRecDepth 100000 in
theorem lifted (os : Os) (started : os.Started) (H : Type) (enc : TypeId × Value → H) :
    ReturnsInHanded {} Tryd.checked os 3 .any (fun w args => (Rows.fnTryToGetImportedEnumValueMatchesLastKeyAtEnumRootSpec.pre enc Tryd.prog Tryd.f3 [] false w args ∧ laidMetH Tryd.prog Rows.fnTryToGetImportedEnumValueMatchesLastKeyAtEnumRootRow.laid w) ∧ sizedMet enc Tryd.prog Tryd.f3 (OpenSpec.ofChange Rows.fnTryToGetImportedEnumValueMatchesLastKeyAtEnumRootSpec) false w args) (Rows.fnTryToGetImportedEnumValueMatchesLastKeyAtEnumRootSpec.post enc Tryd.prog Tryd.f3 false true false false) := by
  refine returnsInHanded_of_change_and (C := Tryd.checked) (X := fun w _ => laidMetH Tryd.prog Rows.fnTryToGetImportedEnumValueMatchesLastKeyAtEnumRootRow.laid w) (fun _ _ _ hh h => h.of_heap hh) own started (by kernel_rfl) Tryd.func3
    (ChangeSpec.witness_shaped (enc := enc) (C := Tryd.checked) (os := os) (X := fun w _ => laidMetH Tryd.prog Rows.fnTryToGetImportedEnumValueMatchesLastKeyAtEnumRootRow.laid w) false (World.laidAll Tryd.prog os Rows.fnTryToGetImportedEnumValueMatchesLastKeyAtEnumRootRow.laid) #[.slice none 0 0, .slice none 0 0, .int .i32 0, .slice none 0 0, .slice none 0 0, .slice none 0 0, .bool false, .int .u32 0, .string ByteArray.empty] 8 (World.laidAll_os _ _ _) (World.shaped_of_ZipB (by kernel_rfl) (by kernel_rfl)) (by kernel_rfl) (by kernel_rfl) (by kernel_rfl) (by rw [MakeChecks.laidMetH_plain _ _ _ (by kernel_rfl)]; exact laidMet_laidAll _ (by kernel_rfl) (by kernel_rfl))) ?_
  intro W base args ds gs before hval0 hW _ _ hL _
  have hval : ∀ (j : Nat) t v, Tryd.f3.params[j]? = some t → args[j]? = some v → Value.okWide Tryd.prog W .any base t v := hval0
  have hW' := hW
  obtain ⟨p, q, hA0, hV, rfl, hfz, hnd⟩ := hW
  have hA : DataW.TrodAll enc Tryd.prog W 0 (fun _ => true) true Tryd.f3.params.toList args.toList ds p := hA0
  rw [Tryd.params3] at hA hval
  obtain ⟨v0, vs0, d0, ds0, p0, q0, hargs, rfl, rfl, h0, r0⟩ := trodAll_cons hA
  obtain ⟨v1, vs1, d1, ds1, p1, q1, rfl, rfl, rfl, h1, r1⟩ := trodAll_cons r0
  obtain ⟨v2, vs2, d2, ds2, p2, q2, rfl, rfl, rfl, h2, r2⟩ := trodAll_cons r1
  obtain ⟨v3, vs3, d3, ds3, p3, q3, rfl, rfl, rfl, h3, r3⟩ := trodAll_cons r2
  obtain ⟨v4, vs4, d4, ds4, p4, q4, rfl, rfl, rfl, h4, r4⟩ := trodAll_cons r3
  obtain ⟨v5, vs5, d5, ds5, p5, q5, rfl, rfl, rfl, h5, r5⟩ := trodAll_cons r4
  obtain ⟨v6, vs6, d6, ds6, p6, q6, rfl, rfl, rfl, h6, r6⟩ := trodAll_cons r5
  obtain ⟨v7, vs7, d7, ds7, p7, q7, rfl, rfl, rfl, h7, r7⟩ := trodAll_cons r6
  obtain ⟨v8, vs8, d8, ds8, p8, q8, rfl, rfl, rfl, h8, r8⟩ := trodAll_cons r7
  obtain ⟨rfl, rfl, rfl⟩ := trodAll_nil r8
  obtain rfl : args = #[v0, v1, v2, v3, v4, v5, v6, v7, v8] := by cases args; simp_all
  obtain ⟨gv, gt, gcs, gfuel, gd, gp, rfl, _⟩ := trodVars_one hV
  have k0 := h0
  have lt0 : ∀ x ∈ p0, x.block < W.heap.size := by obtain ⟨m, hm⟩ := k0; exact DataW.trod_lt m _ _ _ hm
  obtain ⟨A0, n0, c0, z0, rfl, w0⟩ := Args.open_ints_args Tryd.underlying22 Tryd.underlying5 (by kernel_rfl) (hval 0 22 v0 rfl rfl) h0
  have k1 := h1
  have lt1 : ∀ x ∈ p1, x.block < W.heap.size := by obtain ⟨m, hm⟩ := k1; exact DataW.trod_lt m _ _ _ hm
  obtain ⟨A1, n1, c1, z1, rfl, w1⟩ := Args.open_ints_args Tryd.underlying23 Tryd.underlying21 (by kernel_rfl) (hval 1 23 v1 rfl rfl) h1
  have k2 := h2
  have lt2 : ∀ x ∈ p2, x.block < W.heap.size := by obtain ⟨m, hm⟩ := k2; exact DataW.trod_lt m _ _ _ hm
  obtain ⟨a2, rfl, e2, f2, w2⟩ := open_int Tryd.underlying21 (hval 2 21 v2 rfl rfl) h2
  have k3 := h3
  have lt3 : ∀ x ∈ p3, x.block < W.heap.size := by obtain ⟨m, hm⟩ := k3; exact DataW.trod_lt m _ _ _ hm
  obtain ⟨A3, n3, c3, z3, rfl, w3⟩ := Args.open_strs_args Tryd.underlying24 Tryd.underlying9 (by kernel_rfl) (hval 3 24 v3 rfl rfl) h3
  have k4 := h4
  have lt4 : ∀ x ∈ p4, x.block < W.heap.size := by obtain ⟨m, hm⟩ := k4; exact DataW.trod_lt m _ _ _ hm
  obtain ⟨A4, n4, c4, z4, rfl, w4⟩ := Argw.open_floats_args Tryd.underlying25 Tryd.underlying44 (by kernel_rfl) (hval 4 25 v4 rfl rfl) h4
  have k5 := h5
  have lt5 : ∀ x ∈ p5, x.block < W.heap.size := by obtain ⟨m, hm⟩ := k5; exact DataW.trod_lt m _ _ _ hm
  obtain ⟨A5, n5, c5, Y5, L5, C5, Z5, rfl, w5⟩ := Argw.open_rows_args Tryd.underlying26 Tryd.underlying43 Tryd.underlying61 (by kernel_rfl) (by kernel_rfl) (hval 5 26 v5 rfl rfl) h5
  have k6 := h6
  have lt6 : ∀ x ∈ p6, x.block < W.heap.size := by obtain ⟨m, hm⟩ := k6; exact DataW.trod_lt m _ _ _ hm
  obtain ⟨a6, rfl, e6, f6⟩ := open_bool Tryd.underlying4 (hval 6 4 v6 rfl rfl) h6
  have k7 := h7
  have lt7 : ∀ x ∈ p7, x.block < W.heap.size := by obtain ⟨m, hm⟩ := k7; exact DataW.trod_lt m _ _ _ hm
  obtain ⟨a7, rfl, e7, f7, w7⟩ := open_int Tryd.underlying27 (hval 7 27 v7 rfl rfl) h7
  have k8 := h8
  have lt8 : ∀ x ∈ p8, x.block < W.heap.size := by obtain ⟨m, hm⟩ := k8; exact DataW.trod_lt m _ _ _ hm
  obtain ⟨a8, rfl, e8, f8, w8⟩ := open_string Tryd.underlying9 (hval 8 9 v8 rfl rfl) h8
  clear hA0 hval0
  refine (TeL.law A0 n0 c0 z0 A1 n1 c1 z1 a2 A3 n3 c3 z3 A4 n4 c4 z4 A5 n5 c5 Y5 L5 C5 Z5 a6 a7 a8 W w0 w1 w2 w3 w4 w5 w7 w8 (TeL.of_laid hL)).mono fun e W' ⟨he, bel⟩ => ?_
  subst he
  exact ⟨_, rfl, _, _, _, [], _, _, hW', trodAll_mk1 (shut_bool Tryd.underlying4 _), (trodAll_cons_mk (Below.trod laidOut (by kernel_rfl) (of_decide_eq_true (by kernel_rfl)) k0 bel lt0) (trodAll_cons_mk (Below.trod laidOut (by kernel_rfl) (of_decide_eq_true (by kernel_rfl)) k1 bel lt1) (trodAll_cons_mk (Below.trod laidOut (by kernel_rfl) (of_decide_eq_true (by kernel_rfl)) k2 bel lt2) (trodAll_cons_mk (Below.trod laidOut (by kernel_rfl) (of_decide_eq_true (by kernel_rfl)) k3 bel lt3) (trodAll_cons_mk (Below.trod laidOut (by kernel_rfl) (of_decide_eq_true (by kernel_rfl)) k4 bel lt4) (trodAll_cons_mk (Below.trod laidOut (by kernel_rfl) (of_decide_eq_true (by kernel_rfl)) k5 bel lt5) (trodAll_cons_mk (Below.trod laidOut (by kernel_rfl) (of_decide_eq_true (by kernel_rfl)) k6 bel lt6) (trodAll_cons_mk (Below.trod laidOut (by kernel_rfl) (of_decide_eq_true (by kernel_rfl)) k7 bel lt7) (trodAll_cons_mk (Below.trod laidOut (by kernel_rfl) (of_decide_eq_true (by kernel_rfl)) k8 bel lt8) trodAll_mk0))))))))), Vars.below_vars laidOut (by kernel_rfl) hV bel, bel.frame _, fun h => by cases h⟩

theorem over : Rows.fnTryToGetImportedEnumValueMatchesLastKeyAtEnumRootRow.holds Tryd.pinned (OpenSpec.ofChange Rows.fnTryToGetImportedEnumValueMatchesLastKeyAtEnumRootSpec) :=
  OpenClaim.holds_of_wide 3 Tryd.f3 rfl rfl rfl rfl rfl rfl rfl ⟨rfl, rfl, rfl, rfl, rfl⟩ rfl rfl rfl rfl rfl (by kernel_rfl) Tryd.func3 (by kernel_rfl)
    (of_decide_eq_true (by kernel_rfl)) (by unfold Func.isWrapper; first | (rw [if_pos (by decide +kernel)]; kernel_rfl) | (rw [if_neg (by decide +kernel)]; exact ⟨rfl, rfl⟩))
    (fun os started H enc _ => lifted os started H enc)

/-- The statement. -/
theorem proved : Rows.FnTryToGetImportedEnumValueMatchesLastKeyAtEnumRootCardSaid :=
  Claim7.holds_tied_plain_at .later [] [.data] true (true, "059ba6a038d226628a3f382af72ceef36099e71613b910cff68e071728d6671e") true
    over (fun _ h => by cases h) (by kernel_rfl) (fun _ h => by cases h) fnTryToGetImportedEnumValueMatchesLastKeyAtEnumRoot_row_tie rfl ⟨rfl, rfl⟩ (by kernel_rfl) rfl
    (fun f fn hf hfn => by
      obtain rfl : f = 3 := Option.some.inj ((show Tryd.prog.funcNamed "github.com/evanw/esbuild/n011_301.FnTryToGetImportedEnumValueMatchesLastKeyAtEnumRoot" = some 3 by kernel_rfl).symm.trans hf) |>.symm
      obtain rfl : fn = Tryd.f3 := (Option.some.inj (Tryd.func3.symm.trans hfn)).symm
      exact ⟨by kernel_rfl, fun j t ht => by
        rw [Tryd.params3] at ht
        have hm : t ∈ [22, 23, 21, 24, 25, 26, 4, 27, 9] := by simpa using Array.mem_of_getElem? ht
        have hall : ([22, 23, 21, 24, 25, 26, 4, 27, 9].all fun u => !Tryd.prog.wantsStandIn u) = true := by kernel_rfl
        exact (show Tryd.prog.wantsStandIn t = false by simpa using List.all_eq_true.1 hall t hm)⟩)
    (by kernel_rfl)
#print axioms proved
end Go.Proofs.YtnjjenellkpkaaaDoor.fnTryToGetImportedEnumValueMatchesLastKeyAtEnumRoot
