/- FnIterativelyValidateTLAIffSomeLiveTLA: for every input the law returns true (no condition). This text is the frame round the walk, printed by gen.py. -/
import Derived.Test.YtbcplamfejihjaaGreatRows
import Derived.Test.YtbcplamfejihjaaGreatTlL
import Derived.Test.YtbcplamfejihjaaGreatArgs
import Derived.WalkKit
import Derived.ProofKit
import Derived.OpenShut
import Derived.ShutString
import Derived.ChangeOld
import Derived.Below
namespace Go.Proofs.YtbcplamfejihjaaGreat.fnIterativelyValidateTLAIffSomeLiveTLA
open Go.ChangeShapes Go.WideShapes Go.ChangeAt Go.RowKit
open Go.ChangeMaps (open_string shut_string)
set_option linter.unusedVariables false

theorem own : ownKnob Tryz.prog.godebug = none := by kernel_rfl
theorem laidOut : laidOutB Tryz.prog = true := by kernel_rfl

set_option maxRecDepth 100000 in
theorem lifted (os : Os) (started : os.Started) (H : Type) (enc : TypeId × Value → H) :
    ReturnsInHanded {} Tryz.checked os 3 .any (Rows.fnIterativelyValidateTLAIffSomeLiveTLASpec.pre6 enc Tryz.prog Tryz.f3 Rows.fnIterativelyValidateTLAIffSomeLiveTLARow.domain false) (Rows.fnIterativelyValidateTLAIffSomeLiveTLASpec.post enc Tryz.prog Tryz.f3 false true false false) := by
  refine returnsInHanded_of_change (C := Tryz.checked) own started (by kernel_rfl) Tryz.func3
    (ChangeSpec.witness6 (enc := enc) (C := Tryz.checked) false ⟨#[], #[.slice none 0 0, .slice none 0 0, .slice none 0 0, .slice none 0 0, .slice none 0 0], []⟩ 8 (by kernel_rfl) (by kernel_rfl) (by kernel_rfl) (by kernel_rfl)) ?_
  intro W base args ds gs before hval0 hW hcnd _
  have hval : ∀ (j : Nat) t v, Tryz.f3.params[j]? = some t → args[j]? = some v → Value.okWide Tryz.prog W .any base t v := hval0
  have hW' := hW
  obtain ⟨p, q, hA0, hV, rfl, hfz, hnd⟩ := hW
  have hA : DataW.TrodAll enc Tryz.prog W 0 (fun _ => true) true Tryz.f3.params.toList args.toList ds p := hA0
  rw [Tryz.params3] at hA hval
  obtain ⟨v0, vs0, d0, ds0, p0, q0, hargs, rfl, rfl, h0, r0⟩ := trodAll_cons hA
  obtain ⟨v1, vs1, d1, ds1, p1, q1, rfl, rfl, rfl, h1, r1⟩ := trodAll_cons r0
  obtain ⟨v2, vs2, d2, ds2, p2, q2, rfl, rfl, rfl, h2, r2⟩ := trodAll_cons r1
  obtain ⟨v3, vs3, d3, ds3, p3, q3, rfl, rfl, rfl, h3, r3⟩ := trodAll_cons r2
  obtain ⟨v4, vs4, d4, ds4, p4, q4, rfl, rfl, rfl, h4, r4⟩ := trodAll_cons r3
  obtain ⟨rfl, rfl, rfl⟩ := trodAll_nil r4
  obtain rfl : args = #[v0, v1, v2, v3, v4] := by cases args; simp_all
  obtain ⟨rfl, rfl⟩ := trodVars_none hV
  have k0 := h0
  have lt0 : ∀ x ∈ p0, x.block < W.heap.size := by obtain ⟨m, hm⟩ := k0; exact DataW.trod_lt m _ _ _ hm
  obtain ⟨A0, n0, c0, z0, rfl, w0⟩ := Args.open_bools_args Tryz.underlying22 Tryz.underlying4 (by kernel_rfl) (hval 0 22 v0 rfl rfl) h0
  have k1 := h1
  have lt1 : ∀ x ∈ p1, x.block < W.heap.size := by obtain ⟨m, hm⟩ := k1; exact DataW.trod_lt m _ _ _ hm
  obtain ⟨A1, n1, c1, z1, rfl, w1⟩ := Args.open_bools_args Tryz.underlying22 Tryz.underlying4 (by kernel_rfl) (hval 1 22 v1 rfl rfl) h1
  have k2 := h2
  have lt2 : ∀ x ∈ p2, x.block < W.heap.size := by obtain ⟨m, hm⟩ := k2; exact DataW.trod_lt m _ _ _ hm
  obtain ⟨A2, n2, c2, z2, rfl, w2⟩ := Args.open_ints_args Tryz.underlying23 Tryz.underlying36 (by kernel_rfl) (hval 2 23 v2 rfl rfl) h2
  have k3 := h3
  have lt3 : ∀ x ∈ p3, x.block < W.heap.size := by obtain ⟨m, hm⟩ := k3; exact DataW.trod_lt m _ _ _ hm
  obtain ⟨A3, n3, c3, z3, rfl, w3⟩ := Args.open_ints_args Tryz.underlying23 Tryz.underlying36 (by kernel_rfl) (hval 3 23 v3 rfl rfl) h3
  have k4 := h4
  have lt4 : ∀ x ∈ p4, x.block < W.heap.size := by obtain ⟨m, hm⟩ := k4; exact DataW.trod_lt m _ _ _ hm
  obtain ⟨A4, n4, c4, z4, rfl, w4⟩ := Args.open_ints_args Tryz.underlying24 Tryz.underlying5 (by kernel_rfl) (hval 4 24 v4 rfl rfl) h4
  clear hA0 hval0
  refine (TlL.law A0 n0 c0 z0 A1 n1 c1 z1 A2 n2 c2 z2 A3 n3 c3 z3 A4 n4 c4 z4 W w0 w1 w2 w3 w4).mono fun e W' ⟨he, bel⟩ => ?_
  subst he
  exact ⟨_, rfl, _, _, _, [], _, [], hW', trodAll_mk1 (shut_bool Tryz.underlying4 _), (trodAll_cons_mk (Below.trod laidOut (by kernel_rfl) (of_decide_eq_true (by kernel_rfl)) k0 bel lt0) (trodAll_cons_mk (Below.trod laidOut (by kernel_rfl) (of_decide_eq_true (by kernel_rfl)) k1 bel lt1) (trodAll_cons_mk (Below.trod laidOut (by kernel_rfl) (of_decide_eq_true (by kernel_rfl)) k2 bel lt2) (trodAll_cons_mk (Below.trod laidOut (by kernel_rfl) (of_decide_eq_true (by kernel_rfl)) k3 bel lt3) (trodAll_cons_mk (Below.trod laidOut (by kernel_rfl) (of_decide_eq_true (by kernel_rfl)) k4 bel lt4) trodAll_mk0))))), rfl, bel.frame _, fun h => by cases h⟩

/-- The closed facts, one by one. -/
theorem joined_of {P : Program} {f : FuncId} {fn : Func} {s : ChangeSpec} {c : OpenClaim}
    (k0 : (c.wf (OpenSpec.ofChange s)) = true)
    (k1 : (laidOutB P) = true)
    (k2 : (mapsRowed P) = true)
    (k3 : (fn.params.all (P.readableRec ·)) = true)
    (k4 : (namedTie P c.named s.vars) = true)
    (k5 : ((c.stops == [])) = true)
    (k6 : ((P.stops == [])) = true)
    (k7 : ((c.knobs == [])) = true)
    (k8 : ((P.stopKnobs == [])) = true)
    (k9 : ((c.inPlace == P.inPlace f)) = true)
    (k10 : ((c.unfollowed == P.unfollowed f)) = true)
    (k11 : ((c.recurses == P.recurses f)) = true)
    (k12 : ((c.named == P.varsNamed f)) = true)
    (k13 : ((c.maps == (fn.params.toList ++ s.plain.varTypes P).any (P.mapsRec ·))) = true)
    (k14 : ((c.ifaces == (fn.params.toList ++ s.plain.varTypes P).any (P.ifacesRec ·))) = true)
    (k15 : ((c.mapsOut == P.mapsAmong fn.resultTypes.toList)) = true)
    (k16 : ((c.loops == (fn.params.toList ++ s.plain.varTypes P).any (P.loopsFrom ·))) = true)
    (k17 : ((c.wideKeys == (fn.params.toList ++ s.plain.varTypes P ++ fn.resultTypes.toList).any (P.wideKeysFrom ·))) = true)
    (k18 : (s.vars.all (P.varReadable ·)) = true)
    (k19 : (fn.resultTypes.all (fun t => P.readableRec t && decide (t < P.types.size))) = true)
    (k20 : ((c.ifacesOut == fn.resultTypes.toList.any (P.ifacesRec ·))) = true)
    (k21 : ((c.loopsOut == fn.resultTypes.toList.any (P.loopsFrom ·))) = true)
    (k22 : ((c.plainKeys == P.plainKeys)) = true)
    (k23 : (c.shortTexts.isNone) = true)
    (k24 : (P.stopsHeard) = true)
    (k25 : (P.mayEnter) = true)
    (k26 : ((c.lifted == P.liftsFinal)) = true)
    (k27 : ((P.make == some c.make)) = true)
    (k28 : ((c.kinds == (if c.domain.isEmpty then [] else fn.params.toList.map fun t => match P.underlying t with | some (.int k) => some k | _ => none))) = true)
    (k29 : ((c.pinned == c.pinnedBy)) = true)
    (k30 : ((c.veiled == (fn.params.toList ++ s.plain.varTypes P ++ fn.resultTypes.toList).any (P.veiledRec ·))) = true)
    (k31 : (c.veiledFits P fn.params.toList (fn.params.toList ++ s.plain.varTypes P ++ fn.resultTypes.toList)) = true)
    : joinedFacts P f fn s c = true := by
  unfold joinedFacts
  simp only [Bool.and_eq_true]
  exact ⟨⟨⟨⟨⟨⟨⟨⟨⟨⟨⟨⟨⟨⟨⟨⟨⟨⟨⟨⟨⟨⟨⟨⟨⟨⟨⟨⟨⟨⟨⟨k0, k1⟩, k2⟩, k3⟩, k4⟩, k5⟩, k6⟩, k7⟩, k8⟩, k9⟩, k10⟩, k11⟩, k12⟩, k13⟩, k14⟩, k15⟩, k16⟩, k17⟩, k18⟩, k19⟩, k20⟩, k21⟩, k22⟩, k23⟩, k24⟩, k25⟩, k26⟩, k27⟩, k28⟩, k29⟩, k30⟩, k31⟩
theorem k0 : (Rows.fnIterativelyValidateTLAIffSomeLiveTLARow.wf (OpenSpec.ofChange Rows.fnIterativelyValidateTLAIffSomeLiveTLASpec)) = true := by kernel_rfl
theorem k1 : (laidOutB Tryz.prog) = true := by kernel_rfl
theorem k2 : (mapsRowed Tryz.prog) = true := by kernel_rfl
theorem k3 : (Tryz.f3.params.all (Tryz.prog.readableRec ·)) = true := by kernel_rfl
theorem k4 : (namedTie Tryz.prog Rows.fnIterativelyValidateTLAIffSomeLiveTLARow.named Rows.fnIterativelyValidateTLAIffSomeLiveTLASpec.vars) = true := by kernel_rfl
theorem k5 : ((Rows.fnIterativelyValidateTLAIffSomeLiveTLARow.stops == [])) = true := by kernel_rfl
theorem k6 : ((Tryz.prog.stops == [])) = true := by kernel_rfl
theorem k7 : ((Rows.fnIterativelyValidateTLAIffSomeLiveTLARow.knobs == [])) = true := by kernel_rfl
theorem k8 : ((Tryz.prog.stopKnobs == [])) = true := by kernel_rfl
theorem k9 : ((Rows.fnIterativelyValidateTLAIffSomeLiveTLARow.inPlace == Tryz.prog.inPlace 3)) = true := by kernel_rfl
theorem k10 : ((Rows.fnIterativelyValidateTLAIffSomeLiveTLARow.unfollowed == Tryz.prog.unfollowed 3)) = true := by kernel_rfl
theorem k11 : ((Rows.fnIterativelyValidateTLAIffSomeLiveTLARow.recurses == Tryz.prog.recurses 3)) = true := by kernel_rfl
theorem k12 : ((Rows.fnIterativelyValidateTLAIffSomeLiveTLARow.named == Tryz.prog.varsNamed 3)) = true := by kernel_rfl
theorem k13 : ((Rows.fnIterativelyValidateTLAIffSomeLiveTLARow.maps == (Tryz.f3.params.toList ++ Rows.fnIterativelyValidateTLAIffSomeLiveTLASpec.plain.varTypes Tryz.prog).any (Tryz.prog.mapsRec ·))) = true := by kernel_rfl
theorem k14 : ((Rows.fnIterativelyValidateTLAIffSomeLiveTLARow.ifaces == (Tryz.f3.params.toList ++ Rows.fnIterativelyValidateTLAIffSomeLiveTLASpec.plain.varTypes Tryz.prog).any (Tryz.prog.ifacesRec ·))) = true := by kernel_rfl
theorem k15 : ((Rows.fnIterativelyValidateTLAIffSomeLiveTLARow.mapsOut == Tryz.prog.mapsAmong Tryz.f3.resultTypes.toList)) = true := by kernel_rfl
theorem k16 : ((Rows.fnIterativelyValidateTLAIffSomeLiveTLARow.loops == (Tryz.f3.params.toList ++ Rows.fnIterativelyValidateTLAIffSomeLiveTLASpec.plain.varTypes Tryz.prog).any (Tryz.prog.loopsFrom ·))) = true := by kernel_rfl
theorem k17 : ((Rows.fnIterativelyValidateTLAIffSomeLiveTLARow.wideKeys == (Tryz.f3.params.toList ++ Rows.fnIterativelyValidateTLAIffSomeLiveTLASpec.plain.varTypes Tryz.prog ++ Tryz.f3.resultTypes.toList).any (Tryz.prog.wideKeysFrom ·))) = true := by kernel_rfl
theorem k18 : (Rows.fnIterativelyValidateTLAIffSomeLiveTLASpec.vars.all (Tryz.prog.varReadable ·)) = true := by kernel_rfl
theorem k19 : (Tryz.f3.resultTypes.all (fun t => Tryz.prog.readableRec t && decide (t < Tryz.prog.types.size))) = true := by kernel_rfl
theorem k20 : ((Rows.fnIterativelyValidateTLAIffSomeLiveTLARow.ifacesOut == Tryz.f3.resultTypes.toList.any (Tryz.prog.ifacesRec ·))) = true := by kernel_rfl
theorem k21 : ((Rows.fnIterativelyValidateTLAIffSomeLiveTLARow.loopsOut == Tryz.f3.resultTypes.toList.any (Tryz.prog.loopsFrom ·))) = true := by kernel_rfl
theorem k22 : ((Rows.fnIterativelyValidateTLAIffSomeLiveTLARow.plainKeys == Tryz.prog.plainKeys)) = true := by kernel_rfl
theorem k23 : (Rows.fnIterativelyValidateTLAIffSomeLiveTLARow.shortTexts.isNone) = true := by kernel_rfl
theorem k24 : (Tryz.prog.stopsHeard) = true := by kernel_rfl
theorem k25 : (Tryz.prog.mayEnter) = true := by kernel_rfl
theorem k26 : ((Rows.fnIterativelyValidateTLAIffSomeLiveTLARow.lifted == Tryz.prog.liftsFinal)) = true := by kernel_rfl
theorem k27 : ((Tryz.prog.make == some Rows.fnIterativelyValidateTLAIffSomeLiveTLARow.make)) = true := by kernel_rfl
theorem k28 : ((Rows.fnIterativelyValidateTLAIffSomeLiveTLARow.kinds == (if Rows.fnIterativelyValidateTLAIffSomeLiveTLARow.domain.isEmpty then [] else Tryz.f3.params.toList.map fun t => match Tryz.prog.underlying t with | some (.int k) => some k | _ => none))) = true := by kernel_rfl
theorem k29 : ((Rows.fnIterativelyValidateTLAIffSomeLiveTLARow.pinned == Rows.fnIterativelyValidateTLAIffSomeLiveTLARow.pinnedBy)) = true := by kernel_rfl
theorem k30 : ((Rows.fnIterativelyValidateTLAIffSomeLiveTLARow.veiled == (Tryz.f3.params.toList ++ Rows.fnIterativelyValidateTLAIffSomeLiveTLASpec.plain.varTypes Tryz.prog ++ Tryz.f3.resultTypes.toList).any (Tryz.prog.veiledRec ·))) = true := by kernel_rfl
theorem k31 : (Rows.fnIterativelyValidateTLAIffSomeLiveTLARow.veiledFits Tryz.prog Tryz.f3.params.toList (Tryz.f3.params.toList ++ Rows.fnIterativelyValidateTLAIffSomeLiveTLASpec.plain.varTypes Tryz.prog ++ Tryz.f3.resultTypes.toList)) = true := by kernel_rfl
theorem closed : joinedFacts Tryz.prog 3 Tryz.f3 Rows.fnIterativelyValidateTLAIffSomeLiveTLASpec Rows.fnIterativelyValidateTLAIffSomeLiveTLARow = true := joined_of k0 k1 k2 k3 k4 k5 k6 k7 k8 k9 k10 k11 k12 k13 k14 k15 k16 k17 k18 k19 k20 k21 k22 k23 k24 k25 k26 k27 k28 k29 k30 k31
theorem hfn : Tryz.prog.funcNamed Rows.fnIterativelyValidateTLAIffSomeLiveTLARow.func = some 3 := by kernel_rfl
theorem hinst : Tryz.f3.isInstance Tryz.prog Rows.fnIterativelyValidateTLAIffSomeLiveTLARow.origin Rows.fnIterativelyValidateTLAIffSomeLiveTLARow.targs := of_decide_eq_true (by kernel_rfl)
theorem hwrap : Tryz.f3.isWrapper Tryz.prog Rows.fnIterativelyValidateTLAIffSomeLiveTLARow.wrapper Rows.fnIterativelyValidateTLAIffSomeLiveTLARow.mainSum := by unfold Func.isWrapper; first | (rw [if_pos (by decide +kernel)]; kernel_rfl) | (rw [if_neg (by decide +kernel)]; exact ⟨rfl, rfl⟩)
theorem over : Rows.fnIterativelyValidateTLAIffSomeLiveTLARow.holds Tryz.pinned (OpenSpec.ofChange Rows.fnIterativelyValidateTLAIffSomeLiveTLASpec) :=
  OpenClaim.holds_of_wide 3 Tryz.f3 rfl rfl rfl rfl rfl rfl rfl ⟨rfl, rfl, rfl, rfl, rfl⟩ rfl rfl rfl rfl rfl hfn Tryz.func3 closed
    hinst hwrap
    (fun os started H enc _ => lifted os started H enc)

/-- The statement. -/
theorem proved : Rows.FnIterativelyValidateTLAIffSomeLiveTLASaid := over
#print axioms proved
end Go.Proofs.YtbcplamfejihjaaGreat.fnIterativelyValidateTLAIffSomeLiveTLA
