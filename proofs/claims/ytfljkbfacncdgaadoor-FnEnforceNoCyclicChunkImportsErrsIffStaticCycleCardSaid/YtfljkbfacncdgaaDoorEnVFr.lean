/- FnEnforceNoCyclicChunkImportsErrsIffStaticCycle: for every input the law returns true (the card: what the listed variables hold is tied to the text). This text is the frame round the walk, printed by gen2.py. -/
import Derived.Test.YtfljkbfacncdgaaDoorRows
import Derived.Test.YtfljkbfacncdgaaDoorCards
import Derived.Test.YtfljkbfacncdgaaDoorTie
import Derived.Test.YtfljkbfacncdgaaDoorEnV
import Derived.Test.YtfljkbfacncdgaaDoorArgs
import Derived.Test.YtfljkbfacncdgaaDoorVars
import Derived.WalkKit
import Derived.ProofKit
import Derived.OpenShut
import Derived.ShutString
import Derived.ChangeOld
import Derived.Below
import Derived.LaidMore
import Derived.Stop.Joined
import Derived.SevenTiedAt
import Derived.Lay
namespace Go.Proofs.YtfljkbfacncdgaaDoor.fnEnforceNoCyclicChunkImportsErrsIffStaticCycle
open Go.ChangeShapes Go.WideShapes Go.ChangeAt Go.RowKit
open Go.ChangeMaps (open_string shut_string)
set_option linter.unusedVariables false

theorem own : ownKnob Tryd.prog.godebug = none := by kernel_rfl
theorem laidOut : laidOutB Tryd.prog = true := by kernel_rfl

set_option maxRecDepth 100000 in
theorem lifted (os : Os) (started : os.Started) (H : Type) (enc : TypeId × Value → H) :
    ReturnsInHanded {} Tryd.checked os 3 .any (fun w args => (Rows.fnEnforceNoCyclicChunkImportsErrsIffStaticCycleSpec.pre enc Tryd.prog Tryd.f3 [] false w args ∧ laidMetH Tryd.prog Rows.fnEnforceNoCyclicChunkImportsErrsIffStaticCycleRow.laid w) ∧ sizedMet enc Tryd.prog Tryd.f3 (OpenSpec.ofChange Rows.fnEnforceNoCyclicChunkImportsErrsIffStaticCycleSpec) false w args) (Rows.fnEnforceNoCyclicChunkImportsErrsIffStaticCycleSpec.post enc Tryd.prog Tryd.f3 false true false false) := by
  refine returnsInHanded_of_change_and (C := Tryd.checked) (X := fun w _ => laidMetH Tryd.prog Rows.fnEnforceNoCyclicChunkImportsErrsIffStaticCycleRow.laid w) (fun _ _ _ hh h => h.of_heap hh) own started (by kernel_rfl) Tryd.func3
    (ChangeSpec.witness_shaped (enc := enc) (C := Tryd.checked) (os := os) (X := fun w _ => laidMetH Tryd.prog Rows.fnEnforceNoCyclicChunkImportsErrsIffStaticCycleRow.laid w) false (World.laidAll Tryd.prog os Rows.fnEnforceNoCyclicChunkImportsErrsIffStaticCycleRow.laid) #[.int .i64 0, .slice none 0 0, .slice none 0 0, .slice none 0 0] 8 (World.laidAll_os _ _ _) (World.shaped_of_ZipB (by kernel_rfl) (by kernel_rfl)) (by kernel_rfl) (by kernel_rfl) (by kernel_rfl) (by rw [MakeChecks.laidMetH_plain _ _ _ (by kernel_rfl)]; exact laidMet_laidAll _ (by kernel_rfl) (by kernel_rfl))) ?_
  intro W base args ds gs before hval0 hW _ _ hL _
  have hval : ∀ (j : Nat) t v, Tryd.f3.params[j]? = some t → args[j]? = some v → Value.okWide Tryd.prog W .any base t v := hval0
  have hW' := hW
  obtain ⟨p, q, hA0, hV, rfl, hfz, hnd⟩ := hW
  have hA : DataW.TrodAll enc Tryd.prog W 0 (fun _ => true) true Tryd.f3.params.toList args.toList ds p := hA0
  rw [Tryd.params3] at hA hval
  obtain ⟨v0, vs0, d0, ds0, p0, q0, hargs, rfl, rfl, h0, r0⟩ := trodAll_cons hA
  obtain ⟨v1, vs1, d1, ds1, p1, q1, rfl, rfl, rfl, h1, r1⟩ := trodAll_cons r0
  obtain ⟨v2, vs2, d2, ds2, p2, q2, rfl, rfl, rfl, h2, r2⟩ := trodAll_cons r1
  obtain ⟨v3, vs3, d3, ds3, p3, q3, rfl, rfl, rfl, h3, r3⟩ := trodAll_cons r2
  obtain ⟨rfl, rfl, rfl⟩ := trodAll_nil r3
  obtain rfl : args = #[v0, v1, v2, v3] := by cases args; simp_all
  obtain ⟨rfl, rfl⟩ := trodVars_none hV
  have k0 := h0
  have lt0 : ∀ x ∈ p0, x.block < W.heap.size := by obtain ⟨m, hm⟩ := k0; exact DataW.trod_lt m _ _ _ hm
  obtain ⟨a0, rfl, e0, f0, w0⟩ := open_int Tryd.underlying3 (hval 0 3 v0 rfl rfl) h0
  have k1 := h1
  have lt1 : ∀ x ∈ p1, x.block < W.heap.size := by obtain ⟨m, hm⟩ := k1; exact DataW.trod_lt m _ _ _ hm
  obtain ⟨A1, n1, c1, z1, rfl, w1⟩ := Args.open_ints_args Tryd.underlying22 Tryd.underlying27 (by kernel_rfl) (hval 1 22 v1 rfl rfl) h1
  have k2 := h2
  have lt2 : ∀ x ∈ p2, x.block < W.heap.size := by obtain ⟨m, hm⟩ := k2; exact DataW.trod_lt m _ _ _ hm
  obtain ⟨A2, n2, c2, z2, rfl, w2⟩ := Args.open_ints_args Tryd.underlying22 Tryd.underlying27 (by kernel_rfl) (hval 2 22 v2 rfl rfl) h2
  have k3 := h3
  have lt3 : ∀ x ∈ p3, x.block < W.heap.size := by obtain ⟨m, hm⟩ := k3; exact DataW.trod_lt m _ _ _ hm
  obtain ⟨A3, n3, c3, z3, rfl, w3⟩ := Args.open_bools_args Tryd.underlying23 Tryd.underlying4 (by kernel_rfl) (hval 3 23 v3 rfl rfl) h3
  clear hA0 hval0
  refine (EnV.law a0 A1 n1 c1 z1 A2 n2 c2 z2 A3 n3 c3 z3 W w0 w1 w2 w3 (EnV.of_laid hL)).mono fun e W' ⟨he, bel⟩ => ?_
  subst he
  exact ⟨_, rfl, _, _, _, [], _, [], hW', trodAll_mk1 (shut_bool Tryd.underlying4 _), (trodAll_cons_mk (Below.trod laidOut (by kernel_rfl) (of_decide_eq_true (by kernel_rfl)) k0 bel lt0) (trodAll_cons_mk (Below.trod laidOut (by kernel_rfl) (of_decide_eq_true (by kernel_rfl)) k1 bel lt1) (trodAll_cons_mk (Below.trod laidOut (by kernel_rfl) (of_decide_eq_true (by kernel_rfl)) k2 bel lt2) (trodAll_cons_mk (Below.trod laidOut (by kernel_rfl) (of_decide_eq_true (by kernel_rfl)) k3 bel lt3) trodAll_mk0)))), rfl, bel.frame _, fun h => by cases h⟩

/-- The closed facts, one by one. -/
theorem joined_of {P : Program} {f : FuncId} {fn : Func} {s : ChangeSpec} {c : OpenClaim}
    (k0 : (c.wf (OpenSpec.ofChange s)) = true)
    (k1 : (laidOutB P) = true)
    (k2 : (mapsRowed P) = true)
    (k3 : (fn.params.all (P.readableRec ·)) = true)
    (k4 : (namedTie P c.named s.vars) = true)
    (k5 : ((c.stops == [])) = true)
    (k6 : ((P.stops == [])) = true)
    (k7 : ((c.knobs == [])) = true)
    (k8 : ((P.stopKnobs == [])) = true)
    (k9 : ((c.inPlace == P.inPlace f)) = true)
    (k10 : ((c.unfollowed == P.unfollowed f)) = true)
    (k11 : ((c.recurses == P.recurses f)) = true)
    (k12 : ((c.named == P.varsNamed f)) = true)
    (k13 : ((c.maps == (fn.params.toList ++ s.plain.varTypes P).any (P.mapsRec ·))) = true)
    (k14 : ((c.ifaces == (fn.params.toList ++ s.plain.varTypes P).any (P.ifacesRec ·))) = true)
    (k15 : ((c.mapsOut == P.mapsAmong fn.resultTypes.toList)) = true)
    (k16 : ((c.loops == (fn.params.toList ++ s.plain.varTypes P).any (P.loopsFrom ·))) = true)
    (k17 : ((c.wideKeys == (fn.params.toList ++ s.plain.varTypes P ++ fn.resultTypes.toList).any (P.wideKeysFrom ·))) = true)
    (k18 : (s.vars.all (P.varReadable ·)) = true)
    (k19 : (fn.resultTypes.all (fun t => P.readableRec t && decide (t < P.types.size))) = true)
    (k20 : ((c.ifacesOut == fn.resultTypes.toList.any (P.ifacesRec ·))) = true)
    (k21 : ((c.loopsOut == fn.resultTypes.toList.any (P.loopsFrom ·))) = true)
    (k22 : ((c.plainKeys == P.plainKeys)) = true)
    (k23 : (c.shortTexts.isNone) = true)
    (k24 : (P.stopsHeard) = true)
    (k25 : (P.mayEnter) = true)
    (k26 : ((c.lifted == P.liftsFinal)) = true)
    (k27 : ((P.make == some c.make)) = true)
    (k28 : ((c.kinds == (if c.domain.isEmpty then [] else fn.params.toList.map fun t => match P.underlying t with | some (.int k) => some k | _ => none))) = true)
    (k29 : ((c.pinned == c.pinnedBy)) = true)
    (k30 : ((c.veiled == (fn.params.toList ++ s.plain.varTypes P ++ fn.resultTypes.toList).any (P.veiledRec ·))) = true)
    (k31 : (c.veiledFits P fn.params.toList (fn.params.toList ++ s.plain.varTypes P ++ fn.resultTypes.toList)) = true)
    : joinedFacts P f fn s c = true := by
  unfold joinedFacts
  simp only [Bool.and_eq_true]
  exact ⟨⟨⟨⟨⟨⟨⟨⟨⟨⟨⟨⟨⟨⟨⟨⟨⟨⟨⟨⟨⟨⟨⟨⟨⟨⟨⟨⟨⟨⟨⟨k0, k1⟩, k2⟩, k3⟩, k4⟩, k5⟩, k6⟩, k7⟩, k8⟩, k9⟩, k10⟩, k11⟩, k12⟩, k13⟩, k14⟩, k15⟩, k16⟩, k17⟩, k18⟩, k19⟩, k20⟩, k21⟩, k22⟩, k23⟩, k24⟩, k25⟩, k26⟩, k27⟩, k28⟩, k29⟩, k30⟩, k31⟩
theorem k0 : (Rows.fnEnforceNoCyclicChunkImportsErrsIffStaticCycleRow.wf (OpenSpec.ofChange Rows.fnEnforceNoCyclicChunkImportsErrsIffStaticCycleSpec)) = true := by kernel_rfl
theorem k1 : (laidOutB Tryd.prog) = true := by kernel_rfl
theorem k2 : (mapsRowed Tryd.prog) = true := by kernel_rfl
theorem k3 : (Tryd.f3.params.all (Tryd.prog.readableRec ·)) = true := by kernel_rfl
theorem k4 : (namedTie Tryd.prog Rows.fnEnforceNoCyclicChunkImportsErrsIffStaticCycleRow.named Rows.fnEnforceNoCyclicChunkImportsErrsIffStaticCycleSpec.vars) = true := by kernel_rfl
theorem k5 : ((Rows.fnEnforceNoCyclicChunkImportsErrsIffStaticCycleRow.stops == [])) = true := by kernel_rfl
theorem k6 : ((Tryd.prog.stops == [])) = true := by kernel_rfl
theorem k7 : ((Rows.fnEnforceNoCyclicChunkImportsErrsIffStaticCycleRow.knobs == [])) = true := by kernel_rfl
theorem k8 : ((Tryd.prog.stopKnobs == [])) = true := by kernel_rfl
theorem k9 : ((Rows.fnEnforceNoCyclicChunkImportsErrsIffStaticCycleRow.inPlace == Tryd.prog.inPlace 3)) = true := by kernel_rfl
theorem k10 : ((Rows.fnEnforceNoCyclicChunkImportsErrsIffStaticCycleRow.unfollowed == Tryd.prog.unfollowed 3)) = true := by kernel_rfl
theorem k11 : ((Rows.fnEnforceNoCyclicChunkImportsErrsIffStaticCycleRow.recurses == Tryd.prog.recurses 3)) = true := by kernel_rfl
theorem k12 : ((Rows.fnEnforceNoCyclicChunkImportsErrsIffStaticCycleRow.named == Tryd.prog.varsNamed 3)) = true := by kernel_rfl
theorem k13 : ((Rows.fnEnforceNoCyclicChunkImportsErrsIffStaticCycleRow.maps == (Tryd.f3.params.toList ++ Rows.fnEnforceNoCyclicChunkImportsErrsIffStaticCycleSpec.plain.varTypes Tryd.prog).any (Tryd.prog.mapsRec ·))) = true := by kernel_rfl
theorem k14 : ((Rows.fnEnforceNoCyclicChunkImportsErrsIffStaticCycleRow.ifaces == (Tryd.f3.params.toList ++ Rows.fnEnforceNoCyclicChunkImportsErrsIffStaticCycleSpec.plain.varTypes Tryd.prog).any (Tryd.prog.ifacesRec ·))) = true := by kernel_rfl
theorem k15 : ((Rows.fnEnforceNoCyclicChunkImportsErrsIffStaticCycleRow.mapsOut == Tryd.prog.mapsAmong Tryd.f3.resultTypes.toList)) = true := by kernel_rfl
theorem k16 : ((Rows.fnEnforceNoCyclicChunkImportsErrsIffStaticCycleRow.loops == (Tryd.f3.params.toList ++ Rows.fnEnforceNoCyclicChunkImportsErrsIffStaticCycleSpec.plain.varTypes Tryd.prog).any (Tryd.prog.loopsFrom ·))) = true := by kernel_rfl
theorem k17 : ((Rows.fnEnforceNoCyclicChunkImportsErrsIffStaticCycleRow.wideKeys == (Tryd.f3.params.toList ++ Rows.fnEnforceNoCyclicChunkImportsErrsIffStaticCycleSpec.plain.varTypes Tryd.prog ++ Tryd.f3.resultTypes.toList).any (Tryd.prog.wideKeysFrom ·))) = true := by kernel_rfl
theorem k18 : (Rows.fnEnforceNoCyclicChunkImportsErrsIffStaticCycleSpec.vars.all (Tryd.prog.varReadable ·)) = true := by kernel_rfl
theorem k19 : (Tryd.f3.resultTypes.all (fun t => Tryd.prog.readableRec t && decide (t < Tryd.prog.types.size))) = true := by kernel_rfl
theorem k20 : ((Rows.fnEnforceNoCyclicChunkImportsErrsIffStaticCycleRow.ifacesOut == Tryd.f3.resultTypes.toList.any (Tryd.prog.ifacesRec ·))) = true := by kernel_rfl
theorem k21 : ((Rows.fnEnforceNoCyclicChunkImportsErrsIffStaticCycleRow.loopsOut == Tryd.f3.resultTypes.toList.any (Tryd.prog.loopsFrom ·))) = true := by kernel_rfl
theorem k22 : ((Rows.fnEnforceNoCyclicChunkImportsErrsIffStaticCycleRow.plainKeys == Tryd.prog.plainKeys)) = true := by kernel_rfl
theorem k23 : (Rows.fnEnforceNoCyclicChunkImportsErrsIffStaticCycleRow.shortTexts.isNone) = true := by kernel_rfl
theorem k24 : (Tryd.prog.stopsHeard) = true := by kernel_rfl
theorem k25 : (Tryd.prog.mayEnter) = true := by kernel_rfl
theorem k26 : ((Rows.fnEnforceNoCyclicChunkImportsErrsIffStaticCycleRow.lifted == Tryd.prog.liftsFinal)) = true := by kernel_rfl
theorem k27 : ((Tryd.prog.make == some Rows.fnEnforceNoCyclicChunkImportsErrsIffStaticCycleRow.make)) = true := by kernel_rfl
theorem k28 : ((Rows.fnEnforceNoCyclicChunkImportsErrsIffStaticCycleRow.kinds == (if Rows.fnEnforceNoCyclicChunkImportsErrsIffStaticCycleRow.domain.isEmpty then [] else Tryd.f3.params.toList.map fun t => match Tryd.prog.underlying t with | some (.int k) => some k | _ => none))) = true := by kernel_rfl
theorem k29 : ((Rows.fnEnforceNoCyclicChunkImportsErrsIffStaticCycleRow.pinned == Rows.fnEnforceNoCyclicChunkImportsErrsIffStaticCycleRow.pinnedBy)) = true := by kernel_rfl
theorem k30 : ((Rows.fnEnforceNoCyclicChunkImportsErrsIffStaticCycleRow.veiled == (Tryd.f3.params.toList ++ Rows.fnEnforceNoCyclicChunkImportsErrsIffStaticCycleSpec.plain.varTypes Tryd.prog ++ Tryd.f3.resultTypes.toList).any (Tryd.prog.veiledRec ·))) = true := by kernel_rfl
theorem k31 : (Rows.fnEnforceNoCyclicChunkImportsErrsIffStaticCycleRow.veiledFits Tryd.prog Tryd.f3.params.toList (Tryd.f3.params.toList ++ Rows.fnEnforceNoCyclicChunkImportsErrsIffStaticCycleSpec.plain.varTypes Tryd.prog ++ Tryd.f3.resultTypes.toList)) = true := by kernel_rfl
theorem closed : joinedFacts Tryd.prog 3 Tryd.f3 Rows.fnEnforceNoCyclicChunkImportsErrsIffStaticCycleSpec Rows.fnEnforceNoCyclicChunkImportsErrsIffStaticCycleRow = true := joined_of k0 k1 k2 k3 k4 k5 k6 k7 k8 k9 k10 k11 k12 k13 k14 k15 k16 k17 k18 k19 k20 k21 k22 k23 k24 k25 k26 k27 k28 k29 k30 k31
theorem hfn : Tryd.prog.funcNamed Rows.fnEnforceNoCyclicChunkImportsErrsIffStaticCycleRow.func = some 3 := by kernel_rfl
theorem hinst : Tryd.f3.isInstance Tryd.prog Rows.fnEnforceNoCyclicChunkImportsErrsIffStaticCycleRow.origin Rows.fnEnforceNoCyclicChunkImportsErrsIffStaticCycleRow.targs := of_decide_eq_true (by kernel_rfl)
theorem hwrap : Tryd.f3.isWrapper Tryd.prog Rows.fnEnforceNoCyclicChunkImportsErrsIffStaticCycleRow.wrapper Rows.fnEnforceNoCyclicChunkImportsErrsIffStaticCycleRow.mainSum := by unfold Func.isWrapper; first | (rw [if_pos (by decide +kernel)]; kernel_rfl) | (rw [if_neg (by decide +kernel)]; exact ⟨rfl, rfl⟩)
theorem over : Rows.fnEnforceNoCyclicChunkImportsErrsIffStaticCycleRow.holds Tryd.pinned (OpenSpec.ofChange Rows.fnEnforceNoCyclicChunkImportsErrsIffStaticCycleSpec) :=
  OpenClaim.holds_of_wide 3 Tryd.f3 rfl rfl rfl rfl rfl rfl rfl ⟨rfl, rfl, rfl, rfl, rfl⟩ rfl rfl rfl rfl rfl hfn Tryd.func3 closed
    hinst hwrap
    (fun os started H enc _ => lifted os started H enc)

/-- The statement. -/
theorem proved : Rows.FnEnforceNoCyclicChunkImportsErrsIffStaticCycleCardSaid :=
  Claim7.holds_tied_plain_at .later [] [.data, .pinned] true (true, "0198b03d40ce1361ee229b8ae9593b3bda2924f883ea19ffeef0a6af9b1ee62e") false
    over (fun _ h => by cases h) (by kernel_rfl) (fun _ h => by cases h) fnEnforceNoCyclicChunkImportsErrsIffStaticCycle_row_tie rfl ⟨rfl, rfl⟩ (by kernel_rfl) rfl
    (fun f fn hf hfn => by
      obtain rfl : f = 3 := Option.some.inj ((show Tryd.prog.funcNamed "github.com/evanw/esbuild/n011_196.FnEnforceNoCyclicChunkImportsErrsIffStaticCycle" = some 3 by kernel_rfl).symm.trans hf) |>.symm
      obtain rfl : fn = Tryd.f3 := (Option.some.inj (Tryd.func3.symm.trans hfn)).symm
      exact ⟨by kernel_rfl, fun j t ht => by
        rw [Tryd.params3] at ht
        have hm : t ∈ [3, 22, 22, 23] := by simpa using Array.mem_of_getElem? ht
        have hall : ([3, 22, 22, 23].all fun u => !Tryd.prog.wantsStandIn u) = true := by kernel_rfl
        exact (show Tryd.prog.wantsStandIn t = false by simpa using List.all_eq_true.1 hall t hm)⟩)
    (by kernel_rfl)
#print axioms proved
end Go.Proofs.YtfljkbfacncdgaaDoor.fnEnforceNoCyclicChunkImportsErrsIffStaticCycle
