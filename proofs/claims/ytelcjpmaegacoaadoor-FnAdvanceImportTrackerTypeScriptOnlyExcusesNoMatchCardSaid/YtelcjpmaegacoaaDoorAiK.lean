/- FnAdvanceImportTrackerTypeScriptOnlyExcusesNoMatch: for every input the law returns true (the card: what the listed variables hold is tied to the text). This text is the frame round the walk, printed by gen2.py. -/
import Derived.Test.YtelcjpmaegacoaaDoorRows
import Derived.Test.YtelcjpmaegacoaaDoorCards
import Derived.Test.YtelcjpmaegacoaaDoorTie
import Derived.Test.YtelcjpmaegacoaaDoorArgs
import Derived.Test.YtelcjpmaegacoaaDoorVars
import Derived.WalkKit
import Derived.ProofKit
import Derived.OpenShut
import Derived.ShutString
import Derived.ChangeOld
import Derived.Below
import Derived.LaidMore
import Derived.Stop.Joined
import Derived.SevenTiedAt
import Derived.Lay
namespace Go.Proofs.YtelcjpmaegacoaaDoor.fnAdvanceImportTrackerTypeScriptOnlyExcusesNoMatch
open Go.ChangeShapes Go.WideShapes Go.ChangeAt Go.RowKit
open Go.ChangeMaps (open_string shut_string)
set_option linter.unusedVariables false

theorem own : ownKnob Tryd.prog.godebug = none := by kernel_rfl
theorem laidOut : laidOutB Tryd.prog = true := by kernel_rfl


/-- The closed facts, one by one. -/
theorem joined_of {P : Program} {f : FuncId} {fn : Func} {s : ChangeSpec} {c : OpenClaim}
    (k0 : (c.wf (OpenSpec.ofChange s)) = true)
    (k1 : (laidOutB P) = true)
    (k2 : (mapsRowed P) = true)
    (k3 : (fn.params.all (P.readableRec ·)) = true)
    (k4 : (namedTie P c.named s.vars) = true)
    (k5 : ((c.stops == [])) = true)
    (k6 : ((P.stops == [])) = true)
    (k7 : ((c.knobs == [])) = true)
    (k8 : ((P.stopKnobs == [])) = true)
    (k9 : ((c.inPlace == P.inPlace f)) = true)
    (k10 : ((c.unfollowed == P.unfollowed f)) = true)
    (k11 : ((c.recurses == P.recurses f)) = true)
    (k12 : ((c.named == P.varsNamed f)) = true)
    (k13 : ((c.maps == (fn.params.toList ++ s.plain.varTypes P).any (P.mapsRec ·))) = true)
    (k14 : ((c.ifaces == (fn.params.toList ++ s.plain.varTypes P).any (P.ifacesRec ·))) = true)
    (k15 : ((c.mapsOut == P.mapsAmong fn.resultTypes.toList)) = true)
    (k16 : ((c.loops == (fn.params.toList ++ s.plain.varTypes P).any (P.loopsFrom ·))) = true)
    (k17 : ((c.wideKeys == (fn.params.toList ++ s.plain.varTypes P ++ fn.resultTypes.toList).any (P.wideKeysFrom ·))) = true)
    (k18 : (s.vars.all (P.varReadable ·)) = true)
    (k19 : (fn.resultTypes.all (fun t => P.readableRec t && decide (t < P.types.size))) = true)
    (k20 : ((c.ifacesOut == fn.resultTypes.toList.any (P.ifacesRec ·))) = true)
    (k21 : ((c.loopsOut == fn.resultTypes.toList.any (P.loopsFrom ·))) = true)
    (k22 : ((c.plainKeys == P.plainKeys)) = true)
    (k23 : (c.shortTexts.isNone) = true)
    (k24 : (P.stopsHeard) = true)
    (k25 : (P.mayEnter) = true)
    (k26 : ((c.lifted == P.liftsFinal)) = true)
    (k27 : ((P.make == some c.make)) = true)
    (k28 : ((c.kinds == (if c.domain.isEmpty then [] else fn.params.toList.map fun t => match P.underlying t with | some (.int k) => some k | _ => none))) = true)
    (k29 : ((c.pinned == c.pinnedBy)) = true)
    (k30 : ((c.veiled == (fn.params.toList ++ s.plain.varTypes P ++ fn.resultTypes.toList).any (P.veiledRec ·))) = true)
    (k31 : (c.veiledFits P fn.params.toList (fn.params.toList ++ s.plain.varTypes P ++ fn.resultTypes.toList)) = true)
    : joinedFacts P f fn s c = true := by
  unfold joinedFacts
  simp only [Bool.and_eq_true]
  exact ⟨⟨⟨⟨⟨⟨⟨⟨⟨⟨⟨⟨⟨⟨⟨⟨⟨⟨⟨⟨⟨⟨⟨⟨⟨⟨⟨⟨⟨⟨⟨k0, k1⟩, k2⟩, k3⟩, k4⟩, k5⟩, k6⟩, k7⟩, k8⟩, k9⟩, k10⟩, k11⟩, k12⟩, k13⟩, k14⟩, k15⟩, k16⟩, k17⟩, k18⟩, k19⟩, k20⟩, k21⟩, k22⟩, k23⟩, k24⟩, k25⟩, k26⟩, k27⟩, k28⟩, k29⟩, k30⟩, k31⟩
theorem k0 : (Rows.fnAdvanceImportTrackerTypeScriptOnlyExcusesNoMatchRow.wf (OpenSpec.ofChange Rows.fnAdvanceImportTrackerTypeScriptOnlyExcusesNoMatchSpec)) = true := by kernel_rfl
theorem k1 : (laidOutB Tryd.prog) = true := by kernel_rfl
theorem k2 : (mapsRowed Tryd.prog) = true := by kernel_rfl
theorem k3 : (Tryd.f3.params.all (Tryd.prog.readableRec ·)) = true := by kernel_rfl
theorem k4 : (namedTie Tryd.prog Rows.fnAdvanceImportTrackerTypeScriptOnlyExcusesNoMatchRow.named Rows.fnAdvanceImportTrackerTypeScriptOnlyExcusesNoMatchSpec.vars) = true := by kernel_rfl
theorem k5 : ((Rows.fnAdvanceImportTrackerTypeScriptOnlyExcusesNoMatchRow.stops == [])) = true := by kernel_rfl
theorem k6 : ((Tryd.prog.stops == [])) = true := by kernel_rfl
theorem k7 : ((Rows.fnAdvanceImportTrackerTypeScriptOnlyExcusesNoMatchRow.knobs == [])) = true := by kernel_rfl
theorem k8 : ((Tryd.prog.stopKnobs == [])) = true := by kernel_rfl
theorem k9 : ((Rows.fnAdvanceImportTrackerTypeScriptOnlyExcusesNoMatchRow.inPlace == Tryd.prog.inPlace 3)) = true := by kernel_rfl
theorem k10 : ((Rows.fnAdvanceImportTrackerTypeScriptOnlyExcusesNoMatchRow.unfollowed == Tryd.prog.unfollowed 3)) = true := by kernel_rfl
theorem k11 : ((Rows.fnAdvanceImportTrackerTypeScriptOnlyExcusesNoMatchRow.recurses == Tryd.prog.recurses 3)) = true := by kernel_rfl
theorem k12 : ((Rows.fnAdvanceImportTrackerTypeScriptOnlyExcusesNoMatchRow.named == Tryd.prog.varsNamed 3)) = true := by kernel_rfl
theorem k13 : ((Rows.fnAdvanceImportTrackerTypeScriptOnlyExcusesNoMatchRow.maps == (Tryd.f3.params.toList ++ Rows.fnAdvanceImportTrackerTypeScriptOnlyExcusesNoMatchSpec.plain.varTypes Tryd.prog).any (Tryd.prog.mapsRec ·))) = true := by kernel_rfl
theorem k14 : ((Rows.fnAdvanceImportTrackerTypeScriptOnlyExcusesNoMatchRow.ifaces == (Tryd.f3.params.toList ++ Rows.fnAdvanceImportTrackerTypeScriptOnlyExcusesNoMatchSpec.plain.varTypes Tryd.prog).any (Tryd.prog.ifacesRec ·))) = true := by kernel_rfl
theorem k15 : ((Rows.fnAdvanceImportTrackerTypeScriptOnlyExcusesNoMatchRow.mapsOut == Tryd.prog.mapsAmong Tryd.f3.resultTypes.toList)) = true := by kernel_rfl
theorem k16 : ((Rows.fnAdvanceImportTrackerTypeScriptOnlyExcusesNoMatchRow.loops == (Tryd.f3.params.toList ++ Rows.fnAdvanceImportTrackerTypeScriptOnlyExcusesNoMatchSpec.plain.varTypes Tryd.prog).any (Tryd.prog.loopsFrom ·))) = true := by kernel_rfl
theorem k17 : ((Rows.fnAdvanceImportTrackerTypeScriptOnlyExcusesNoMatchRow.wideKeys == (Tryd.f3.params.toList ++ Rows.fnAdvanceImportTrackerTypeScriptOnlyExcusesNoMatchSpec.plain.varTypes Tryd.prog ++ Tryd.f3.resultTypes.toList).any (Tryd.prog.wideKeysFrom ·))) = true := by kernel_rfl
theorem k18 : (Rows.fnAdvanceImportTrackerTypeScriptOnlyExcusesNoMatchSpec.vars.all (Tryd.prog.varReadable ·)) = true := by kernel_rfl
theorem k19 : (Tryd.f3.resultTypes.all (fun t => Tryd.prog.readableRec t && decide (t < Tryd.prog.types.size))) = true := by kernel_rfl
theorem k20 : ((Rows.fnAdvanceImportTrackerTypeScriptOnlyExcusesNoMatchRow.ifacesOut == Tryd.f3.resultTypes.toList.any (Tryd.prog.ifacesRec ·))) = true := by kernel_rfl
theorem k21 : ((Rows.fnAdvanceImportTrackerTypeScriptOnlyExcusesNoMatchRow.loopsOut == Tryd.f3.resultTypes.toList.any (Tryd.prog.loopsFrom ·))) = true := by kernel_rfl
theorem k22 : ((Rows.fnAdvanceImportTrackerTypeScriptOnlyExcusesNoMatchRow.plainKeys == Tryd.prog.plainKeys)) = true := by kernel_rfl
theorem k23 : (Rows.fnAdvanceImportTrackerTypeScriptOnlyExcusesNoMatchRow.shortTexts.isNone) = true := by kernel_rfl
theorem k24 : (Tryd.prog.stopsHeard) = true := by kernel_rfl
theorem k25 : (Tryd.prog.mayEnter) = true := by kernel_rfl
theorem k26 : ((Rows.fnAdvanceImportTrackerTypeScriptOnlyExcusesNoMatchRow.lifted == Tryd.prog.liftsFinal)) = true := by kernel_rfl
theorem k27 : ((Tryd.prog.make == some Rows.fnAdvanceImportTrackerTypeScriptOnlyExcusesNoMatchRow.make)) = true := by kernel_rfl
theorem k28 : ((Rows.fnAdvanceImportTrackerTypeScriptOnlyExcusesNoMatchRow.kinds == (if Rows.fnAdvanceImportTrackerTypeScriptOnlyExcusesNoMatchRow.domain.isEmpty then [] else Tryd.f3.params.toList.map fun t => match Tryd.prog.underlying t with | some (.int k) => some k | _ => none))) = true := by kernel_rfl
theorem k29 : ((Rows.fnAdvanceImportTrackerTypeScriptOnlyExcusesNoMatchRow.pinned == Rows.fnAdvanceImportTrackerTypeScriptOnlyExcusesNoMatchRow.pinnedBy)) = true := by kernel_rfl
theorem k30 : ((Rows.fnAdvanceImportTrackerTypeScriptOnlyExcusesNoMatchRow.veiled == (Tryd.f3.params.toList ++ Rows.fnAdvanceImportTrackerTypeScriptOnlyExcusesNoMatchSpec.plain.varTypes Tryd.prog ++ Tryd.f3.resultTypes.toList).any (Tryd.prog.veiledRec ·))) = true := by kernel_rfl
theorem k31 : (Rows.fnAdvanceImportTrackerTypeScriptOnlyExcusesNoMatchRow.veiledFits Tryd.prog Tryd.f3.params.toList (Tryd.f3.params.toList ++ Rows.fnAdvanceImportTrackerTypeScriptOnlyExcusesNoMatchSpec.plain.varTypes Tryd.prog ++ Tryd.f3.resultTypes.toList)) = true := by kernel_rfl
theorem closed : joinedFacts Tryd.prog 3 Tryd.f3 Rows.fnAdvanceImportTrackerTypeScriptOnlyExcusesNoMatchSpec Rows.fnAdvanceImportTrackerTypeScriptOnlyExcusesNoMatchRow = true := joined_of k0 k1 k2 k3 k4 k5 k6 k7 k8 k9 k10 k11 k12 k13 k14 k15 k16 k17 k18 k19 k20 k21 k22 k23 k24 k25 k26 k27 k28 k29 k30 k31
theorem hfn : Tryd.prog.funcNamed Rows.fnAdvanceImportTrackerTypeScriptOnlyExcusesNoMatchRow.func = some 3 := by kernel_rfl
theorem hinst : Tryd.f3.isInstance Tryd.prog Rows.fnAdvanceImportTrackerTypeScriptOnlyExcusesNoMatchRow.origin Rows.fnAdvanceImportTrackerTypeScriptOnlyExcusesNoMatchRow.targs := of_decide_eq_true (by kernel_rfl)
theorem hwrap : Tryd.f3.isWrapper Tryd.prog Rows.fnAdvanceImportTrackerTypeScriptOnlyExcusesNoMatchRow.wrapper Rows.fnAdvanceImportTrackerTypeScriptOnlyExcusesNoMatchRow.mainSum := by unfold Func.isWrapper; first | (rw [if_pos (by decide +kernel)]; kernel_rfl) | (rw [if_neg (by decide +kernel)]; exact ⟨rfl, rfl⟩)

end Go.Proofs.YtelcjpmaegacoaaDoor.fnAdvanceImportTrackerTypeScriptOnlyExcusesNoMatch
