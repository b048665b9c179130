/-
  DERIVED. GIVEN WITH THE SEED: THE CARDS: each row of YtalpfbbceggcaaaDoorRows.lean that lists a variable, with what it lists TIED to the program's text (the seventh form; the later family's looks); each row that meets fmt, with fmt's text TOLD by the authors' own Lean function (tested against real Go, not proved from fmt's source: count such statements apart). THE CARD IS WHAT COUNTS. Prove the row's statement (the work); the ties are given (YtalpfbbceggcaaaDoorTie.lean); close each card by the builder's one call (the guide's Derived/Test/ToyasCard.lean, 'card_holds'). Laid BY PROGRAM, IN A SANDBOX (cutbox-door.mjs). By AI agents, Wed Nov 11 2026. No macro, syntax, notation, axiom, sorry.
-/
import Derived.Test.YtalpfbbceggcaaaDoorRows
import GoSem.ClaimSeven
namespace Go.Proofs.YtalpfbbceggcaaaDoor
namespace Rows

/-- THE TIED CARD OF 'n011_202.FnCookedAndRawTemplateContentsWhole'. -/
def fnCookedAndRawTemplateContentsWholeCard : Claim7 := { stood := { row := fnCookedAndRawTemplateContentsWholeRow, standIns := [], harness := (true, "82f13e7c27c4ea4da030c96d4a46e5c9b3c5101f019e45008dd0382d86a6f11b"), looks := false }, kinds := [], alts := [], laidByText := true, laidKinds := [.data, .pinned], laidTests := true, laidLooks := .later }
def FnCookedAndRawTemplateContentsWholeCardSaid : Prop := Claim7.holds Tryd.pinned (.plain (OpenSpec.ofChange fnCookedAndRawTemplateContentsWholeSpec)) fnCookedAndRawTemplateContentsWholeCard

/-- THE SECOND FORM's CARD OF 'n011_202.FnCookedAndRawTemplateContentsWhole'. -/
def fnCookedAndRawTemplateContentsWholeUptoCard : Claim7 := { stood := { row := fnCookedAndRawTemplateContentsWholeUptoRow, standIns := [], harness := (true, "82f13e7c27c4ea4da030c96d4a46e5c9b3c5101f019e45008dd0382d86a6f11b"), looks := false }, kinds := [], alts := [], laidByText := true, laidKinds := [.data, .pinned], laidTests := true, laidLooks := .later }
def FnCookedAndRawTemplateContentsWholeUptoCardSaid : Prop := Claim7.holds Tryd.pinned (.plain (OpenSpec.upto fnCookedAndRawTemplateContentsWholeSpec)) fnCookedAndRawTemplateContentsWholeUptoCard
end Rows
end Go.Proofs.YtalpfbbceggcaaaDoor
