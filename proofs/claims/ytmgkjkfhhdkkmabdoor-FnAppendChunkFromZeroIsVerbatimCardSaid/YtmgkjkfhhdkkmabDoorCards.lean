/-
  DERIVED. GIVEN WITH THE SEED: THE CARDS: each row of YtmgkjkfhhdkkmabDoorRows.lean that lists a variable, with what it lists TIED to the program's text (the seventh form; the later family's looks); each row that meets fmt, with fmt's text TOLD by the authors' own Lean function (tested against real Go, not proved from fmt's source: count such statements apart). THE CARD IS WHAT COUNTS. Prove the row's statement (the work); the ties are given (YtmgkjkfhhdkkmabDoorTie.lean); close each card by the builder's one call (the guide's Derived/Test/ToyasCard.lean, 'card_holds'). Laid BY PROGRAM, IN A SANDBOX (cutbox-door.mjs). By AI agents, Wed Nov 11 2026. No macro, syntax, notation, axiom, sorry.
-/
import Derived.Test.YtmgkjkfhhdkkmabDoorRows
import GoSem.ClaimSeven
namespace Go.Proofs.YtmgkjkfhhdkkmabDoor
namespace Rows

/-- THE TIED CARD OF 'n011_108.FnAppendChunkFromZeroIsVerbatim'. -/
def fnAppendChunkFromZeroIsVerbatimCard : Claim7 := { stood := { row := fnAppendChunkFromZeroIsVerbatimRow, standIns := [], harness := (true, "229eb0a592a9eb893b1b0269306c888e740fbc5ab001069cd93dede875568028"), looks := false }, kinds := [], alts := [], laidByText := true, laidKinds := [.widerDeep], laidTests := true, laidLooks := .later }
def FnAppendChunkFromZeroIsVerbatimCardSaid : Prop := Claim7.holds Tryd.pinned (.plain (OpenSpec.ofChange fnAppendChunkFromZeroIsVerbatimSpec)) fnAppendChunkFromZeroIsVerbatimCard

/-- THE SECOND FORM's CARD OF 'n011_108.FnAppendChunkFromZeroIsVerbatim'. -/
def fnAppendChunkFromZeroIsVerbatimUptoCard : Claim7 := { stood := { row := fnAppendChunkFromZeroIsVerbatimUptoRow, standIns := [], harness := (true, "229eb0a592a9eb893b1b0269306c888e740fbc5ab001069cd93dede875568028"), looks := false }, kinds := [], alts := [], laidByText := true, laidKinds := [.widerDeep], laidTests := true, laidLooks := .later }
def FnAppendChunkFromZeroIsVerbatimUptoCardSaid : Prop := Claim7.holds Tryd.pinned (.plain (OpenSpec.upto fnAppendChunkFromZeroIsVerbatimSpec)) fnAppendChunkFromZeroIsVerbatimUptoCard
end Rows
end Go.Proofs.YtmgkjkfhhdkkmabDoor
