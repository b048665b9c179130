/-
  DERIVED. GIVEN WITH THE SEED: THE CARDS: each row of YtjgomgagaolhgacRRDoorRows.lean that lists a variable, with what it lists TIED to the program's text (the seventh form; the later family's looks); each row that meets fmt, with fmt's text TOLD by the authors' own Lean function (tested against real Go, not proved from fmt's source: count such statements apart). THE CARD IS WHAT COUNTS. Prove the row's statement (the work); the ties are given (YtjgomgagaolhgacRRDoorTie.lean); close each card by the builder's one call (the guide's Derived/Test/ToyasCard.lean, 'card_holds'). Laid BY PROGRAM, IN A SANDBOX (cutbox-door.mjs). By AI agents, Wed Nov 11 2026. No macro, syntax, notation, axiom, sorry.
-/
import Derived.Test.YtjgomgagaolhgacRRDoorRows
import GoSem.ClaimSeven
namespace Go.Proofs.YtjgomgagaolhgacRRDoor
namespace Rows

/-- THE TIED CARD OF 'n011_121.FnGuardIdempotent'. -/
def fnGuardIdempotentCard : Claim7 := { stood := { row := fnGuardIdempotentRow, standIns := [], harness := (true, "00d111bbd7ed3f70055d34d7dc5a2b24369780a4ea75d221af81ea8c3c33f23c"), looks := true }, kinds := [], alts := [], laidByText := true, laidKinds := [.data], laidTests := true, laidLooks := .later }
def FnGuardIdempotentCardSaid : Prop := Claim7.holds Tryd.pinned (.plain (OpenSpec.ofChange fnGuardIdempotentSpec)) fnGuardIdempotentCard

/-- THE TIED CARD OF 'n011_194.FnEncodeVLQInjectiveAndPrefixFree'. -/
def fnEncodeVLQInjectiveAndPrefixFreeCard : Claim7 := { stood := { row := fnEncodeVLQInjectiveAndPrefixFreeRow, standIns := [], harness := (true, "00d111bbd7ed3f70055d34d7dc5a2b24369780a4ea75d221af81ea8c3c33f23c"), looks := true }, kinds := [], alts := [], laidByText := true, laidKinds := [.widerDeep], laidTests := true, laidLooks := .later }
def FnEncodeVLQInjectiveAndPrefixFreeCardSaid : Prop := Claim7.holds Tryd.pinned (.plain (OpenSpec.ofChange fnEncodeVLQInjectiveAndPrefixFreeSpec)) fnEncodeVLQInjectiveAndPrefixFreeCard

/-- THE TIED CARD OF 'n011_194.FnDecodeVLQUTF16InvertsEncodeVLQ'. -/
def fnDecodeVLQUTF16InvertsEncodeVLQCard : Claim7 := { stood := { row := fnDecodeVLQUTF16InvertsEncodeVLQRow, standIns := [], harness := (true, "00d111bbd7ed3f70055d34d7dc5a2b24369780a4ea75d221af81ea8c3c33f23c"), looks := true }, kinds := [], alts := [], laidByText := true, laidKinds := [.widerDeep], laidTests := true, laidLooks := .later }
def FnDecodeVLQUTF16InvertsEncodeVLQCardSaid : Prop := Claim7.holds Tryd.pinned (.plain (OpenSpec.ofChange fnDecodeVLQUTF16InvertsEncodeVLQSpec)) fnDecodeVLQUTF16InvertsEncodeVLQCard

/-- THE SECOND FORM's CARD OF 'n011_121.FnGuardIdempotent'. -/
def fnGuardIdempotentUptoCard : Claim7 := { stood := { row := fnGuardIdempotentUptoRow, standIns := [], harness := (true, "00d111bbd7ed3f70055d34d7dc5a2b24369780a4ea75d221af81ea8c3c33f23c"), looks := true }, kinds := [], alts := [], laidByText := true, laidKinds := [.data], laidTests := true, laidLooks := .later }
def FnGuardIdempotentUptoCardSaid : Prop := Claim7.holds Tryd.pinned (.plain (OpenSpec.upto fnGuardIdempotentSpec)) fnGuardIdempotentUptoCard

/-- THE SECOND FORM's CARD OF 'n011_194.FnEncodeVLQInjectiveAndPrefixFree'. -/
def fnEncodeVLQInjectiveAndPrefixFreeUptoCard : Claim7 := { stood := { row := fnEncodeVLQInjectiveAndPrefixFreeUptoRow, standIns := [], harness := (true, "00d111bbd7ed3f70055d34d7dc5a2b24369780a4ea75d221af81ea8c3c33f23c"), looks := true }, kinds := [], alts := [], laidByText := true, laidKinds := [.widerDeep], laidTests := true, laidLooks := .later }
def FnEncodeVLQInjectiveAndPrefixFreeUptoCardSaid : Prop := Claim7.holds Tryd.pinned (.plain (OpenSpec.upto fnEncodeVLQInjectiveAndPrefixFreeSpec)) fnEncodeVLQInjectiveAndPrefixFreeUptoCard

/-- THE SECOND FORM's CARD OF 'n011_194.FnDecodeVLQUTF16InvertsEncodeVLQ'. -/
def fnDecodeVLQUTF16InvertsEncodeVLQUptoCard : Claim7 := { stood := { row := fnDecodeVLQUTF16InvertsEncodeVLQUptoRow, standIns := [], harness := (true, "00d111bbd7ed3f70055d34d7dc5a2b24369780a4ea75d221af81ea8c3c33f23c"), looks := true }, kinds := [], alts := [], laidByText := true, laidKinds := [.widerDeep], laidTests := true, laidLooks := .later }
def FnDecodeVLQUTF16InvertsEncodeVLQUptoCardSaid : Prop := Claim7.holds Tryd.pinned (.plain (OpenSpec.upto fnDecodeVLQUTF16InvertsEncodeVLQSpec)) fnDecodeVLQUTF16InvertsEncodeVLQUptoCard
end Rows
end Go.Proofs.YtjgomgagaolhgacRRDoor
