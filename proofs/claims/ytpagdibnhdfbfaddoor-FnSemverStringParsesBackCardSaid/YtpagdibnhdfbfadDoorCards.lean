/-
  DERIVED. GIVEN WITH THE SEED: THE CARDS: each row of YtpagdibnhdfbfadDoorRows.lean that lists a variable, with what it lists TIED to the program's text (the seventh form; the later family's looks); each row that meets fmt, with fmt's text TOLD by the authors' own Lean function (tested against real Go, not proved from fmt's source: count such statements apart). THE CARD IS WHAT COUNTS. Prove the row's statement (the work); the ties are given (YtpagdibnhdfbfadDoorTie.lean); close each card by the builder's one call (the guide's Derived/Test/ToyasCard.lean, 'card_holds'). Laid BY PROGRAM, IN A SANDBOX (cutbox-door.mjs). By AI agents, Wed Nov 11 2026. No macro, syntax, notation, axiom, sorry.
-/
import Derived.Test.YtpagdibnhdfbfadDoorRows
import GoSem.ClaimSeven
namespace Go.Proofs.YtpagdibnhdfbfadDoor
namespace Rows

/-- THE TIED CARD OF 'n011_122.FnSemverStringParsesBack'. -/
def fnSemverStringParsesBackCard : Claim7 := { stood := { row := fnSemverStringParsesBackRow, standIns := [], harness := (true, "188778372aa454db4baa798569f7fb219f1ee1c2f87001bd722232da38b6aa71"), looks := false }, kinds := [], alts := [], laidByText := true, laidKinds := [.data, .data, .data], laidTests := true, laidLooks := .later }
def FnSemverStringParsesBackCardSaid : Prop := Claim7.holds Tryd.pinned (.plain (OpenSpec.ofChange fnSemverStringParsesBackSpec)) fnSemverStringParsesBackCard

/-- THE SECOND FORM's CARD OF 'n011_122.FnSemverStringParsesBack'. -/
def fnSemverStringParsesBackUptoCard : Claim7 := { stood := { row := fnSemverStringParsesBackUptoRow, standIns := [], harness := (true, "188778372aa454db4baa798569f7fb219f1ee1c2f87001bd722232da38b6aa71"), looks := false }, kinds := [], alts := [], laidByText := true, laidKinds := [.data, .data, .data], laidTests := true, laidLooks := .later }
def FnSemverStringParsesBackUptoCardSaid : Prop := Claim7.holds Tryd.pinned (.plain (OpenSpec.upto fnSemverStringParsesBackSpec)) fnSemverStringParsesBackUptoCard
end Rows
end Go.Proofs.YtpagdibnhdfbfadDoor
