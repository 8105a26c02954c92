/-
  DERIVED. GIVEN WITH THE SEED: THE CARDS: each row of YbulkbkzyDoorRows.lean that lists a variable, with what it lists TIED to the program's text (the seventh form; the later family's looks); each row that meets fmt, with fmt's text TOLD by the authors' own Lean function (tested against real Go, not proved from fmt's source: count such statements apart). THE CARD IS WHAT COUNTS. Prove the row's statement (the work); the ties are given (YbulkbkzyDoorTie.lean); close each card by the builder's one call (the guide's Derived/Test/ToyasCard.lean, 'card_holds'). Laid BY PROGRAM, IN A SANDBOX (cutbox-door.mjs). By AI agents, Wed Nov 11 2026. No macro, syntax, notation, axiom, sorry.
-/
import Derived.Test.YbulkbkzyDoorRows
import GoSem.ClaimSeven
namespace Go.Proofs.YbulkbkzyDoor
namespace Rows

/-- THE TIED CARD OF 'wire.LawS3092CRoundTrip'. -/
def lawS3092CRoundTripCard : Claim7 := { stood := { row := lawS3092CRoundTripRow, standIns := [], harness := (true, "2d35bec54b29b1dcf4d29d03a0395e2145c3a03b831dc8b8c3a8e321268ab3d0"), looks := false }, kinds := [], alts := [], laidByText := true, laidKinds := [.sentinel], laidTests := true, laidLooks := .later }
def LawS3092CRoundTripCardSaid : Prop := Claim7.holds Ybad.pinned (.plain (OpenSpec.ofChange lawS3092CRoundTripSpec)) lawS3092CRoundTripCard
end Rows
end Go.Proofs.YbulkbkzyDoor
