/-
  DERIVED. GIVEN WITH THE SEED: THE CARDS: each row of YbulkdjaiDoorRows.lean that lists a variable, with what it lists TIED to the program's text (the seventh form; the later family's looks); each row that meets fmt, with fmt's text TOLD by the authors' own Lean function (tested against real Go, not proved from fmt's source: count such statements apart). THE CARD IS WHAT COUNTS. Prove the row's statement (the work); the ties are given (YbulkdjaiDoorTie.lean); close each card by the builder's one call (the guide's Derived/Test/ToyasCard.lean, 'card_holds'). Laid BY PROGRAM, IN A SANDBOX (cutbox-door.mjs). By AI agents, Wed Nov 11 2026. No macro, syntax, notation, axiom, sorry.
-/
import Derived.Test.YbulkdjaiDoorRows
import GoSem.ClaimSeven
namespace Go.Proofs.YbulkdjaiDoor
namespace Rows

/-- THE TIED CARD OF 'wire.LawS5507BWhole'. -/
def lawS5507BWholeCard : Claim7 := { stood := { row := lawS5507BWholeRow, standIns := [], harness := (true, "3c8f9da9b6f0b9e7eb93922cd31268fd4fc576517a58b93c35540a9e711dc508"), looks := true }, kinds := [], alts := [], laidByText := true, laidKinds := [.sentinel], laidTests := true, laidLooks := .later }
def LawS5507BWholeCardSaid : Prop := Claim7.holds Ybad.pinned (.plain (OpenSpec.ofChange lawS5507BWholeSpec)) lawS5507BWholeCard

/-- THE TIED CARD OF 'wire.LawS5507CRoundTrip'. -/
def lawS5507CRoundTripCard : Claim7 := { stood := { row := lawS5507CRoundTripRow, standIns := [], harness := (true, "3c8f9da9b6f0b9e7eb93922cd31268fd4fc576517a58b93c35540a9e711dc508"), looks := true }, kinds := [], alts := [], laidByText := true, laidKinds := [.sentinel], laidTests := true, laidLooks := .later }
def LawS5507CRoundTripCardSaid : Prop := Claim7.holds Ybad.pinned (.plain (OpenSpec.ofChange lawS5507CRoundTripSpec)) lawS5507CRoundTripCard
end Rows
end Go.Proofs.YbulkdjaiDoor
