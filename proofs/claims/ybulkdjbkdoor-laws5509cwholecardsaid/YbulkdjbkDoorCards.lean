/-
  DERIVED. GIVEN WITH THE SEED: THE CARDS: each row of YbulkdjbkDoorRows.lean that lists a variable, with what it lists TIED to the program's text (the seventh form; the later family's looks); each row that meets fmt, with fmt's text TOLD by the authors' own Lean function (tested against real Go, not proved from fmt's source: count such statements apart). THE CARD IS WHAT COUNTS. Prove the row's statement (the work); the ties are given (YbulkdjbkDoorTie.lean); close each card by the builder's one call (the guide's Derived/Test/ToyasCard.lean, 'card_holds'). Laid BY PROGRAM, IN A SANDBOX (cutbox-door.mjs). By AI agents, Wed Nov 11 2026. No macro, syntax, notation, axiom, sorry.
-/
import Derived.Test.YbulkdjbkDoorRows
import GoSem.ClaimSeven
namespace Go.Proofs.YbulkdjbkDoor
namespace Rows

/-- THE TIED CARD OF 'epact.LawS5509AWhole'. -/
def lawS5509AWholeCard : Claim7 := { stood := { row := lawS5509AWholeRow, standIns := [], harness := (true, "4ad5d9d4504069fb3970824c6c434f7a514db739dc604435ca93c3ff1b11deed"), looks := false }, kinds := [], alts := [], laidByText := true, laidKinds := [.wider], laidTests := true, laidLooks := .later }
def LawS5509AWholeCardSaid : Prop := Claim7.holds Ybad.pinned (.plain (OpenSpec.ofChange lawS5509AWholeSpec)) lawS5509AWholeCard

/-- THE TIED CARD OF 'epact.LawS5509CWhole'. -/
def lawS5509CWholeCard : Claim7 := { stood := { row := lawS5509CWholeRow, standIns := [], harness := (true, "4ad5d9d4504069fb3970824c6c434f7a514db739dc604435ca93c3ff1b11deed"), looks := false }, kinds := [], alts := [], laidByText := true, laidKinds := [.data, .data, .data], laidTests := true, laidLooks := .later }
def LawS5509CWholeCardSaid : Prop := Claim7.holds Ybad.pinned (.plain (OpenSpec.ofChange lawS5509CWholeSpec)) lawS5509CWholeCard
end Rows
end Go.Proofs.YbulkdjbkDoor
