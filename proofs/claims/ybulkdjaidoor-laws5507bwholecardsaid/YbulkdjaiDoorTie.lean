/-
  DERIVED. GIVEN WITH THE SEED: THE PROGRAM's TIES (one call each: nine closed facts by the kernel) AND EACH ROW's TIE, after the 31st guide's Derived/Test/Toyas{Tie, Card}.lean. No idea stands in it: it is a product of the set-up. Laid BY PROGRAM, IN A SANDBOX (cutbox-door.mjs). By AI agents, Wed Nov 11 2026. No macro, syntax, notation, axiom, sorry.
-/
import Derived.Test.YbulkdjaiDoorRows
import Derived.LaidByTextLater
import Derived.SevenTiedAt
import Derived.LaidSub
import Derived.LaidOnce
namespace Go.Proofs.YbulkdjaiDoor
open Go
set_option maxRecDepth 100000
theorem seatTie1 : Ybad.prog.laidByTextLater [("example.com/orderwire/orderwire/internal/wire.ErrMalformed", Rows.laid_example_com_orderwire_orderwire_internal_wire_ErrMalformed)] [.sentinel] true :=
  Program.laidByTextLater_by_one 28 8 2 (by kernel_rfl) (by kernel_rfl) (by kernel_rfl) (by kernel_rfl) (by kernel_rfl) (by kernel_rfl) (fun _ _ => by kernel_rfl)
theorem noOwnUnsafe : Ybad.pinned.checked.prog.headLifts.contains "ownunsafe" = false := by kernel_rfl
theorem tie : Ybad.prog.laidByTextLater [("example.com/orderwire/orderwire/internal/wire.ErrMalformed", Rows.laid_example_com_orderwire_orderwire_internal_wire_ErrMalformed)] [.sentinel] true :=
  Program.laidByTextLater.sub seatTie1 ["example.com/orderwire/orderwire/internal/wire.ErrMalformed"] (by kernel_rfl) (by kernel_rfl)
theorem lawS5507BWhole_row_tie : Rows.lawS5507BWholeRow.laidByTextAt .later Ybad.pinned [.sentinel] true :=
  OpenClaim.laidByTextAt_later rfl rfl tie noOwnUnsafe
theorem lawS5507CRoundTrip_row_tie : Rows.lawS5507CRoundTripRow.laidByTextAt .later Ybad.pinned [.sentinel] true :=
  OpenClaim.laidByTextAt_later rfl rfl tie noOwnUnsafe
end Go.Proofs.YbulkdjaiDoor
