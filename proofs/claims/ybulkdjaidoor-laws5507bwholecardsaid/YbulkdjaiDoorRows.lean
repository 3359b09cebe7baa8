/-
  NARROWER THAN 'FOR EVERY INPUT', by the rows' own cells (each row's printed sentence says how): LawS5507BWhole: ifaces, laid · LawS5507CRoundTrip: ifaces, laid.
  DERIVED. THE GIVEN ROWS OF THIS SEAT. 2 by the template 'for every input the law returns true; each argument reads behind the call as it read before'; 0 by the template 'total and deterministic' (their statements: YbulkdjaiDoorTotals.lean).
  GIVEN WITH THE SEED: the statements are not yours to turn. If you find one false, say at which input.
  Laid BY PROGRAM, IN A SANDBOX (cutbox-rows.mjs): the forced cells as the released guide's own fill.sh prints them over the translation 73902888c63cfa86… (all of the seat's roots in one cut). By AI agents, Wed Nov 11 2026. No macro, syntax, notation, axiom, sorry.
-/
import Derived.Test.YbulkdjaiDoorChecked
import GoSem.Claim
import GoSem.ClaimJoined
import GoSem.ClaimMapViews
import Derived.JoinedTies
import Derived.KernelRfl
namespace Go.Proofs.YbulkdjaiDoor
/- THE CELL 'sum', in the pinned program and in every row, IS THE sha256 OF THE DUMP (.gsa) THAT YbulkdjaiDoorProg.lean LOADS. Nothing in Lean hashes anything: it is a label: what it is worth is what the hold of that sum in a sandbox is worth. -/
noncomputable def Ybad.pinned : Pinned := { name := "ybulkdjaidoor", sum := "73902888c63cfa8638874fc0260d258fd214dfedfd1ef1b1b01c669b8e023bf1", checked := Ybad.checked }
namespace Rows
def none {H : Type} : Left H := { results := [], args := [] }

/- WHAT THE LISTED PACKAGE-LEVEL VARIABLES READ AS WHEN THE CALL BEGINS. Each datum BY PROGRAM (the guide's laid-datum.mjs) off the statement by which the dump's own 'gosem.cut.vars' lays the variable. In a bare row this is a premise. The card (YbulkdjaiDoorCards.lean) ties it to the program's text. -/
def laid_example_com_orderwire_orderwire_internal_wire_ErrMalformed {H : Type} : DataW H := .iface "*errors.errorString" (.ptr (.agg [.lit (.string [109, 97, 108, 102, 111, 114, 109, 101, 100, 32, 100, 97, 116, 97, 103, 114, 97, 109])]))

/-- 'wire.LawS5507BWhole': WHATEVER THE INPUT: true; the input reads as it did. -/
def lawS5507BWholeSpec : ChangeSpec := { name := "lawS5507BWhole", vars := ["example.com/orderwire/orderwire/internal/wire.ErrMalformed"], fn := fun _ => fun
  | [d1, d2, d3, d4, d5, d6, d7, d8, d9, d10, d11, d12, g1] => { results := [.lit (.bool true)], args := [d1, d2, d3, d4, d5, d6, d7, d8, d9, d10, d11, d12], vars := [g1] }
  | _ => none }
def lawS5507BWholeRow : OpenClaim := { program := "ybulkdjaidoor", sum := "73902888c63cfa8638874fc0260d258fd214dfedfd1ef1b1b01c669b8e023bf1", func := "example.com/orderwire/orderwire/internal/wire.LawS5507BWhole", spec := "lawS5507BWhole", unfollowed := true, recurses := true, named := ["example.com/orderwire/orderwire/internal/wire.ErrMalformed", "encoding/binary.BigEndian"], ifaces := true, apart := false, laid := [("example.com/orderwire/orderwire/internal/wire.ErrMalformed", laid_example_com_orderwire_orderwire_internal_wire_ErrMalformed)] }
def LawS5507BWholeSaid : Prop := lawS5507BWholeRow.holds Ybad.pinned (OpenSpec.ofChange lawS5507BWholeSpec)

/-- ITS FALSE NEIGHBOUR: 'it returns false'. Refute it at one input. -/
def lawS5507BWholeWrong : ChangeSpec := { name := "lawS5507BWhole", vars := ["example.com/orderwire/orderwire/internal/wire.ErrMalformed"], fn := fun _ => fun
  | [d1, d2, d3, d4, d5, d6, d7, d8, d9, d10, d11, d12, g1] => { results := [.lit (.bool false)], args := [d1, d2, d3, d4, d5, d6, d7, d8, d9, d10, d11, d12], vars := [g1] }
  | _ => none }
def LawS5507BWholeWrongFalsely : Prop := lawS5507BWholeRow.holds Ybad.pinned (OpenSpec.ofChange lawS5507BWholeWrong)

/-- 'wire.LawS5507CRoundTrip': WHATEVER THE INPUT: true; the input reads as it did. -/
def lawS5507CRoundTripSpec : ChangeSpec := { name := "lawS5507CRoundTrip", vars := ["example.com/orderwire/orderwire/internal/wire.ErrMalformed"], fn := fun _ => fun
  | [d1, d2, d3, d4, g1] => { results := [.lit (.bool true)], args := [d1, d2, d3, d4], vars := [g1] }
  | _ => none }
def lawS5507CRoundTripRow : OpenClaim := { program := "ybulkdjaidoor", sum := "73902888c63cfa8638874fc0260d258fd214dfedfd1ef1b1b01c669b8e023bf1", func := "example.com/orderwire/orderwire/internal/wire.LawS5507CRoundTrip", spec := "lawS5507CRoundTrip", named := ["encoding/binary.BigEndian", "example.com/orderwire/orderwire/internal/wire.ErrMalformed"], ifaces := true, apart := false, laid := [("example.com/orderwire/orderwire/internal/wire.ErrMalformed", laid_example_com_orderwire_orderwire_internal_wire_ErrMalformed)] }
def LawS5507CRoundTripSaid : Prop := lawS5507CRoundTripRow.holds Ybad.pinned (OpenSpec.ofChange lawS5507CRoundTripSpec)

/-- ITS FALSE NEIGHBOUR: 'it returns false'. Refute it at one input. -/
def lawS5507CRoundTripWrong : ChangeSpec := { name := "lawS5507CRoundTrip", vars := ["example.com/orderwire/orderwire/internal/wire.ErrMalformed"], fn := fun _ => fun
  | [d1, d2, d3, d4, g1] => { results := [.lit (.bool false)], args := [d1, d2, d3, d4], vars := [g1] }
  | _ => none }
def LawS5507CRoundTripWrongFalsely : Prop := lawS5507CRoundTripRow.holds Ybad.pinned (OpenSpec.ofChange lawS5507CRoundTripWrong)

end Rows
end Go.Proofs.YbulkdjaiDoor
