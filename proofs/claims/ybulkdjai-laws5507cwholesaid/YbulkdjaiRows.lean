/-
  No cell of these rows narrows 'for every input' (looked for: loops, veiled, ifaces, maps, wideKeys, modest, calm, conditions, laid).
  DERIVED. THE GIVEN ROWS OF THIS SEAT. 1 by the template 'for every input the law returns true; each argument reads behind the call as it read before'; 0 by the template 'total and deterministic' (their statements: YbulkdjaiTotals.lean).
  GIVEN WITH THE SEED: the statements are not yours to turn. If you find one false, say at which input.
  Laid BY PROGRAM, IN A SANDBOX (cutbox-rows.mjs): the forced cells as the released guide's own fill.sh prints them over the translation c3c116ef6026a683… (all of the seat's roots in one cut). By AI agents, Wed Nov 11 2026. No macro, syntax, notation, axiom, sorry.
-/
import Derived.Test.YbulkdjaiChecked
import GoSem.Claim
import GoSem.ClaimJoined
import GoSem.ClaimMapViews
import Derived.JoinedTies
import Derived.KernelRfl
namespace Go.Proofs.Ybulkdjai
/- THE CELL 'sum', in the pinned program and in every row, IS THE sha256 OF THE DUMP (.gsa) THAT YbulkdjaiProg.lean LOADS. Nothing in Lean hashes anything: it is a label: what it is worth is what the hold of that sum in a sandbox is worth. -/
noncomputable def Yba.pinned : Pinned := { name := "ybulkdjai", sum := "c3c116ef6026a683ed0c00030229d299969c6f356d27802d2a41833c1af9344d", checked := Yba.checked }
namespace Rows
def none {H : Type} : Left H := { results := [], args := [] }

/-- 'wire.LawS5507CWhole': WHATEVER THE INPUT: true; the input reads as it did. -/
def lawS5507CWholeSpec : ChangeSpec := { name := "lawS5507CWhole", fn := fun _ => fun
  | [d1, d2, d3, d4, d5] => { results := [.lit (.bool true)], args := [d1, d2, d3, d4, d5] }
  | _ => none }
def lawS5507CWholeRow : OpenClaim := { program := "ybulkdjai", sum := "c3c116ef6026a683ed0c00030229d299969c6f356d27802d2a41833c1af9344d", func := "example.com/orderwire/orderwire/internal/wire.LawS5507CWhole", spec := "lawS5507CWhole", named := ["encoding/binary.BigEndian"], apart := false }
def LawS5507CWholeSaid : Prop := lawS5507CWholeRow.holds Yba.pinned (OpenSpec.ofChange lawS5507CWholeSpec)

/-- ITS FALSE NEIGHBOUR: 'it returns false'. Refute it at one input. -/
def lawS5507CWholeWrong : ChangeSpec := { name := "lawS5507CWhole", fn := fun _ => fun
  | [d1, d2, d3, d4, d5] => { results := [.lit (.bool false)], args := [d1, d2, d3, d4, d5] }
  | _ => none }
def LawS5507CWholeWrongFalsely : Prop := lawS5507CWholeRow.holds Yba.pinned (OpenSpec.ofChange lawS5507CWholeWrong)

end Rows
end Go.Proofs.Ybulkdjai
