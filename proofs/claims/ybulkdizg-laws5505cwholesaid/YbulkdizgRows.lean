/-
  No cell of these rows narrows 'for every input' (looked for: loops, veiled, ifaces, maps, wideKeys, modest, calm, conditions, laid).
  DERIVED. THE GIVEN ROWS OF THIS SEAT. 2 by the template 'for every input the law returns true; each argument reads behind the call as it read before'; 0 by the template 'total and deterministic' (their statements: YbulkdizgTotals.lean).
  GIVEN WITH THE SEED: the statements are not yours to turn. If you find one false, say at which input.
  Laid BY PROGRAM, IN A SANDBOX (cutbox-rows.mjs): the forced cells as the released guide's own fill.sh prints them over the translation ad29556d4c06fae9… (all of the seat's roots in one cut). By AI agents, Wed Nov 11 2026. No macro, syntax, notation, axiom, sorry.
-/
import Derived.Test.YbulkdizgChecked
import GoSem.Claim
import GoSem.ClaimJoined
import GoSem.ClaimMapViews
import Derived.JoinedTies
import Derived.KernelRfl
namespace Go.Proofs.Ybulkdizg
/- THE CELL 'sum', in the pinned program and in every row, IS THE sha256 OF THE DUMP (.gsa) THAT YbulkdizgProg.lean LOADS. Nothing in Lean hashes anything: it is a label: what it is worth is what the hold of that sum in a sandbox is worth. -/
noncomputable def Yba.pinned : Pinned := { name := "ybulkdizg", sum := "ad29556d4c06fae90b04a40651a2542d6964f4a62df6e5541047f1d341e7e8af", checked := Yba.checked }
namespace Rows
def none {H : Type} : Left H := { results := [], args := [] }

/-- 'ravelin.LawS5505AWhole': WHATEVER THE INPUT: true; the input reads as it did. -/
def lawS5505AWholeSpec : ChangeSpec := { name := "lawS5505AWhole", fn := fun _ => fun
  | [d1, d2, d3] => { results := [.lit (.bool true)], args := [d1, d2, d3] }
  | _ => none }
def lawS5505AWholeRow : OpenClaim := { program := "ybulkdizg", sum := "ad29556d4c06fae90b04a40651a2542d6964f4a62df6e5541047f1d341e7e8af", func := "example.com/ravelin/ravelin.LawS5505AWhole", spec := "lawS5505AWhole", apart := false }
def LawS5505AWholeSaid : Prop := lawS5505AWholeRow.holds Yba.pinned (OpenSpec.ofChange lawS5505AWholeSpec)

/-- ITS FALSE NEIGHBOUR: 'it returns false'. Refute it at one input. -/
def lawS5505AWholeWrong : ChangeSpec := { name := "lawS5505AWhole", fn := fun _ => fun
  | [d1, d2, d3] => { results := [.lit (.bool false)], args := [d1, d2, d3] }
  | _ => none }
def LawS5505AWholeWrongFalsely : Prop := lawS5505AWholeRow.holds Yba.pinned (OpenSpec.ofChange lawS5505AWholeWrong)

/-- 'ravelin.LawS5505CWhole': WHATEVER THE INPUT: true; the input reads as it did. -/
def lawS5505CWholeSpec : ChangeSpec := { name := "lawS5505CWhole", fn := fun _ => fun
  | [d1, d2, d3, d4] => { results := [.lit (.bool true)], args := [d1, d2, d3, d4] }
  | _ => none }
def lawS5505CWholeRow : OpenClaim := { program := "ybulkdizg", sum := "ad29556d4c06fae90b04a40651a2542d6964f4a62df6e5541047f1d341e7e8af", func := "example.com/ravelin/ravelin.LawS5505CWhole", spec := "lawS5505CWhole", named := ["encoding/binary.LittleEndian"], apart := false }
def LawS5505CWholeSaid : Prop := lawS5505CWholeRow.holds Yba.pinned (OpenSpec.ofChange lawS5505CWholeSpec)

/-- ITS FALSE NEIGHBOUR: 'it returns false'. Refute it at one input. -/
def lawS5505CWholeWrong : ChangeSpec := { name := "lawS5505CWhole", fn := fun _ => fun
  | [d1, d2, d3, d4] => { results := [.lit (.bool false)], args := [d1, d2, d3, d4] }
  | _ => none }
def LawS5505CWholeWrongFalsely : Prop := lawS5505CWholeRow.holds Yba.pinned (OpenSpec.ofChange lawS5505CWholeWrong)

end Rows
end Go.Proofs.Ybulkdizg
