/-
  No cell of these rows narrows 'for every input' (looked for: loops, veiled, ifaces, maps, wideKeys, modest, calm, conditions, laid).
  DERIVED. THE GIVEN ROWS OF THIS SEAT. 1 by the template 'for every input the law returns true; each argument reads behind the call as it read before'; 0 by the template 'total and deterministic' (their statements: YbulkdiysTotals.lean).
  GIVEN WITH THE SEED: the statements are not yours to turn. If you find one false, say at which input.
  Laid BY PROGRAM, IN A SANDBOX (cutbox-rows.mjs): the forced cells as the released guide's own fill.sh prints them over the translation 53d27b8645bad66f… (all of the seat's roots in one cut). By AI agents, Wed Nov 11 2026. No macro, syntax, notation, axiom, sorry.
-/
import Derived.Test.YbulkdiysChecked
import GoSem.Claim
import GoSem.ClaimJoined
import GoSem.ClaimMapViews
import Derived.JoinedTies
import Derived.KernelRfl
namespace Go.Proofs.Ybulkdiys
/- THE CELL 'sum', in the pinned program and in every row, IS THE sha256 OF THE DUMP (.gsa) THAT YbulkdiysProg.lean LOADS. Nothing in Lean hashes anything: it is a label: what it is worth is what the hold of that sum in a sandbox is worth. -/
noncomputable def Yba.pinned : Pinned := { name := "ybulkdiys", sum := "53d27b8645bad66fce1a56ba88e0543a8f5b802810de9f503c8a71202f7fccde", checked := Yba.checked }
namespace Rows
def none {H : Type} : Left H := { results := [], args := [] }

/-- 'lockcurve.LawS5504CWhole': WHATEVER THE INPUT: true; the input reads as it did. -/
def lawS5504CWholeSpec : ChangeSpec := { name := "lawS5504CWhole", fn := fun _ => fun
  | [d1, d2, d3, d4] => { results := [.lit (.bool true)], args := [d1, d2, d3, d4] }
  | _ => none }
def lawS5504CWholeRow : OpenClaim := { program := "ybulkdiys", sum := "53d27b8645bad66fce1a56ba88e0543a8f5b802810de9f503c8a71202f7fccde", func := "example.com/lockcurve/lockcurve.LawS5504CWhole", spec := "lawS5504CWhole", inPlace := ["math/bits.Add64"], apart := false }
def LawS5504CWholeSaid : Prop := lawS5504CWholeRow.holds Yba.pinned (OpenSpec.ofChange lawS5504CWholeSpec)

/-- ITS FALSE NEIGHBOUR: 'it returns false'. Refute it at one input. -/
def lawS5504CWholeWrong : ChangeSpec := { name := "lawS5504CWhole", fn := fun _ => fun
  | [d1, d2, d3, d4] => { results := [.lit (.bool false)], args := [d1, d2, d3, d4] }
  | _ => none }
def LawS5504CWholeWrongFalsely : Prop := lawS5504CWholeRow.holds Yba.pinned (OpenSpec.ofChange lawS5504CWholeWrong)

end Rows
end Go.Proofs.Ybulkdiys
