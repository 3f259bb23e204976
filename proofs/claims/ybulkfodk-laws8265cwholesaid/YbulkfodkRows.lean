/-
  No cell of these rows narrows 'for every input' (looked for: loops, veiled, ifaces, maps, wideKeys, modest, calm, conditions, laid).
  DERIVED. THE GIVEN ROWS OF THIS SEAT. 1 by the template 'for every input the law returns true; each argument reads behind the call as it read before'; 0 by the template 'total and deterministic' (their statements: YbulkfodkTotals.lean).
  GIVEN WITH THE SEED: the statements are not yours to turn. If you find one false, say at which input.
  Laid BY PROGRAM, IN A SANDBOX (cutbox-rows.mjs): the forced cells as the released guide's own fill.sh prints them over the translation e530d3f2cda04873… (all of the seat's roots in one cut). By AI agents, Wed Nov 11 2026. No macro, syntax, notation, axiom, sorry.
-/
import Derived.Test.YbulkfodkChecked
import GoSem.Claim
import GoSem.ClaimJoined
import GoSem.ClaimMapViews
import Derived.JoinedTies
import Derived.KernelRfl
namespace Go.Proofs.Ybulkfodk
/- THE CELL 'sum', in the pinned program and in every row, IS THE sha256 OF THE DUMP (.gsa) THAT YbulkfodkProg.lean LOADS. Nothing in Lean hashes anything: it is a label: what it is worth is what the hold of that sum in a sandbox is worth. -/
noncomputable def Yba.pinned : Pinned := { name := "ybulkfodk", sum := "e530d3f2cda0487341695eeff75158cdbe5e1c7ced87988899fb346e2a8b1b62", checked := Yba.checked }
namespace Rows
def none {H : Type} : Left H := { results := [], args := [] }

/-- 'forbear.LawS8265CWhole': WHATEVER THE INPUT: true; the input reads as it did. -/
def lawS8265CWholeSpec : ChangeSpec := { name := "lawS8265CWhole", fn := fun _ => fun
  | [d1, d2, d3, d4, d5] => { results := [.lit (.bool true)], args := [d1, d2, d3, d4, d5] }
  | _ => none }
def lawS8265CWholeRow : OpenClaim := { program := "ybulkfodk", sum := "e530d3f2cda0487341695eeff75158cdbe5e1c7ced87988899fb346e2a8b1b62", func := "example.com/forbear/forbear.LawS8265CWhole", spec := "lawS8265CWhole", apart := false }
def LawS8265CWholeSaid : Prop := lawS8265CWholeRow.holds Yba.pinned (OpenSpec.ofChange lawS8265CWholeSpec)

/-- ITS FALSE NEIGHBOUR: 'it returns false'. Refute it at one input. -/
def lawS8265CWholeWrong : ChangeSpec := { name := "lawS8265CWhole", fn := fun _ => fun
  | [d1, d2, d3, d4, d5] => { results := [.lit (.bool false)], args := [d1, d2, d3, d4, d5] }
  | _ => none }
def LawS8265CWholeWrongFalsely : Prop := lawS8265CWholeRow.holds Yba.pinned (OpenSpec.ofChange lawS8265CWholeWrong)

end Rows
end Go.Proofs.Ybulkfodk
