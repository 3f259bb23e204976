/-
  No cell of these rows narrows 'for every input' (looked for: loops, veiled, ifaces, maps, wideKeys, modest, calm, conditions, laid).
  DERIVED. THE GIVEN ROWS OF THIS SEAT. 1 by the template 'for every input the law returns true; each argument reads behind the call as it read before'; 0 by the template 'total and deterministic' (their statements: YbulkfnugTotals.lean).
  GIVEN WITH THE SEED: the statements are not yours to turn. If you find one false, say at which input.
  Laid BY PROGRAM, IN A SANDBOX (cutbox-rows.mjs): the forced cells as the released guide's own fill.sh prints them over the translation 6ce84650dc707f59… (all of the seat's roots in one cut). By AI agents, Wed Nov 11 2026. No macro, syntax, notation, axiom, sorry.
-/
import Derived.Test.YbulkfnugChecked
import GoSem.Claim
import GoSem.ClaimJoined
import GoSem.ClaimMapViews
import Derived.JoinedTies
import Derived.KernelRfl
namespace Go.Proofs.Ybulkfnug
/- THE CELL 'sum', in the pinned program and in every row, IS THE sha256 OF THE DUMP (.gsa) THAT YbulkfnugProg.lean LOADS. Nothing in Lean hashes anything: it is a label: what it is worth is what the hold of that sum in a sandbox is worth. -/
noncomputable def Yba.pinned : Pinned := { name := "ybulkfnug", sum := "6ce84650dc707f59c158f55bce1c6120857cd5724ab61caa9f1904b0dac1ea02", checked := Yba.checked }
namespace Rows
def none {H : Type} : Left H := { results := [], args := [] }

/-- 'calendar.LawS8248AWhole': WHATEVER THE INPUT: true; the input reads as it did. -/
def lawS8248AWholeSpec : ChangeSpec := { name := "lawS8248AWhole", fn := fun _ => fun
  | [d1, d2, d3, d4, d5] => { results := [.lit (.bool true)], args := [d1, d2, d3, d4, d5] }
  | _ => none }
def lawS8248AWholeRow : OpenClaim := { program := "ybulkfnug", sum := "6ce84650dc707f59c158f55bce1c6120857cd5724ab61caa9f1904b0dac1ea02", func := "example.com/fanworm/fanworm/calendar.LawS8248AWhole", spec := "lawS8248AWhole", apart := false }
def LawS8248AWholeSaid : Prop := lawS8248AWholeRow.holds Yba.pinned (OpenSpec.ofChange lawS8248AWholeSpec)

/-- ITS FALSE NEIGHBOUR: 'it returns false'. Refute it at one input. -/
def lawS8248AWholeWrong : ChangeSpec := { name := "lawS8248AWhole", fn := fun _ => fun
  | [d1, d2, d3, d4, d5] => { results := [.lit (.bool false)], args := [d1, d2, d3, d4, d5] }
  | _ => none }
def LawS8248AWholeWrongFalsely : Prop := lawS8248AWholeRow.holds Yba.pinned (OpenSpec.ofChange lawS8248AWholeWrong)

end Rows
end Go.Proofs.Ybulkfnug
