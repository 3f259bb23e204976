/-
  No cell of these rows narrows 'for every input' (looked for: loops, veiled, ifaces, maps, wideKeys, modest, calm, conditions, laid).
  DERIVED. THE GIVEN ROWS OF THIS SEAT. 1 by the template 'for every input the law returns true; each argument reads behind the call as it read before'; 0 by the template 'total and deterministic' (their statements: YbulkfocwTotals.lean).
  GIVEN WITH THE SEED: the statements are not yours to turn. If you find one false, say at which input.
  Laid BY PROGRAM, IN A SANDBOX (cutbox-rows.mjs): the forced cells as the released guide's own fill.sh prints them over the translation f2b082cf447b5d81… (all of the seat's roots in one cut). By AI agents, Wed Nov 11 2026. No macro, syntax, notation, axiom, sorry.
-/
import Derived.Test.YbulkfocwChecked
import GoSem.Claim
import GoSem.ClaimJoined
import GoSem.ClaimMapViews
import Derived.JoinedTies
import Derived.KernelRfl
namespace Go.Proofs.Ybulkfocw
/- THE CELL 'sum', in the pinned program and in every row, IS THE sha256 OF THE DUMP (.gsa) THAT YbulkfocwProg.lean LOADS. Nothing in Lean hashes anything: it is a label: what it is worth is what the hold of that sum in a sandbox is worth. -/
noncomputable def Yba.pinned : Pinned := { name := "ybulkfocw", sum := "f2b082cf447b5d813ca29b8657f2f4facee375736dd39fb438d160aa50ec86ec", checked := Yba.checked }
namespace Rows
def none {H : Type} : Left H := { results := [], args := [] }

/-- 'stateward.LawS8264AWhole': WHATEVER THE INPUT: true; the input reads as it did. -/
def lawS8264AWholeSpec : ChangeSpec := { name := "lawS8264AWhole", fn := fun _ => fun
  | [d1, d2] => { results := [.lit (.bool true)], args := [d1, d2] }
  | _ => none }
def lawS8264AWholeRow : OpenClaim := { program := "ybulkfocw", sum := "f2b082cf447b5d813ca29b8657f2f4facee375736dd39fb438d160aa50ec86ec", func := "example.com/stateward/stateward.LawS8264AWhole", spec := "lawS8264AWhole", apart := false }
def LawS8264AWholeSaid : Prop := lawS8264AWholeRow.holds Yba.pinned (OpenSpec.ofChange lawS8264AWholeSpec)

/-- ITS FALSE NEIGHBOUR: 'it returns false'. Refute it at one input. -/
def lawS8264AWholeWrong : ChangeSpec := { name := "lawS8264AWhole", fn := fun _ => fun
  | [d1, d2] => { results := [.lit (.bool false)], args := [d1, d2] }
  | _ => none }
def LawS8264AWholeWrongFalsely : Prop := lawS8264AWholeRow.holds Yba.pinned (OpenSpec.ofChange lawS8264AWholeWrong)

end Rows
end Go.Proofs.Ybulkfocw
