/-
  DERIVED. GIVEN WITH THE SEED: THE CARDS: each row of YbulkfodyFmtRows.lean that lists a variable, with what it lists TIED to the program's text (the seventh form; the later family's looks); each row that meets fmt, with fmt's text TOLD by the authors' own Lean function (tested against real Go, not proved from fmt's source: count such statements apart). THE CARD IS WHAT COUNTS. Prove the row's statement (the work); the ties are given (YbulkfodyFmtTie.lean); close each card by the builder's one call (the guide's Derived/Test/ToyasCard.lean, 'card_holds'). Laid BY PROGRAM, IN A SANDBOX (cutbox-door.mjs). By AI agents, Wed Nov 11 2026. No macro, syntax, notation, axiom, sorry.
-/
import Derived.Test.YbulkfodyFmtRows
import GoSem.ClaimSeven
namespace Go.Proofs.YbulkfodyFmt
namespace Rows

/-- THE TOLD AND TIED CARD OF 'xpath.LawS8266AWhole'. -/
def lawS8266AWholeCard : Claim7 := { stood := { row := lawS8266AWholeRow, standIns := [], harness := (true, "1bf6d367d7b622b8928f8fe2ba85c79a3248a8524fa2b4fbfa763f143482717e"), looks := true }, told := true, laidByText := true, laidKinds := [.data, .data, .pinned], laidTests := true, laidLooks := .later, goes := false }
def LawS8266AWholeToldSaid : Prop := Claim7.holds Ybaf.pinned (.plain (OpenSpec.ofChange lawS8266AWholeSpec)) lawS8266AWholeCard
/-- ITS FALSE NEIGHBOUR. Refute it at one input. -/
def LawS8266AWholeToldWrongFalsely : Prop := Claim7.holds Ybaf.pinned (.plain (OpenSpec.ofChange lawS8266AWholeWrong)) lawS8266AWholeCard

/-- THE TOLD CARD OF 'access-policy-engine.LawS8266CWhole'. -/
def lawS8266CWholeCard : Claim7 := { stood := { row := lawS8266CWholeRow, standIns := [], harness := (true, "1bf6d367d7b622b8928f8fe2ba85c79a3248a8524fa2b4fbfa763f143482717e"), looks := true }, told := true, goes := false }
def LawS8266CWholeToldSaid : Prop := Claim7.holds Ybaf.pinned (.plain (OpenSpec.ofChange lawS8266CWholeSpec)) lawS8266CWholeCard
/-- ITS FALSE NEIGHBOUR. Refute it at one input. -/
def LawS8266CWholeToldWrongFalsely : Prop := Claim7.holds Ybaf.pinned (.plain (OpenSpec.ofChange lawS8266CWholeWrong)) lawS8266CWholeCard
end Rows
end Go.Proofs.YbulkfodyFmt
