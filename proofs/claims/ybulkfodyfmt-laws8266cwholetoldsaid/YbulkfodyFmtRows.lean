/-
  NARROWER THAN 'FOR EVERY INPUT', by the rows' own cells (each row's printed sentence says how): LawS8266AWhole: laid.
  DERIVED. THE GIVEN ROWS OF THIS SEAT. 2 by the template 'for every input the law returns true; each argument reads behind the call as it read before'; 0 by the template 'total and deterministic' (their statements: YbulkfodyFmtTotals.lean).
  GIVEN WITH THE SEED: the statements are not yours to turn. If you find one false, say at which input.
  Laid BY PROGRAM, IN A SANDBOX (cutbox-rows.mjs): the forced cells as the released guide's own fill.sh prints them over the translation 84aae0aca7b93235… (all of the seat's roots in one cut). By AI agents, Wed Nov 11 2026. No macro, syntax, notation, axiom, sorry.
-/
import Derived.Test.YbulkfodyFmtChecked
import GoSem.PinnedTables
import GoSem.Claim
import GoSem.ClaimJoined
import GoSem.ClaimMapViews
import Derived.JoinedTies
import Derived.KernelRfl
namespace Go.Proofs.YbulkfodyFmt
/- THE CELL 'sum', in the pinned program and in every row, IS THE sha256 OF THE DUMP (.gsa) THAT YbulkfodyFmtProg.lean LOADS. Nothing in Lean hashes anything: it is a label: what it is worth is what the hold of that sum in a sandbox is worth. -/
noncomputable def Ybaf.pinned : Pinned := { name := "ybulkfodyfmt", sum := "84aae0aca7b93235546cde3a61393c96cdd5bc8471659d9da55b642d0411fcfb", checked := Ybaf.checked }
namespace Rows
def none {H : Type} : Left H := { results := [], args := [] }

/- WHAT THE LISTED PACKAGE-LEVEL VARIABLES READ AS WHEN THE CALL BEGINS. Each datum BY PROGRAM (the guide's laid-datum.mjs) off the statement by which the dump's own 'gosem.cut.vars' lays the variable. In a bare row this is a premise. The card (YbulkfodyFmtCards.lean) ties it to the program's text. -/
def laid_unicode_utf8_acceptRanges {H : Type} : DataW H := .agg [.agg [.lit (.int .u8 128), .lit (.int .u8 191)], .agg [.lit (.int .u8 160), .lit (.int .u8 191)], .agg [.lit (.int .u8 128), .lit (.int .u8 159)], .agg [.lit (.int .u8 144), .lit (.int .u8 191)], .agg [.lit (.int .u8 128), .lit (.int .u8 143)], .agg [.lit (.int .u8 0), .lit (.int .u8 0)], .agg [.lit (.int .u8 0), .lit (.int .u8 0)], .agg [.lit (.int .u8 0), .lit (.int .u8 0)], .agg [.lit (.int .u8 0), .lit (.int .u8 0)], .agg [.lit (.int .u8 0), .lit (.int .u8 0)], .agg [.lit (.int .u8 0), .lit (.int .u8 0)], .agg [.lit (.int .u8 0), .lit (.int .u8 0)], .agg [.lit (.int .u8 0), .lit (.int .u8 0)], .agg [.lit (.int .u8 0), .lit (.int .u8 0)], .agg [.lit (.int .u8 0), .lit (.int .u8 0)], .agg [.lit (.int .u8 0), .lit (.int .u8 0)]]
def laid_example_com_access_policy_engine_access_policy_engine_internal_xpath_xmlLang {H : Type} : DataW H := .agg [.lit (.string [104, 116, 116, 112, 58, 47, 47, 119, 119, 119, 46, 119, 51, 46, 111, 114, 103, 47, 88, 77, 76, 47, 49, 57, 57, 56, 47, 110, 97, 109, 101, 115, 112, 97, 99, 101]), .lit (.string [108, 97, 110, 103])]
/-- One of Go's own tables, pinned by name: the form's constant. -/
def laid_unicode_utf8_first : DataW Unit := Go.Pinned.utf8First

/-- 'xpath.LawS8266AWhole': WHATEVER THE INPUT: true; the input reads as it did. -/
def lawS8266AWholeSpec : ChangeSpec := { name := "lawS8266AWhole", vars := ["example.com/access-policy-engine/access-policy-engine/internal/xpath.xmlLang"], fn := fun _ => fun
  | [d1, d2, d3, g1] => { results := [.lit (.bool true)], args := [d1, d2, d3], vars := [g1] }
  | _ => none }
def lawS8266AWholeRow : OpenClaim := { program := "ybulkfodyfmt", sum := "84aae0aca7b93235546cde3a61393c96cdd5bc8471659d9da55b642d0411fcfb", func := "example.com/access-policy-engine/access-policy-engine/internal/xpath.LawS8266AWhole", spec := "lawS8266AWhole", stops := ["fmt.errorf"], inPlace := ["fmt.errorf", "internal/abi.NoEscape", "internal/bytealg.MakeNoZero"], unfollowed := true, recurses := true, named := ["example.com/access-policy-engine/access-policy-engine/internal/xpath.xmlLang", "unicode/utf8.first", "unicode/utf8.acceptRanges", "unicode.CaseRanges"], plainKeys := false, apart := false, laid := [("unicode/utf8.acceptRanges", laid_unicode_utf8_acceptRanges), ("example.com/access-policy-engine/access-policy-engine/internal/xpath.xmlLang", laid_example_com_access_policy_engine_access_policy_engine_internal_xpath_xmlLang), ("unicode/utf8.first", laid_unicode_utf8_first)] }
/-- NO THEOREM (fmt's text is open here; it may be false): for the released tool's asking of the row's closed facts alone. THE STATEMENT IS 'LawS8266AWholeToldSaid' (YbulkfodyFmtCards.lean). -/
def LawS8266AWholeFormAsk : Prop := lawS8266AWholeRow.holds Ybaf.pinned (OpenSpec.ofChange lawS8266AWholeSpec)

/-- ITS FALSE NEIGHBOUR: 'it returns false'. Refute it at one input. -/
def lawS8266AWholeWrong : ChangeSpec := { name := "lawS8266AWhole", vars := ["example.com/access-policy-engine/access-policy-engine/internal/xpath.xmlLang"], fn := fun _ => fun
  | [d1, d2, d3, g1] => { results := [.lit (.bool false)], args := [d1, d2, d3], vars := [g1] }
  | _ => none }
def LawS8266AWholeWrongFormAsk : Prop := lawS8266AWholeRow.holds Ybaf.pinned (OpenSpec.ofChange lawS8266AWholeWrong)

/-- 'access-policy-engine.LawS8266CWhole': WHATEVER THE INPUT: true; the input reads as it did. -/
def lawS8266CWholeSpec : ChangeSpec := { name := "lawS8266CWhole", fn := fun _ => fun
  | [d1, d2, d3] => { results := [.lit (.bool true)], args := [d1, d2, d3] }
  | _ => none }
def lawS8266CWholeRow : OpenClaim := { program := "ybulkfodyfmt", sum := "84aae0aca7b93235546cde3a61393c96cdd5bc8471659d9da55b642d0411fcfb", func := "example.com/access-policy-engine/access-policy-engine.LawS8266CWhole", spec := "lawS8266CWhole", stops := ["fmt.errorf"], inPlace := ["fmt.errorf"], plainKeys := false, apart := false }
/-- NO THEOREM (fmt's text is open here; it may be false): for the released tool's asking of the row's closed facts alone. THE STATEMENT IS 'LawS8266CWholeToldSaid' (YbulkfodyFmtCards.lean). -/
def LawS8266CWholeFormAsk : Prop := lawS8266CWholeRow.holds Ybaf.pinned (OpenSpec.ofChange lawS8266CWholeSpec)

/-- ITS FALSE NEIGHBOUR: 'it returns false'. Refute it at one input. -/
def lawS8266CWholeWrong : ChangeSpec := { name := "lawS8266CWhole", fn := fun _ => fun
  | [d1, d2, d3] => { results := [.lit (.bool false)], args := [d1, d2, d3] }
  | _ => none }
def LawS8266CWholeWrongFormAsk : Prop := lawS8266CWholeRow.holds Ybaf.pinned (OpenSpec.ofChange lawS8266CWholeWrong)

end Rows
end Go.Proofs.YbulkfodyFmt
