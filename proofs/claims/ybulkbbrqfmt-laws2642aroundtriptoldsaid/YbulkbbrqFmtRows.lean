/-
  NARROWER THAN 'FOR EVERY INPUT', by the rows' own cells (each row's printed sentence says how): LawS2642ARoundTrip: maps, laid · LawS2642AAnyInput: maps, laid.
  DERIVED. THE GIVEN ROWS OF THIS SEAT. 2 by the template 'for every input the law returns true; each argument reads behind the call as it read before'; 0 by the template 'total and deterministic' (their statements: YbulkbbrqFmtTotals.lean).
  GIVEN WITH THE SEED: the statements are not yours to turn. If you find one false, say at which input.
  Laid BY PROGRAM, IN A SANDBOX (cutbox-rows.mjs): the forced cells as the released guide's own fill.sh prints them over the translation b6f053a1742e8a34… (all of the seat's roots in one cut). By AI agents, Wed Nov 11 2026. No macro, syntax, notation, axiom, sorry.
-/
import Derived.Test.YbulkbbrqFmtChecked
import GoSem.Claim
import GoSem.ClaimJoined
import GoSem.ClaimMapViews
import Derived.JoinedTies
import Derived.KernelRfl
namespace Go.Proofs.YbulkbbrqFmt
/- THE CELL 'sum', in the pinned program and in every row, IS THE sha256 OF THE DUMP (.gsa) THAT YbulkbbrqFmtProg.lean LOADS. Nothing in Lean hashes anything: it is a label: what it is worth is what the hold of that sum in a sandbox is worth. -/
noncomputable def Ybaf.pinned : Pinned := { name := "ybulkbbrqfmt", sum := "b6f053a1742e8a34c591cef01f8ea9c7b26aa0333971858cd82f92af4e0f7280", checked := Ybaf.checked }
namespace Rows
def none {H : Type} : Left H := { results := [], args := [] }

/- WHAT THE LISTED PACKAGE-LEVEL VARIABLES READ AS WHEN THE CALL BEGINS. Each datum BY PROGRAM (the guide's laid-datum.mjs) off the statement by which the dump's own 'gosem.cut.vars' lays the variable. In a bare row this is a premise. The card (YbulkbbrqFmtCards.lean) ties it to the program's text. -/
def laid_example_com_nibblewire_nibblewire_elementLengths {H : Type} : DataW H := .map [(.int .u8 0, .lit (.int .i64 3)), (.int .u8 4, .lit (.int .i64 2)), (.int .u8 5, .lit (.int .i64 4)), (.int .u8 8, .lit (.int .i64 4))]

/-- 'nibblewire.LawS2642ARoundTrip': WHATEVER THE INPUT: true; the input reads as it did. -/
def lawS2642ARoundTripSpec : ChangeSpec := { name := "lawS2642ARoundTrip", vars := ["example.com/nibblewire/nibblewire.elementLengths"], fn := fun _ => fun
  | [d1, d2, d3, g1] => { results := [.lit (.bool true)], args := [d1, d2, d3], vars := [g1] }
  | _ => none }
def lawS2642ARoundTripRow : OpenClaim := { program := "ybulkbbrqfmt", sum := "b6f053a1742e8a34c591cef01f8ea9c7b26aa0333971858cd82f92af4e0f7280", func := "example.com/nibblewire/nibblewire.LawS2642ARoundTrip", spec := "lawS2642ARoundTrip", stops := ["fmt.Sprintf, its operands' methods called"], inPlace := ["fmt.Sprintf"], unfollowed := true, recurses := true, named := ["example.com/nibblewire/nibblewire.elementLengths"], maps := true, apart := false, laid := [("example.com/nibblewire/nibblewire.elementLengths", laid_example_com_nibblewire_nibblewire_elementLengths)] }
/-- NO THEOREM (fmt's text is open here; it may be false): for the released tool's asking of the row's closed facts alone. THE STATEMENT IS 'LawS2642ARoundTripToldSaid' (YbulkbbrqFmtCards.lean). -/
def LawS2642ARoundTripFormAsk : Prop := lawS2642ARoundTripRow.holds Ybaf.pinned (OpenSpec.ofChange lawS2642ARoundTripSpec)

/-- ITS FALSE NEIGHBOUR: 'it returns false'. Refute it at one input. -/
def lawS2642ARoundTripWrong : ChangeSpec := { name := "lawS2642ARoundTrip", vars := ["example.com/nibblewire/nibblewire.elementLengths"], fn := fun _ => fun
  | [d1, d2, d3, g1] => { results := [.lit (.bool false)], args := [d1, d2, d3], vars := [g1] }
  | _ => none }
def LawS2642ARoundTripWrongFormAsk : Prop := lawS2642ARoundTripRow.holds Ybaf.pinned (OpenSpec.ofChange lawS2642ARoundTripWrong)

/-- 'nibblewire.LawS2642AAnyInput': WHATEVER THE INPUT: true; the input reads as it did. -/
def lawS2642AAnyInputSpec : ChangeSpec := { name := "lawS2642AAnyInput", vars := ["example.com/nibblewire/nibblewire.elementLengths"], fn := fun _ => fun
  | [d, g1] => { results := [.lit (.bool true)], args := [d], vars := [g1] }
  | _ => none }
def lawS2642AAnyInputRow : OpenClaim := { program := "ybulkbbrqfmt", sum := "b6f053a1742e8a34c591cef01f8ea9c7b26aa0333971858cd82f92af4e0f7280", func := "example.com/nibblewire/nibblewire.LawS2642AAnyInput", spec := "lawS2642AAnyInput", stops := ["fmt.Sprintf, its operands' methods called"], inPlace := ["fmt.Sprintf"], unfollowed := true, recurses := true, named := ["example.com/nibblewire/nibblewire.elementLengths"], maps := true, apart := false, laid := [("example.com/nibblewire/nibblewire.elementLengths", laid_example_com_nibblewire_nibblewire_elementLengths)] }
/-- NO THEOREM (fmt's text is open here; it may be false): for the released tool's asking of the row's closed facts alone. THE STATEMENT IS 'LawS2642AAnyInputToldSaid' (YbulkbbrqFmtCards.lean). -/
def LawS2642AAnyInputFormAsk : Prop := lawS2642AAnyInputRow.holds Ybaf.pinned (OpenSpec.ofChange lawS2642AAnyInputSpec)

/-- ITS FALSE NEIGHBOUR: 'it returns false'. Refute it at one input. -/
def lawS2642AAnyInputWrong : ChangeSpec := { name := "lawS2642AAnyInput", vars := ["example.com/nibblewire/nibblewire.elementLengths"], fn := fun _ => fun
  | [d, g1] => { results := [.lit (.bool false)], args := [d], vars := [g1] }
  | _ => none }
def LawS2642AAnyInputWrongFormAsk : Prop := lawS2642AAnyInputRow.holds Ybaf.pinned (OpenSpec.ofChange lawS2642AAnyInputWrong)

end Rows
end Go.Proofs.YbulkbbrqFmt
