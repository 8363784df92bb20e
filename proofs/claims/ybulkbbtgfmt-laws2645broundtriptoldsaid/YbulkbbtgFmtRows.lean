/-
  No cell of these rows narrows 'for every input' (looked for: loops, veiled, ifaces, maps, wideKeys, modest, calm, conditions, laid).
  DERIVED. THE GIVEN ROWS OF THIS SEAT. 1 by the template 'for every input the law returns true; each argument reads behind the call as it read before'; 0 by the template 'total and deterministic' (their statements: YbulkbbtgFmtTotals.lean).
  GIVEN WITH THE SEED: the statements are not yours to turn. If you find one false, say at which input.
  Laid BY PROGRAM, IN A SANDBOX (cutbox-rows.mjs): the forced cells as the released guide's own fill.sh prints them over the translation 871f9a377ed0b15e… (all of the seat's roots in one cut). By AI agents, Wed Nov 11 2026. No macro, syntax, notation, axiom, sorry.
-/
import Derived.Test.YbulkbbtgFmtChecked
import GoSem.Claim
import GoSem.ClaimJoined
import GoSem.ClaimMapViews
import Derived.JoinedTies
import Derived.KernelRfl
namespace Go.Proofs.YbulkbbtgFmt
/- THE CELL 'sum', in the pinned program and in every row, IS THE sha256 OF THE DUMP (.gsa) THAT YbulkbbtgFmtProg.lean LOADS. Nothing in Lean hashes anything: it is a label: what it is worth is what the hold of that sum in a sandbox is worth. -/
noncomputable def Ybaf.pinned : Pinned := { name := "ybulkbbtgfmt", sum := "871f9a377ed0b15e1c59115a78461c398de0c4d99beb746466f6c5b25cce5258", checked := Ybaf.checked }
namespace Rows
def none {H : Type} : Left H := { results := [], args := [] }

/-- 'stirrup.LawS2645BRoundTrip': WHATEVER THE INPUT: true; the input reads as it did. -/
def lawS2645BRoundTripSpec : ChangeSpec := { name := "lawS2645BRoundTrip", fn := fun _ => fun
  | [d1, d2] => { results := [.lit (.bool true)], args := [d1, d2] }
  | _ => none }
def lawS2645BRoundTripRow : OpenClaim := { program := "ybulkbbtgfmt", sum := "871f9a377ed0b15e1c59115a78461c398de0c4d99beb746466f6c5b25cce5258", func := "example.com/stirrup/stirrup.LawS2645BRoundTrip", spec := "lawS2645BRoundTrip", stops := ["fmt.errorf", "fmt.Sprintf, its operands' methods called", "fmt.Sprint"], inPlace := ["fmt.Sprintf", "fmt.Sprint", "fmt.errorf"], unfollowed := true, recurses := true, apart := false }
/-- NO THEOREM (fmt's text is open here; it may be false): for the released tool's asking of the row's closed facts alone. THE STATEMENT IS 'LawS2645BRoundTripToldSaid' (YbulkbbtgFmtCards.lean). -/
def LawS2645BRoundTripFormAsk : Prop := lawS2645BRoundTripRow.holds Ybaf.pinned (OpenSpec.ofChange lawS2645BRoundTripSpec)

/-- ITS FALSE NEIGHBOUR: 'it returns false'. Refute it at one input. -/
def lawS2645BRoundTripWrong : ChangeSpec := { name := "lawS2645BRoundTrip", fn := fun _ => fun
  | [d1, d2] => { results := [.lit (.bool false)], args := [d1, d2] }
  | _ => none }
def LawS2645BRoundTripWrongFormAsk : Prop := lawS2645BRoundTripRow.holds Ybaf.pinned (OpenSpec.ofChange lawS2645BRoundTripWrong)

end Rows
end Go.Proofs.YbulkbbtgFmt
