/-
  No cell of these rows narrows 'for every input' (looked for: loops, veiled, ifaces, maps, wideKeys, modest, calm, conditions, laid).
  DERIVED. THE GIVEN ROWS OF THIS SEAT. 1 by the template 'for every input the law returns true; each argument reads behind the call as it read before'; 0 by the template 'total and deterministic' (their statements: YbulkbbtgTotals.lean).
  GIVEN WITH THE SEED: the statements are not yours to turn. If you find one false, say at which input.
  Laid BY PROGRAM, IN A SANDBOX (cutbox-rows.mjs): the forced cells as the released guide's own fill.sh prints them over the translation 9eff9755c3234548… (all of the seat's roots in one cut). By AI agents, Wed Nov 11 2026. No macro, syntax, notation, axiom, sorry.
-/
import Derived.Test.YbulkbbtgChecked
import GoSem.Claim
import GoSem.ClaimJoined
import GoSem.ClaimMapViews
import Derived.JoinedTies
import Derived.KernelRfl
namespace Go.Proofs.Ybulkbbtg
/- THE CELL 'sum', in the pinned program and in every row, IS THE sha256 OF THE DUMP (.gsa) THAT YbulkbbtgProg.lean LOADS. Nothing in Lean hashes anything: it is a label: what it is worth is what the hold of that sum in a sandbox is worth. -/
noncomputable def Yba.pinned : Pinned := { name := "ybulkbbtg", sum := "9eff9755c3234548f053a304c16f8a1b1095dfec2a7d88918a66071707741fb9", checked := Yba.checked }
namespace Rows
def none {H : Type} : Left H := { results := [], args := [] }

/-- 'stirrup.LawS2645BExact': WHATEVER THE INPUT: true; the input reads as it did. -/
def lawS2645BExactSpec : ChangeSpec := { name := "lawS2645BExact", fn := fun _ => fun
  | [d1, d2] => { results := [.lit (.bool true)], args := [d1, d2] }
  | _ => none }
def lawS2645BExactRow : OpenClaim := { program := "ybulkbbtg", sum := "9eff9755c3234548f053a304c16f8a1b1095dfec2a7d88918a66071707741fb9", func := "example.com/stirrup/stirrup.LawS2645BExact", spec := "lawS2645BExact", apart := false }
def LawS2645BExactSaid : Prop := lawS2645BExactRow.holds Yba.pinned (OpenSpec.ofChange lawS2645BExactSpec)

/-- ITS FALSE NEIGHBOUR: 'it returns false'. Refute it at one input. -/
def lawS2645BExactWrong : ChangeSpec := { name := "lawS2645BExact", fn := fun _ => fun
  | [d1, d2] => { results := [.lit (.bool false)], args := [d1, d2] }
  | _ => none }
def LawS2645BExactWrongFalsely : Prop := lawS2645BExactRow.holds Yba.pinned (OpenSpec.ofChange lawS2645BExactWrong)

end Rows
end Go.Proofs.Ybulkbbtg
