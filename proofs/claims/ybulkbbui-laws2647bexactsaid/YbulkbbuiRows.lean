/-
  No cell of these rows narrows 'for every input' (looked for: loops, veiled, ifaces, maps, wideKeys, modest, calm, conditions, laid).
  DERIVED. THE GIVEN ROWS OF THIS SEAT. 2 by the template 'for every input the law returns true; each argument reads behind the call as it read before'; 0 by the template 'total and deterministic' (their statements: YbulkbbuiTotals.lean).
  GIVEN WITH THE SEED: the statements are not yours to turn. If you find one false, say at which input.
  Laid BY PROGRAM, IN A SANDBOX (cutbox-rows.mjs): the forced cells as the released guide's own fill.sh prints them over the translation e9af118b76a8da14… (all of the seat's roots in one cut). By AI agents, Wed Nov 11 2026. No macro, syntax, notation, axiom, sorry.
-/
import Derived.Test.YbulkbbuiChecked
import GoSem.Claim
import GoSem.ClaimJoined
import GoSem.ClaimMapViews
import Derived.JoinedTies
import Derived.KernelRfl
namespace Go.Proofs.Ybulkbbui
/- THE CELL 'sum', in the pinned program and in every row, IS THE sha256 OF THE DUMP (.gsa) THAT YbulkbbuiProg.lean LOADS. Nothing in Lean hashes anything: it is a label: what it is worth is what the hold of that sum in a sandbox is worth. -/
noncomputable def Yba.pinned : Pinned := { name := "ybulkbbui", sum := "e9af118b76a8da1423f2531705d0d10cc100a8b8475be3c42c2e0d55780346fc", checked := Yba.checked }
namespace Rows
def none {H : Type} : Left H := { results := [], args := [] }

/-- 'ruby.LawS2647BExact': WHATEVER THE INPUT: true; the input reads as it did. -/
def lawS2647BExactSpec : ChangeSpec := { name := "lawS2647BExact", fn := fun _ => fun
  | [d] => { results := [.lit (.bool true)], args := [d] }
  | _ => none }
def lawS2647BExactRow : OpenClaim := { program := "ybulkbbui", sum := "e9af118b76a8da1423f2531705d0d10cc100a8b8475be3c42c2e0d55780346fc", func := "example.com/bowerbird/bowerbird/internal/ruby.LawS2647BExact", spec := "lawS2647BExact", apart := false }
def LawS2647BExactSaid : Prop := lawS2647BExactRow.holds Yba.pinned (OpenSpec.ofChange lawS2647BExactSpec)

/-- ITS FALSE NEIGHBOUR: 'it returns false'. Refute it at one input. -/
def lawS2647BExactWrong : ChangeSpec := { name := "lawS2647BExact", fn := fun _ => fun
  | [d] => { results := [.lit (.bool false)], args := [d] }
  | _ => none }
def LawS2647BExactWrongFalsely : Prop := lawS2647BExactRow.holds Yba.pinned (OpenSpec.ofChange lawS2647BExactWrong)

/-- 'ruby.LawS2647BPadded': WHATEVER THE INPUT: true; the input reads as it did. -/
def lawS2647BPaddedSpec : ChangeSpec := { name := "lawS2647BPadded", fn := fun _ => fun
  | [d1, d2, d3] => { results := [.lit (.bool true)], args := [d1, d2, d3] }
  | _ => none }
def lawS2647BPaddedRow : OpenClaim := { program := "ybulkbbui", sum := "e9af118b76a8da1423f2531705d0d10cc100a8b8475be3c42c2e0d55780346fc", func := "example.com/bowerbird/bowerbird/internal/ruby.LawS2647BPadded", spec := "lawS2647BPadded", apart := false }
def LawS2647BPaddedSaid : Prop := lawS2647BPaddedRow.holds Yba.pinned (OpenSpec.ofChange lawS2647BPaddedSpec)

/-- ITS FALSE NEIGHBOUR: 'it returns false'. Refute it at one input. -/
def lawS2647BPaddedWrong : ChangeSpec := { name := "lawS2647BPadded", fn := fun _ => fun
  | [d1, d2, d3] => { results := [.lit (.bool false)], args := [d1, d2, d3] }
  | _ => none }
def LawS2647BPaddedWrongFalsely : Prop := lawS2647BPaddedRow.holds Yba.pinned (OpenSpec.ofChange lawS2647BPaddedWrong)

end Rows
end Go.Proofs.Ybulkbbui
