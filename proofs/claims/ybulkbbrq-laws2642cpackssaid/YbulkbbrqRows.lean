/-
  No cell of these rows narrows 'for every input' (looked for: loops, veiled, ifaces, maps, wideKeys, modest, calm, conditions, laid).
  DERIVED. THE GIVEN ROWS OF THIS SEAT. 1 by the template 'for every input the law returns true; each argument reads behind the call as it read before'; 0 by the template 'total and deterministic' (their statements: YbulkbbrqTotals.lean).
  GIVEN WITH THE SEED: the statements are not yours to turn. If you find one false, say at which input.
  Laid BY PROGRAM, IN A SANDBOX (cutbox-rows.mjs): the forced cells as the released guide's own fill.sh prints them over the translation af59a94227df1488… (all of the seat's roots in one cut). By AI agents, Wed Nov 11 2026. No macro, syntax, notation, axiom, sorry.
-/
import Derived.Test.YbulkbbrqChecked
import GoSem.Claim
import GoSem.ClaimJoined
import GoSem.ClaimMapViews
import Derived.JoinedTies
import Derived.KernelRfl
namespace Go.Proofs.Ybulkbbrq
/- THE CELL 'sum', in the pinned program and in every row, IS THE sha256 OF THE DUMP (.gsa) THAT YbulkbbrqProg.lean LOADS. Nothing in Lean hashes anything: it is a label: what it is worth is what the hold of that sum in a sandbox is worth. -/
noncomputable def Yba.pinned : Pinned := { name := "ybulkbbrq", sum := "af59a94227df148850a334d9557c4512bb5aec55202afe9df7d6902cb5c2b795", checked := Yba.checked }
namespace Rows
def none {H : Type} : Left H := { results := [], args := [] }

/-- 'nibblewire.LawS2642CPacks': WHATEVER THE INPUT: true; the input reads as it did. -/
def lawS2642CPacksSpec : ChangeSpec := { name := "lawS2642CPacks", fn := fun _ => fun
  | [d1, d2, d3] => { results := [.lit (.bool true)], args := [d1, d2, d3] }
  | _ => none }
def lawS2642CPacksRow : OpenClaim := { program := "ybulkbbrq", sum := "af59a94227df148850a334d9557c4512bb5aec55202afe9df7d6902cb5c2b795", func := "example.com/nibblewire/nibblewire.LawS2642CPacks", spec := "lawS2642CPacks", apart := false }
def LawS2642CPacksSaid : Prop := lawS2642CPacksRow.holds Yba.pinned (OpenSpec.ofChange lawS2642CPacksSpec)

/-- ITS FALSE NEIGHBOUR: 'it returns false'. Refute it at one input. -/
def lawS2642CPacksWrong : ChangeSpec := { name := "lawS2642CPacks", fn := fun _ => fun
  | [d1, d2, d3] => { results := [.lit (.bool false)], args := [d1, d2, d3] }
  | _ => none }
def LawS2642CPacksWrongFalsely : Prop := lawS2642CPacksRow.holds Yba.pinned (OpenSpec.ofChange lawS2642CPacksWrong)

end Rows
end Go.Proofs.Ybulkbbrq
