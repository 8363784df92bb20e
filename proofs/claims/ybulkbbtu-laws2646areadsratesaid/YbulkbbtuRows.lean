/-
  No cell of these rows narrows 'for every input' (looked for: loops, veiled, ifaces, maps, wideKeys, modest, calm, conditions, laid).
  DERIVED. THE GIVEN ROWS OF THIS SEAT. 3 by the template 'for every input the law returns true; each argument reads behind the call as it read before'; 0 by the template 'total and deterministic' (their statements: YbulkbbtuTotals.lean).
  GIVEN WITH THE SEED: the statements are not yours to turn. If you find one false, say at which input.
  Laid BY PROGRAM, IN A SANDBOX (cutbox-rows.mjs): the forced cells as the released guide's own fill.sh prints them over the translation 13eca2de84975ad0… (all of the seat's roots in one cut). By AI agents, Wed Nov 11 2026. No macro, syntax, notation, axiom, sorry.
-/
import Derived.Test.YbulkbbtuChecked
import GoSem.Claim
import GoSem.ClaimJoined
import GoSem.ClaimMapViews
import Derived.JoinedTies
import Derived.KernelRfl
namespace Go.Proofs.Ybulkbbtu
/- THE CELL 'sum', in the pinned program and in every row, IS THE sha256 OF THE DUMP (.gsa) THAT YbulkbbtuProg.lean LOADS. Nothing in Lean hashes anything: it is a label: what it is worth is what the hold of that sum in a sandbox is worth. -/
noncomputable def Yba.pinned : Pinned := { name := "ybulkbbtu", sum := "13eca2de84975ad0c4f5d38d86c4a2327f0fac970b8709ccd93918e4dc55d89e", checked := Yba.checked }
namespace Rows
def none {H : Type} : Left H := { results := [], args := [] }

/-- 'evenkeel.LawS2646ANilIsZero': WHATEVER THE INPUT: true; the input reads as it did. -/
def lawS2646ANilIsZeroSpec : ChangeSpec := { name := "lawS2646ANilIsZero", fn := fun _ => fun
  | [d] => { results := [.lit (.bool true)], args := [d] }
  | _ => none }
def lawS2646ANilIsZeroRow : OpenClaim := { program := "ybulkbbtu", sum := "13eca2de84975ad0c4f5d38d86c4a2327f0fac970b8709ccd93918e4dc55d89e", func := "example.com/evenkeel/evenkeel.LawS2646ANilIsZero", spec := "lawS2646ANilIsZero", plainKeys := false, apart := false }
def LawS2646ANilIsZeroSaid : Prop := lawS2646ANilIsZeroRow.holds Yba.pinned (OpenSpec.ofChange lawS2646ANilIsZeroSpec)

/-- ITS FALSE NEIGHBOUR: 'it returns false'. Refute it at one input. -/
def lawS2646ANilIsZeroWrong : ChangeSpec := { name := "lawS2646ANilIsZero", fn := fun _ => fun
  | [d] => { results := [.lit (.bool false)], args := [d] }
  | _ => none }
def LawS2646ANilIsZeroWrongFalsely : Prop := lawS2646ANilIsZeroRow.holds Yba.pinned (OpenSpec.ofChange lawS2646ANilIsZeroWrong)

/-- 'evenkeel.LawS2646AReadsRate': WHATEVER THE INPUT: true; the input reads as it did. -/
def lawS2646AReadsRateSpec : ChangeSpec := { name := "lawS2646AReadsRate", fn := fun _ => fun
  | [d1, d2] => { results := [.lit (.bool true)], args := [d1, d2] }
  | _ => none }
def lawS2646AReadsRateRow : OpenClaim := { program := "ybulkbbtu", sum := "13eca2de84975ad0c4f5d38d86c4a2327f0fac970b8709ccd93918e4dc55d89e", func := "example.com/evenkeel/evenkeel.LawS2646AReadsRate", spec := "lawS2646AReadsRate", plainKeys := false, apart := false }
def LawS2646AReadsRateSaid : Prop := lawS2646AReadsRateRow.holds Yba.pinned (OpenSpec.ofChange lawS2646AReadsRateSpec)

/-- ITS FALSE NEIGHBOUR: 'it returns false'. Refute it at one input. -/
def lawS2646AReadsRateWrong : ChangeSpec := { name := "lawS2646AReadsRate", fn := fun _ => fun
  | [d1, d2] => { results := [.lit (.bool false)], args := [d1, d2] }
  | _ => none }
def LawS2646AReadsRateWrongFalsely : Prop := lawS2646AReadsRateRow.holds Yba.pinned (OpenSpec.ofChange lawS2646AReadsRateWrong)

/-- 'evenkeel.LawS2646CNoGroupsNoShort': WHATEVER THE INPUT: true; the input reads as it did. -/
def lawS2646CNoGroupsNoShortSpec : ChangeSpec := { name := "lawS2646CNoGroupsNoShort", fn := fun _ => fun
  | [d] => { results := [.lit (.bool true)], args := [d] }
  | _ => none }
def lawS2646CNoGroupsNoShortRow : OpenClaim := { program := "ybulkbbtu", sum := "13eca2de84975ad0c4f5d38d86c4a2327f0fac970b8709ccd93918e4dc55d89e", func := "example.com/evenkeel/evenkeel.LawS2646CNoGroupsNoShort", spec := "lawS2646CNoGroupsNoShort", plainKeys := false, apart := false }
def LawS2646CNoGroupsNoShortSaid : Prop := lawS2646CNoGroupsNoShortRow.holds Yba.pinned (OpenSpec.ofChange lawS2646CNoGroupsNoShortSpec)

/-- ITS FALSE NEIGHBOUR: 'it returns false'. Refute it at one input. -/
def lawS2646CNoGroupsNoShortWrong : ChangeSpec := { name := "lawS2646CNoGroupsNoShort", fn := fun _ => fun
  | [d] => { results := [.lit (.bool false)], args := [d] }
  | _ => none }
def LawS2646CNoGroupsNoShortWrongFalsely : Prop := lawS2646CNoGroupsNoShortRow.holds Yba.pinned (OpenSpec.ofChange lawS2646CNoGroupsNoShortWrong)

end Rows
end Go.Proofs.Ybulkbbtu
