/-
  DERIVED. GIVEN WITH THE SEED: THE CARDS: each row of YbulkbbrqFmtRows.lean that lists a variable, with what it lists TIED to the program's text (the seventh form; the later family's looks); each row that meets fmt, with fmt's text TOLD by the authors' own Lean function (tested against real Go, not proved from fmt's source: count such statements apart). THE CARD IS WHAT COUNTS. Prove the row's statement (the work); the ties are given (YbulkbbrqFmtTie.lean); close each card by the builder's one call (the guide's Derived/Test/ToyasCard.lean, 'card_holds'). Laid BY PROGRAM, IN A SANDBOX (cutbox-door.mjs). By AI agents, Wed Nov 11 2026. No macro, syntax, notation, axiom, sorry.
-/
import Derived.Test.YbulkbbrqFmtRows
import GoSem.ClaimSeven
namespace Go.Proofs.YbulkbbrqFmt
namespace Rows

/-- THE TOLD AND TIED CARD OF 'nibblewire.LawS2642ARoundTrip'. -/
def lawS2642ARoundTripCard : Claim7 := { stood := { row := lawS2642ARoundTripRow, standIns := [], harness := (true, "c1daa82f447bbf073134d468f0813aac504abff987c15d0c8d409c7994bbefd8"), looks := true }, told := true, laidByText := true, laidKinds := [.mapped], laidTests := true, laidLooks := .later, goes := false }
def LawS2642ARoundTripToldSaid : Prop := Claim7.holds Ybaf.pinned (.plain (OpenSpec.ofChange lawS2642ARoundTripSpec)) lawS2642ARoundTripCard
/-- ITS FALSE NEIGHBOUR. Refute it at one input. -/
def LawS2642ARoundTripToldWrongFalsely : Prop := Claim7.holds Ybaf.pinned (.plain (OpenSpec.ofChange lawS2642ARoundTripWrong)) lawS2642ARoundTripCard

/-- THE TOLD AND TIED CARD OF 'nibblewire.LawS2642AAnyInput'. -/
def lawS2642AAnyInputCard : Claim7 := { stood := { row := lawS2642AAnyInputRow, standIns := [], harness := (true, "c1daa82f447bbf073134d468f0813aac504abff987c15d0c8d409c7994bbefd8"), looks := true }, told := true, laidByText := true, laidKinds := [.mapped], laidTests := true, laidLooks := .later, goes := false }
def LawS2642AAnyInputToldSaid : Prop := Claim7.holds Ybaf.pinned (.plain (OpenSpec.ofChange lawS2642AAnyInputSpec)) lawS2642AAnyInputCard
/-- ITS FALSE NEIGHBOUR. Refute it at one input. -/
def LawS2642AAnyInputToldWrongFalsely : Prop := Claim7.holds Ybaf.pinned (.plain (OpenSpec.ofChange lawS2642AAnyInputWrong)) lawS2642AAnyInputCard
end Rows
end Go.Proofs.YbulkbbrqFmt
