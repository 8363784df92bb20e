/-
  DERIVED. GIVEN WITH THE SEED: THE CARDS: each row of YbulkbbtgFmtRows.lean that lists a variable, with what it lists TIED to the program's text (the seventh form; the later family's looks); each row that meets fmt, with fmt's text TOLD by the authors' own Lean function (tested against real Go, not proved from fmt's source: count such statements apart). THE CARD IS WHAT COUNTS. Prove the row's statement (the work); the ties are given (YbulkbbtgFmtTie.lean); close each card by the builder's one call (the guide's Derived/Test/ToyasCard.lean, 'card_holds'). Laid BY PROGRAM, IN A SANDBOX (cutbox-door.mjs). By AI agents, Wed Nov 11 2026. No macro, syntax, notation, axiom, sorry.
-/
import Derived.Test.YbulkbbtgFmtRows
import GoSem.ClaimSeven
namespace Go.Proofs.YbulkbbtgFmt
namespace Rows

/-- THE TOLD CARD OF 'stirrup.LawS2645BRoundTrip'. -/
def lawS2645BRoundTripCard : Claim7 := { stood := { row := lawS2645BRoundTripRow, standIns := [], harness := (true, "2bf073b52fe8cd46d4391ca74bff29ebd8e22a3f2055200e82a933216b36e796"), looks := true }, told := true, goes := false }
def LawS2645BRoundTripToldSaid : Prop := Claim7.holds Ybaf.pinned (.plain (OpenSpec.ofChange lawS2645BRoundTripSpec)) lawS2645BRoundTripCard
/-- ITS FALSE NEIGHBOUR. Refute it at one input. -/
def LawS2645BRoundTripToldWrongFalsely : Prop := Claim7.holds Ybaf.pinned (.plain (OpenSpec.ofChange lawS2645BRoundTripWrong)) lawS2645BRoundTripCard
end Rows
end Go.Proofs.YbulkbbtgFmt
