/-
  DERIVED. GIVEN WITH THE SEED: THE CARDS: each row of YbulkctlyFmtRows.lean that lists a variable, with what it lists TIED to the program's text (the seventh form; the later family's looks); each row that meets fmt, with fmt's text TOLD by the authors' own Lean function (tested against real Go, not proved from fmt's source: count such statements apart). THE CARD IS WHAT COUNTS. Prove the row's statement (the work); the ties are given (YbulkctlyFmtTie.lean); close each card by the builder's one call (the guide's Derived/Test/ToyasCard.lean, 'card_holds'). Laid BY PROGRAM, IN A SANDBOX (cutbox-door.mjs). By AI agents, Wed Nov 11 2026. No macro, syntax, notation, axiom, sorry.
-/
import Derived.Test.YbulkctlyFmtRows
import GoSem.ClaimSeven
namespace Go.Proofs.YbulkctlyFmt
namespace Rows

/-- THE TOLD CARD OF 'journal.LawS4756AModel'. -/
def lawS4756AModelCard : Claim7 := { stood := { row := lawS4756AModelRow, standIns := [], harness := (true, "2c4d182c4c615521e467344e3cb1f779107a4930d7d397136dfc01a2c62321c9"), looks := false }, told := true, goes := false }
def LawS4756AModelToldSaid : Prop := Claim7.holds Ybaf.pinned (.plain (OpenSpec.ofChange lawS4756AModelSpec)) lawS4756AModelCard
/-- ITS FALSE NEIGHBOUR. Refute it at one input. -/
def LawS4756AModelToldWrongFalsely : Prop := Claim7.holds Ybaf.pinned (.plain (OpenSpec.ofChange lawS4756AModelWrong)) lawS4756AModelCard

/-- THE TOLD CARD OF 'journal.LawS4756ARoundTrip'. -/
def lawS4756ARoundTripCard : Claim7 := { stood := { row := lawS4756ARoundTripRow, standIns := [], harness := (true, "2c4d182c4c615521e467344e3cb1f779107a4930d7d397136dfc01a2c62321c9"), looks := false }, told := true, goes := false }
def LawS4756ARoundTripToldSaid : Prop := Claim7.holds Ybaf.pinned (.plain (OpenSpec.ofChange lawS4756ARoundTripSpec)) lawS4756ARoundTripCard
/-- ITS FALSE NEIGHBOUR. Refute it at one input. -/
def LawS4756ARoundTripToldWrongFalsely : Prop := Claim7.holds Ybaf.pinned (.plain (OpenSpec.ofChange lawS4756ARoundTripWrong)) lawS4756ARoundTripCard
end Rows
end Go.Proofs.YbulkctlyFmt
