/-
  No cell of these rows narrows 'for every input' (looked for: loops, veiled, ifaces, maps, wideKeys, modest, calm, conditions, laid).
  DERIVED. THE GIVEN ROWS OF THIS SEAT. 2 by the template 'for every input the law returns true; each argument reads behind the call as it read before'; 0 by the template 'total and deterministic' (their statements: YbulkctlyFmtTotals.lean).
  GIVEN WITH THE SEED: the statements are not yours to turn. If you find one false, say at which input.
  Laid BY PROGRAM, IN A SANDBOX (cutbox-rows.mjs): the forced cells as the released guide's own fill.sh prints them over the translation 0365e46ec124f2b3… (all of the seat's roots in one cut). By AI agents, Wed Nov 11 2026. No macro, syntax, notation, axiom, sorry.
-/
import Derived.Test.YbulkctlyFmtChecked
import GoSem.Claim
import GoSem.ClaimJoined
import GoSem.ClaimMapViews
import Derived.JoinedTies
import Derived.KernelRfl
namespace Go.Proofs.YbulkctlyFmt
/- THE CELL 'sum', in the pinned program and in every row, IS THE sha256 OF THE DUMP (.gsa) THAT YbulkctlyFmtProg.lean LOADS. Nothing in Lean hashes anything: it is a label: what it is worth is what the hold of that sum in a sandbox is worth. -/
noncomputable def Ybaf.pinned : Pinned := { name := "ybulkctlyfmt", sum := "0365e46ec124f2b37b500e27f412c5c54262c8384eb4fc5ecb02b4573d0bd81e", checked := Ybaf.checked }
namespace Rows
def none {H : Type} : Left H := { results := [], args := [] }

/-- 'journal.LawS4756AModel': WHATEVER THE INPUT: true; the input reads as it did. -/
def lawS4756AModelSpec : ChangeSpec := { name := "lawS4756AModel", fn := fun _ => fun
  | [d1, d2] => { results := [.lit (.bool true)], args := [d1, d2] }
  | _ => none }
def lawS4756AModelRow : OpenClaim := { program := "ybulkctlyfmt", sum := "0365e46ec124f2b37b500e27f412c5c54262c8384eb4fc5ecb02b4573d0bd81e", func := "example.com/amends/amends/internal/journal.LawS4756AModel", spec := "lawS4756AModel", stops := ["fmt.errorf"], inPlace := ["fmt.errorf"], apart := false }
/-- NO THEOREM (fmt's text is open here; it may be false): for the released tool's asking of the row's closed facts alone. THE STATEMENT IS 'LawS4756AModelToldSaid' (YbulkctlyFmtCards.lean). -/
def LawS4756AModelFormAsk : Prop := lawS4756AModelRow.holds Ybaf.pinned (OpenSpec.ofChange lawS4756AModelSpec)

/-- ITS FALSE NEIGHBOUR: 'it returns false'. Refute it at one input. -/
def lawS4756AModelWrong : ChangeSpec := { name := "lawS4756AModel", fn := fun _ => fun
  | [d1, d2] => { results := [.lit (.bool false)], args := [d1, d2] }
  | _ => none }
def LawS4756AModelWrongFormAsk : Prop := lawS4756AModelRow.holds Ybaf.pinned (OpenSpec.ofChange lawS4756AModelWrong)

/-- 'journal.LawS4756ARoundTrip': WHATEVER THE INPUT: true; the input reads as it did. -/
def lawS4756ARoundTripSpec : ChangeSpec := { name := "lawS4756ARoundTrip", fn := fun _ => fun
  | [d1, d2, d3] => { results := [.lit (.bool true)], args := [d1, d2, d3] }
  | _ => none }
def lawS4756ARoundTripRow : OpenClaim := { program := "ybulkctlyfmt", sum := "0365e46ec124f2b37b500e27f412c5c54262c8384eb4fc5ecb02b4573d0bd81e", func := "example.com/amends/amends/internal/journal.LawS4756ARoundTrip", spec := "lawS4756ARoundTrip", stops := ["fmt.errorf"], inPlace := ["fmt.errorf"], apart := false }
/-- NO THEOREM (fmt's text is open here; it may be false): for the released tool's asking of the row's closed facts alone. THE STATEMENT IS 'LawS4756ARoundTripToldSaid' (YbulkctlyFmtCards.lean). -/
def LawS4756ARoundTripFormAsk : Prop := lawS4756ARoundTripRow.holds Ybaf.pinned (OpenSpec.ofChange lawS4756ARoundTripSpec)

/-- ITS FALSE NEIGHBOUR: 'it returns false'. Refute it at one input. -/
def lawS4756ARoundTripWrong : ChangeSpec := { name := "lawS4756ARoundTrip", fn := fun _ => fun
  | [d1, d2, d3] => { results := [.lit (.bool false)], args := [d1, d2, d3] }
  | _ => none }
def LawS4756ARoundTripWrongFormAsk : Prop := lawS4756ARoundTripRow.holds Ybaf.pinned (OpenSpec.ofChange lawS4756ARoundTripWrong)

end Rows
end Go.Proofs.YbulkctlyFmt
