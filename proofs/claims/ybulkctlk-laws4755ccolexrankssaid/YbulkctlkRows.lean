/-
  No cell of these rows narrows 'for every input' (looked for: loops, veiled, ifaces, maps, wideKeys, modest, calm, conditions, laid).
  DERIVED. THE GIVEN ROWS OF THIS SEAT. 6 by the template 'for every input the law returns true; each argument reads behind the call as it read before'; 0 by the template 'total and deterministic' (their statements: YbulkctlkTotals.lean).
  GIVEN WITH THE SEED: the statements are not yours to turn. If you find one false, say at which input.
  Laid BY PROGRAM, IN A SANDBOX (cutbox-rows.mjs): the forced cells as the released guide's own fill.sh prints them over the translation 24fda326aa8da7a1… (all of the seat's roots in one cut). By AI agents, Wed Nov 11 2026. No macro, syntax, notation, axiom, sorry.
-/
import Derived.Test.YbulkctlkChecked
import GoSem.Claim
import GoSem.ClaimJoined
import GoSem.ClaimMapViews
import Derived.JoinedTies
import Derived.KernelRfl
namespace Go.Proofs.Ybulkctlk
/- THE CELL 'sum', in the pinned program and in every row, IS THE sha256 OF THE DUMP (.gsa) THAT YbulkctlkProg.lean LOADS. Nothing in Lean hashes anything: it is a label: what it is worth is what the hold of that sum in a sandbox is worth. -/
noncomputable def Yba.pinned : Pinned := { name := "ybulkctlk", sum := "24fda326aa8da7a14e50cad42efa73dddc6261b39bc505325e0a54457a200cb3", checked := Yba.checked }
namespace Rows
def none {H : Type} : Left H := { results := [], args := [] }

/-- 'workload.LawS4755AValue': WHATEVER THE INPUT: true; the input reads as it did. -/
def lawS4755AValueSpec : ChangeSpec := { name := "lawS4755AValue", fn := fun _ => fun
  | [d] => { results := [.lit (.bool true)], args := [d] }
  | _ => none }
def lawS4755AValueRow : OpenClaim := { program := "ybulkctlk", sum := "24fda326aa8da7a14e50cad42efa73dddc6261b39bc505325e0a54457a200cb3", func := "example.com/nearside/nearside/workload.LawS4755AValue", spec := "lawS4755AValue", apart := false }
def LawS4755AValueSaid : Prop := lawS4755AValueRow.holds Yba.pinned (OpenSpec.ofChange lawS4755AValueSpec)

/-- ITS FALSE NEIGHBOUR: 'it returns false'. Refute it at one input. -/
def lawS4755AValueWrong : ChangeSpec := { name := "lawS4755AValue", fn := fun _ => fun
  | [d] => { results := [.lit (.bool false)], args := [d] }
  | _ => none }
def LawS4755AValueWrongFalsely : Prop := lawS4755AValueRow.holds Yba.pinned (OpenSpec.ofChange lawS4755AValueWrong)

/-- 'workload.LawS4755AMiddle': WHATEVER THE INPUT: true; the input reads as it did. -/
def lawS4755AMiddleSpec : ChangeSpec := { name := "lawS4755AMiddle", fn := fun _ => fun
  | [d1, d2] => { results := [.lit (.bool true)], args := [d1, d2] }
  | _ => none }
def lawS4755AMiddleRow : OpenClaim := { program := "ybulkctlk", sum := "24fda326aa8da7a14e50cad42efa73dddc6261b39bc505325e0a54457a200cb3", func := "example.com/nearside/nearside/workload.LawS4755AMiddle", spec := "lawS4755AMiddle", apart := false }
def LawS4755AMiddleSaid : Prop := lawS4755AMiddleRow.holds Yba.pinned (OpenSpec.ofChange lawS4755AMiddleSpec)

/-- ITS FALSE NEIGHBOUR: 'it returns false'. Refute it at one input. -/
def lawS4755AMiddleWrong : ChangeSpec := { name := "lawS4755AMiddle", fn := fun _ => fun
  | [d1, d2] => { results := [.lit (.bool false)], args := [d1, d2] }
  | _ => none }
def LawS4755AMiddleWrongFalsely : Prop := lawS4755AMiddleRow.holds Yba.pinned (OpenSpec.ofChange lawS4755AMiddleWrong)

/-- 'capacity.LawS4755BExactQuotient': WHATEVER THE INPUT: true; the input reads as it did. -/
def lawS4755BExactQuotientSpec : ChangeSpec := { name := "lawS4755BExactQuotient", fn := fun _ => fun
  | [d1, d2] => { results := [.lit (.bool true)], args := [d1, d2] }
  | _ => none }
def lawS4755BExactQuotientRow : OpenClaim := { program := "ybulkctlk", sum := "24fda326aa8da7a14e50cad42efa73dddc6261b39bc505325e0a54457a200cb3", func := "example.com/nearside/nearside/capacity.LawS4755BExactQuotient", spec := "lawS4755BExactQuotient", inPlace := ["math.FMA"], apart := false }
def LawS4755BExactQuotientSaid : Prop := lawS4755BExactQuotientRow.holds Yba.pinned (OpenSpec.ofChange lawS4755BExactQuotientSpec)

/-- ITS FALSE NEIGHBOUR: 'it returns false'. Refute it at one input. -/
def lawS4755BExactQuotientWrong : ChangeSpec := { name := "lawS4755BExactQuotient", fn := fun _ => fun
  | [d1, d2] => { results := [.lit (.bool false)], args := [d1, d2] }
  | _ => none }
def LawS4755BExactQuotientWrongFalsely : Prop := lawS4755BExactQuotientRow.holds Yba.pinned (OpenSpec.ofChange lawS4755BExactQuotientWrong)

/-- 'capacity.LawS4755BRemainder': WHATEVER THE INPUT: true; the input reads as it did. -/
def lawS4755BRemainderSpec : ChangeSpec := { name := "lawS4755BRemainder", fn := fun _ => fun
  | [d1, d2] => { results := [.lit (.bool true)], args := [d1, d2] }
  | _ => none }
def lawS4755BRemainderRow : OpenClaim := { program := "ybulkctlk", sum := "24fda326aa8da7a14e50cad42efa73dddc6261b39bc505325e0a54457a200cb3", func := "example.com/nearside/nearside/capacity.LawS4755BRemainder", spec := "lawS4755BRemainder", inPlace := ["math.FMA"], apart := false }
def LawS4755BRemainderSaid : Prop := lawS4755BRemainderRow.holds Yba.pinned (OpenSpec.ofChange lawS4755BRemainderSpec)

/-- ITS FALSE NEIGHBOUR: 'it returns false'. Refute it at one input. -/
def lawS4755BRemainderWrong : ChangeSpec := { name := "lawS4755BRemainder", fn := fun _ => fun
  | [d1, d2] => { results := [.lit (.bool false)], args := [d1, d2] }
  | _ => none }
def LawS4755BRemainderWrongFalsely : Prop := lawS4755BRemainderRow.holds Yba.pinned (OpenSpec.ofChange lawS4755BRemainderWrong)

/-- 'capacity.LawS4755CColexRanks': WHATEVER THE INPUT: true; the input reads as it did. -/
def lawS4755CColexRanksSpec : ChangeSpec := { name := "lawS4755CColexRanks", fn := fun _ => fun
  | [d1, d2] => { results := [.lit (.bool true)], args := [d1, d2] }
  | _ => none }
def lawS4755CColexRanksRow : OpenClaim := { program := "ybulkctlk", sum := "24fda326aa8da7a14e50cad42efa73dddc6261b39bc505325e0a54457a200cb3", func := "example.com/nearside/nearside/capacity.LawS4755CColexRanks", spec := "lawS4755CColexRanks", apart := false }
def LawS4755CColexRanksSaid : Prop := lawS4755CColexRanksRow.holds Yba.pinned (OpenSpec.ofChange lawS4755CColexRanksSpec)

/-- ITS FALSE NEIGHBOUR: 'it returns false'. Refute it at one input. -/
def lawS4755CColexRanksWrong : ChangeSpec := { name := "lawS4755CColexRanks", fn := fun _ => fun
  | [d1, d2] => { results := [.lit (.bool false)], args := [d1, d2] }
  | _ => none }
def LawS4755CColexRanksWrongFalsely : Prop := lawS4755CColexRanksRow.holds Yba.pinned (OpenSpec.ofChange lawS4755CColexRanksWrong)

/-- 'capacity.LawS4755CFormula': WHATEVER THE INPUT: true; the input reads as it did. -/
def lawS4755CFormulaSpec : ChangeSpec := { name := "lawS4755CFormula", fn := fun _ => fun
  | [d1, d2, d3] => { results := [.lit (.bool true)], args := [d1, d2, d3] }
  | _ => none }
def lawS4755CFormulaRow : OpenClaim := { program := "ybulkctlk", sum := "24fda326aa8da7a14e50cad42efa73dddc6261b39bc505325e0a54457a200cb3", func := "example.com/nearside/nearside/capacity.LawS4755CFormula", spec := "lawS4755CFormula", apart := false }
def LawS4755CFormulaSaid : Prop := lawS4755CFormulaRow.holds Yba.pinned (OpenSpec.ofChange lawS4755CFormulaSpec)

/-- ITS FALSE NEIGHBOUR: 'it returns false'. Refute it at one input. -/
def lawS4755CFormulaWrong : ChangeSpec := { name := "lawS4755CFormula", fn := fun _ => fun
  | [d1, d2, d3] => { results := [.lit (.bool false)], args := [d1, d2, d3] }
  | _ => none }
def LawS4755CFormulaWrongFalsely : Prop := lawS4755CFormulaRow.holds Yba.pinned (OpenSpec.ofChange lawS4755CFormulaWrong)

end Rows
end Go.Proofs.Ybulkctlk
