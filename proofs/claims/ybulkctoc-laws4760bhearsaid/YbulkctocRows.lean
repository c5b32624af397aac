/-
  No cell of these rows narrows 'for every input' (looked for: loops, veiled, ifaces, maps, wideKeys, modest, calm, conditions, laid).
  DERIVED. THE GIVEN ROWS OF THIS SEAT. 1 by the template 'for every input the law returns true; each argument reads behind the call as it read before'; 0 by the template 'total and deterministic' (their statements: YbulkctocTotals.lean).
  GIVEN WITH THE SEED: the statements are not yours to turn. If you find one false, say at which input.
  Laid BY PROGRAM, IN A SANDBOX (cutbox-rows.mjs): the forced cells as the released guide's own fill.sh prints them over the translation 7e695b0c634df1ab… (all of the seat's roots in one cut). By AI agents, Wed Nov 11 2026. No macro, syntax, notation, axiom, sorry.
-/
import Derived.Test.YbulkctocChecked
import GoSem.Claim
import GoSem.ClaimJoined
import GoSem.ClaimMapViews
import Derived.JoinedTies
import Derived.KernelRfl
namespace Go.Proofs.Ybulkctoc
/- THE CELL 'sum', in the pinned program and in every row, IS THE sha256 OF THE DUMP (.gsa) THAT YbulkctocProg.lean LOADS. Nothing in Lean hashes anything: it is a label: what it is worth is what the hold of that sum in a sandbox is worth. -/
noncomputable def Yba.pinned : Pinned := { name := "ybulkctoc", sum := "7e695b0c634df1ab71ba331e42231e05578c7901d60392ddc2829b634fd20f8c", checked := Yba.checked }
namespace Rows
def none {H : Type} : Left H := { results := [], args := [] }

/-- 'swim.LawS4760BHear': WHATEVER THE INPUT: true; the input reads as it did. -/
def lawS4760BHearSpec : ChangeSpec := { name := "lawS4760BHear", fn := fun _ => fun
  | [d1, d2, d3, d4, d5, d6, d7, d8, d9, d10, d11, d12] => { results := [.lit (.bool true)], args := [d1, d2, d3, d4, d5, d6, d7, d8, d9, d10, d11, d12] }
  | _ => none }
def lawS4760BHearRow : OpenClaim := { program := "ybulkctoc", sum := "7e695b0c634df1ab71ba331e42231e05578c7901d60392ddc2829b634fd20f8c", func := "example.com/rumormill/rumormill/internal/swim.LawS4760BHear", spec := "lawS4760BHear", unfollowed := true, recurses := true, plainKeys := false, apart := false }
def LawS4760BHearSaid : Prop := lawS4760BHearRow.holds Yba.pinned (OpenSpec.ofChange lawS4760BHearSpec)

/-- ITS FALSE NEIGHBOUR: 'it returns false'. Refute it at one input. -/
def lawS4760BHearWrong : ChangeSpec := { name := "lawS4760BHear", fn := fun _ => fun
  | [d1, d2, d3, d4, d5, d6, d7, d8, d9, d10, d11, d12] => { results := [.lit (.bool false)], args := [d1, d2, d3, d4, d5, d6, d7, d8, d9, d10, d11, d12] }
  | _ => none }
def LawS4760BHearWrongFalsely : Prop := lawS4760BHearRow.holds Yba.pinned (OpenSpec.ofChange lawS4760BHearWrong)

end Rows
end Go.Proofs.Ybulkctoc
