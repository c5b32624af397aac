/-
  No cell of these rows narrows 'for every input' (looked for: loops, veiled, ifaces, maps, wideKeys, modest, calm, conditions, laid).
  DERIVED. THE GIVEN ROWS OF THIS SEAT. 1 by the template 'for every input the law returns true; each argument reads behind the call as it read before'; 0 by the template 'total and deterministic' (their statements: YbulkctmmTotals.lean).
  GIVEN WITH THE SEED: the statements are not yours to turn. If you find one false, say at which input.
  Laid BY PROGRAM, IN A SANDBOX (cutbox-rows.mjs): the forced cells as the released guide's own fill.sh prints them over the translation 7be161b1092b60c8… (all of the seat's roots in one cut). By AI agents, Wed Nov 11 2026. No macro, syntax, notation, axiom, sorry.
-/
import Derived.Test.YbulkctmmChecked
import GoSem.Claim
import GoSem.ClaimJoined
import GoSem.ClaimMapViews
import Derived.JoinedTies
import Derived.KernelRfl
namespace Go.Proofs.Ybulkctmm
/- THE CELL 'sum', in the pinned program and in every row, IS THE sha256 OF THE DUMP (.gsa) THAT YbulkctmmProg.lean LOADS. Nothing in Lean hashes anything: it is a label: what it is worth is what the hold of that sum in a sandbox is worth. -/
noncomputable def Yba.pinned : Pinned := { name := "ybulkctmm", sum := "7be161b1092b60c89f7260c4be1fcd9ccb8a6e303a4b5a904bdcbaff00b1c718", checked := Yba.checked }
namespace Rows
def none {H : Type} : Left H := { results := [], args := [] }

/-- 'market.LawS4757BModel': WHATEVER THE INPUT: true; the input reads as it did. -/
def lawS4757BModelSpec : ChangeSpec := { name := "lawS4757BModel", fn := fun _ => fun
  | [d1, d2, d3, d4] => { results := [.lit (.bool true)], args := [d1, d2, d3, d4] }
  | _ => none }
def lawS4757BModelRow : OpenClaim := { program := "ybulkctmm", sum := "7be161b1092b60c89f7260c4be1fcd9ccb8a6e303a4b5a904bdcbaff00b1c718", func := "example.com/zhuangu/zhuangu/market.LawS4757BModel", spec := "lawS4757BModel", apart := false }
def LawS4757BModelSaid : Prop := lawS4757BModelRow.holds Yba.pinned (OpenSpec.ofChange lawS4757BModelSpec)

/-- ITS FALSE NEIGHBOUR: 'it returns false'. Refute it at one input. -/
def lawS4757BModelWrong : ChangeSpec := { name := "lawS4757BModel", fn := fun _ => fun
  | [d1, d2, d3, d4] => { results := [.lit (.bool false)], args := [d1, d2, d3, d4] }
  | _ => none }
def LawS4757BModelWrongFalsely : Prop := lawS4757BModelRow.holds Yba.pinned (OpenSpec.ofChange lawS4757BModelWrong)

end Rows
end Go.Proofs.Ybulkctmm
