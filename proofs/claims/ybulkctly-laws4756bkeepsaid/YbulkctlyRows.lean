/-
  No cell of these rows narrows 'for every input' (looked for: loops, veiled, ifaces, maps, wideKeys, modest, calm, conditions, laid).
  DERIVED. THE GIVEN ROWS OF THIS SEAT. 1 by the template 'for every input the law returns true; each argument reads behind the call as it read before'; 0 by the template 'total and deterministic' (their statements: YbulkctlyTotals.lean).
  GIVEN WITH THE SEED: the statements are not yours to turn. If you find one false, say at which input.
  Laid BY PROGRAM, IN A SANDBOX (cutbox-rows.mjs): the forced cells as the released guide's own fill.sh prints them over the translation b1690c8167644112… (all of the seat's roots in one cut). By AI agents, Wed Nov 11 2026. No macro, syntax, notation, axiom, sorry.
-/
import Derived.Test.YbulkctlyChecked
import GoSem.Claim
import GoSem.ClaimJoined
import GoSem.ClaimMapViews
import Derived.JoinedTies
import Derived.KernelRfl
namespace Go.Proofs.Ybulkctly
/- THE CELL 'sum', in the pinned program and in every row, IS THE sha256 OF THE DUMP (.gsa) THAT YbulkctlyProg.lean LOADS. Nothing in Lean hashes anything: it is a label: what it is worth is what the hold of that sum in a sandbox is worth. -/
noncomputable def Yba.pinned : Pinned := { name := "ybulkctly", sum := "b1690c816764411297d9616fb9dd23f6c6314afd441c27c4e386ea8f2f76bb31", checked := Yba.checked }
namespace Rows
def none {H : Type} : Left H := { results := [], args := [] }

/-- 'amends.LawS4756BKeep': WHATEVER THE INPUT: true; the input reads as it did. -/
def lawS4756BKeepSpec : ChangeSpec := { name := "lawS4756BKeep", fn := fun _ => fun
  | [d1, d2, d3, d4] => { results := [.lit (.bool true)], args := [d1, d2, d3, d4] }
  | _ => none }
def lawS4756BKeepRow : OpenClaim := { program := "ybulkctly", sum := "b1690c816764411297d9616fb9dd23f6c6314afd441c27c4e386ea8f2f76bb31", func := "example.com/amends/amends.LawS4756BKeep", spec := "lawS4756BKeep", apart := false }
def LawS4756BKeepSaid : Prop := lawS4756BKeepRow.holds Yba.pinned (OpenSpec.ofChange lawS4756BKeepSpec)

/-- ITS FALSE NEIGHBOUR: 'it returns false'. Refute it at one input. -/
def lawS4756BKeepWrong : ChangeSpec := { name := "lawS4756BKeep", fn := fun _ => fun
  | [d1, d2, d3, d4] => { results := [.lit (.bool false)], args := [d1, d2, d3, d4] }
  | _ => none }
def LawS4756BKeepWrongFalsely : Prop := lawS4756BKeepRow.holds Yba.pinned (OpenSpec.ofChange lawS4756BKeepWrong)

end Rows
end Go.Proofs.Ybulkctly
