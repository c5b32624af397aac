/- PLAIN MATHEMATICS OF LawS4755C, more: ranks. -/
import Derived.Test.YbulkctlkCPlain
namespace Go.Proofs.Ybulkctlk.CP

theorem rk_le : ∀ (i : Nat) (l : List Nat), (∀ p ∈ l, p ≤ 20) → rk i l ≤ l.length * 1048576
  | _, [], _ => by simp [rk]
  | i, p :: l, h => by
    have h1 := rk_le (i + 1) l (fun q hq => h q (List.mem_cons_of_mem _ hq))
    have h2 := C_le20 p (i + 1) (h p List.mem_cons_self)
    simp only [rk, List.length_cons]; omega
theorem take_snoc (l : List Nat) (i : Nat) (h : i < l.length) : l.take (i + 1) = l.take i ++ [l.getD i 0] := by
  rw [List.take_succ_eq_append_getElem h, List.getD_eq_getElem?_getD, List.getElem?_eq_getElem h]; rfl
theorem rk_step (l : List Nat) (i : Nat) (h : i < l.length) : rk 0 (l.take (i + 1)) = rk 0 (l.take i) + C (l.getD i 0) (i + 1) := by
  rw [take_snoc l i h, rk_snoc, List.length_take, Nat.min_eq_left (by omega), Nat.zero_add]

end Go.Proofs.Ybulkctlk.CP
