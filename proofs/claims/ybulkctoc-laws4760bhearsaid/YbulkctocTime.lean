/- THE CONTRACTS OF 'time.Time': nsec (9), sec (15), addSec (10), Add (4), Equal (7), Before (16): times without a monotonic reading, told by their nanoseconds. -/
import Derived.Test.YbulkctocRows
import Derived.WalkKit
import Derived.ProofKit
import Derived.WalkLawsBesides
import Derived.WalkSpells
import Derived.Below
import Derived.OpenShut
import Derived.OwnWalk
import Derived.Deep.LoopGhost
import Derived.Deep.QuietTactic
import Derived.BigQuiet
import Derived.Deep.AppendLies
namespace Go.Proofs.Ybulkctoc.HT
open Go.ChangeShapes Go.WideShapes Go.ChangeAt Go.RowKit
set_option linter.unusedVariables false

theorem and30 (n : Nat) (h : n < 1073741824) : bits .and .u64 (n : Int) 1073741823 = (n : Int) := by
  have e := u64_and_nat n 1073741823 (by omega) (by omega)
  rw [show ((1073741823 : Nat) : Int) = 1073741823 from rfl] at e
  rw [e, show (1073741823 : Nat) = 2 ^ 30 - 1 from by decide, Nat.and_two_pow_sub_one_eq_mod, Nat.mod_eq_of_lt (by rw [show (2 : Nat) ^ 30 = 1073741824 from by decide]; exact h)]
theorem and63 (n : Nat) (h : n < 1073741824) : bits .and .u64 (n : Int) 9223372036854775808 = 0 := by
  have e := u64_and_nat n 9223372036854775808 (by omega) (by omega)
  rw [show ((9223372036854775808 : Nat) : Int) = 9223372036854775808 from rfl] at e
  rw [e]
  have : n &&& 9223372036854775808 = 0 := by
    rw [show (9223372036854775808 : Nat) = 2 ^ 63 from by decide]
    apply Nat.eq_of_testBit_eq
    intro i
    rw [Nat.testBit_and, Nat.testBit_two_pow, Nat.zero_testBit]
    by_cases h63 : 63 = i
    · subst h63
      rw [Nat.testBit_lt_two_pow (Nat.lt_of_lt_of_le h (by decide))]; rfl
    · simp [h63]
  rw [this]; rfl

set_option maxRecDepth 100000 in
set_option maxHeartbeats 400000 in
theorem nsec_any (b off n : Nat) (w : World) (hn : n < 1000000000) (c : w.cell? ⟨b, off, none⟩ = some (.int .u64 (n : Int))) :
    Calls Yba.prog 9 #[.pointer (some ⟨b, off, none⟩)] w fun e w' => e = .returned (.int .i32 (n : Int)) ∧ w' = w := by
  have h1 := and30 n (by omega)
  go_enter Yba.func9, Yba.ntmps9
  go_wp2
  go_ret
  exact ⟨rfl, rfl⟩

set_option maxRecDepth 100000 in
set_option maxHeartbeats 400000 in
theorem sec_any (b off n : Nat) (s : Int) (w : World) (hn : n < 1000000000) (c : w.cell? ⟨b, off, none⟩ = some (.int .u64 (n : Int))) (c1 : w.cell? ⟨b, off + 1, none⟩ = some (.int .i64 s)) :
    Calls Yba.prog 15 #[.pointer (some ⟨b, off, none⟩)] w fun e w' => e = .returned (.int .i64 s) ∧ w' = w := by
  have h1 := and63 n (by omega)
  go_enter Yba.func15, Yba.ntmps15
  go_wp2
  go_ret
  exact ⟨rfl, rfl⟩

set_option maxRecDepth 100000 in
set_option maxHeartbeats 400000 in
theorem addSec_any (b off n : Nat) (s d : Int) (w : World) (hn : n < 1000000000) (c : w.cell? ⟨b, off, none⟩ = some (.int .u64 (n : Int))) (c1 : w.cell? ⟨b, off + 1, none⟩ = some (.int .i64 s)) (f1 : w.frozen? ⟨b, off + 1, none⟩ = false)
    (hs1 : -4611686018427387904 ≤ s) (hs2 : s ≤ 4611686018427387904) (hd1 : -4611686018427387904 ≤ d) (hd2 : d ≤ 4611686018427387903) :
    Calls Yba.prog 10 #[.pointer (some ⟨b, off, none⟩), .int .i64 d] w fun e w' => e = .returned (.tuple #[]) ∧ w' = w.setCell ⟨b, off + 1, none⟩ (.int .i64 (s + d)) := by
  have h1 := and63 n (by omega)
  by_cases hd : 0 < d
  · have t1 : s < s + d := by omega
    go_enter Yba.func10, Yba.ntmps10
    go_wp2
    go_end0
    exact ⟨rfl, rfl⟩
  · have t1 : ¬ s < s + d := by omega
    go_enter Yba.func10, Yba.ntmps10
    go_wp2
    go_end0
    exact ⟨rfl, rfl⟩

theorem andNot30 (n : Nat) (h : n < 1073741824) : bits .andNot .u64 (n : Int) 1073741823 = 0 := by
  have e := u64_andNot_nat n 1073741823 (by omega) (by omega)
  rw [show ((1073741823 : Nat) : Int) = 1073741823 from rfl] at e
  rw [e]
  have : n &&& (18446744073709551615 - 1073741823) = 0 := by
    rw [show (18446744073709551615 - 1073741823 : Nat) = 17179869183 <<< 30 from by decide]
    apply Nat.eq_of_testBit_eq
    intro i
    rw [Nat.testBit_and, Nat.testBit_shiftLeft, Nat.zero_testBit]
    by_cases h30 : 30 ≤ i
    · rw [Nat.testBit_lt_two_pow (Nat.lt_of_lt_of_le h (Nat.pow_le_pow_right (show 0 < 2 by decide) h30))]; rfl
    · simp [h30]
  rw [this]; rfl
theorem or0 (n : Nat) (h : n < 1073741824) : bits .or .u64 0 (n : Int) = (n : Int) := by
  have e := u64_or_nat 0 n (by omega) (by omega)
  rw [show ((0 : Nat) : Int) = 0 from rfl] at e
  rw [e, Nat.zero_or]

/-- A time, by its nanoseconds. -/
def tv (ns : Int) : Value := .agg #[.int .u64 (ns % 1000000000), .int .i64 (ns / 1000000000), .pointer none]

theorem tdiv_form (d : Int) : ∃ q r : Int, d.tdiv 1000000000 = q ∧ d.tmod 1000000000 = r ∧ d = q * 1000000000 + r ∧ -1000000000 < r ∧ r < 1000000000 := by
  refine ⟨_, _, rfl, rfl, ?_, ?_, ?_⟩
  · exact (Int.tdiv_mul_add_tmod d 1000000000).symm
  · have := Int.lt_tmod_of_pos d (show (0 : Int) < 1000000000 by decide)
    omega
  · exact Int.tmod_lt_of_pos d (by decide)

end Go.Proofs.Ybulkctoc.HT
