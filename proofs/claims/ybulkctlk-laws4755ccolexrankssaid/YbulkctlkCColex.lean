/- PLAIN MATHEMATICS: the colex rank of a mask's set is the count of the lesser masks of its size. -/
import Derived.Test.YbulkctlkCPlain
namespace Go.Proofs.Ybulkctlk.CX
open Go.Proofs.Ybulkctlk.CP

/-- Is part p in the mask? -/
def bitB (mm p : Nat) : Bool := mm / 2 ^ p % 2 == 1
/-- The parts below p that are in the mask. -/
def S (mm p : Nat) : List Nat := (List.range p).filter (bitB mm)
theorem S_succ (mm p : Nat) : S mm (p + 1) = S mm p ++ (if bitB mm p = true then [p] else []) := by
  unfold S; rw [List.range_succ, List.filter_append]
  by_cases h : bitB mm p = true <;> simp [h]
theorem S_len (mm p : Nat) : (S mm p).length ≤ p := by
  unfold S; have := List.length_filter_le (bitB mm) (List.range p); simpa using this
theorem S_lt (mm p : Nat) : ∀ q ∈ S mm p, q < p := fun q hq => by
  unfold S at hq; exact List.mem_range.1 (List.mem_filter.1 hq).1

theorem bit_low (x k : Nat) (h : x < 2 ^ k) : bitB x k = false := by
  unfold bitB; rw [Nat.div_eq_of_lt h]; rfl
theorem bit_top (x k : Nat) (h : x < 2 ^ k) : bitB (2 ^ k + x) k = true := by
  unfold bitB
  rw [Nat.add_div_left _ (Nat.two_pow_pos k), Nat.div_eq_of_lt h]; rfl
theorem bit_same (x k p : Nat) (h : p < k) : bitB (2 ^ k + x) p = bitB x p := by
  unfold bitB
  obtain ⟨d, rfl⟩ : ∃ d, k = p + 1 + d := ⟨k - p - 1, by omega⟩
  rw [Nat.add_assoc p 1 d, Nat.pow_add, Nat.mul_add_div (Nat.two_pow_pos p), Nat.pow_add]
  congr 1
  omega
theorem S_low (x k : Nat) (h : x < 2 ^ k) : S x (k + 1) = S x k := by
  rw [S_succ, bit_low x k h]; simp
theorem S_top (x k : Nat) (h : x < 2 ^ k) : S (2 ^ k + x) (k + 1) = S x k ++ [k] := by
  rw [S_succ, bit_top x k h, if_pos rfl]
  congr 1
  unfold S
  apply List.filter_congr
  intro p hp
  exact bit_same x k p (List.mem_range.1 hp)

/-- How many masks below M have s of the k parts. -/
def cnt (k s : Nat) : Nat → Nat
  | 0 => 0
  | M + 1 => cnt k s M + (if (S M k).length = s then 1 else 0)

theorem cnt_low (k s : Nat) : ∀ M, M ≤ 2 ^ k → cnt (k + 1) s M = cnt k s M
  | 0, _ => rfl
  | M + 1, h => by
    simp only [cnt]
    rw [cnt_low k s M (by omega), S_low M k (by omega)]
theorem cnt_top (k s : Nat) : ∀ M, M ≤ 2 ^ k → cnt (k + 1) (s + 1) (2 ^ k + M) = cnt (k + 1) (s + 1) (2 ^ k) + cnt k s M
  | 0, _ => rfl
  | M + 1, h => by
    rw [← Nat.add_assoc]
    simp only [cnt]
    rw [cnt_top k s M (by omega), S_top M k (by omega), List.length_append, List.length_singleton]
    by_cases e : (S M k).length = s
    · rw [if_pos e, if_pos (by omega)]; omega
    · rw [if_neg e, if_neg (by omega)]; omega
theorem cnt_top0 (k : Nat) : ∀ M, M ≤ 2 ^ k → cnt (k + 1) 0 (2 ^ k + M) = cnt (k + 1) 0 (2 ^ k)
  | 0, _ => rfl
  | M + 1, h => by
    rw [← Nat.add_assoc]
    simp only [cnt]
    rw [cnt_top0 k M (by omega), S_top M k (by omega), List.length_append, List.length_singleton, if_neg (by omega)]; rfl
theorem cnt_all : ∀ (k s : Nat), cnt k s (2 ^ k) = C k s
  | 0, 0 => rfl
  | 0, s + 1 => by
    show cnt 0 (s + 1) 1 = 0
    simp [cnt, S]
  | k + 1, 0 => by
    rw [Nat.pow_succ, show 2 ^ k * 2 = 2 ^ k + 2 ^ k from by omega, cnt_top0 k _ (Nat.le_refl _), cnt_low k 0 _ (Nat.le_refl _), cnt_all k 0, C_zero, C_zero]
  | k + 1, s + 1 => by
    rw [Nat.pow_succ, show 2 ^ k * 2 = 2 ^ k + 2 ^ k from by omega, cnt_top k s _ (Nat.le_refl _), cnt_low k (s + 1) _ (Nat.le_refl _), cnt_all k s, cnt_all k (s + 1), C_succ]; omega
theorem cnt_rank : ∀ (k M : Nat), M < 2 ^ k → cnt k (S M k).length M = rk 0 (S M k)
  | 0, M, h => by
    have : M = 0 := by simpa using h
    subst this; rfl
  | k + 1, M, h => by
    by_cases hM : M < 2 ^ k
    · rw [S_low M k hM, cnt_low k _ M (by omega)]; exact cnt_rank k M hM
    · obtain ⟨x, rfl⟩ : ∃ x, M = 2 ^ k + x := ⟨M - 2 ^ k, by omega⟩
      have hx : x < 2 ^ k := by rw [Nat.pow_succ] at h; omega
      rw [S_top x k hx, List.length_append, List.length_singleton, cnt_top k _ x (by omega), cnt_low k _ _ (Nat.le_refl _), cnt_all, cnt_rank k x hx, rk_snoc, Nat.zero_add]; omega
theorem cnt_le (k s : Nat) : ∀ M, cnt k s M ≤ M
  | 0 => Nat.le_refl _
  | M + 1 => by
    have := cnt_le k s M
    simp only [cnt]; split <;> omega

end Go.Proofs.Ybulkctlk.CX
