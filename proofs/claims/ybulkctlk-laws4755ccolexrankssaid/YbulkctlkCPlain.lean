/- PLAIN MATHEMATICS OF LawS4755C: binomials, first numbers, the set of a mask, colex ranks. Nothing of the program here. -/
namespace Go.Proofs.Ybulkctlk.CP

/-- Binomials. -/
def C : Nat → Nat → Nat
  | _, 0 => 1
  | 0, _ + 1 => 0
  | n + 1, k + 1 => C n k + C n (k + 1)

theorem C_zero (n : Nat) : C n 0 = 1 := by cases n <;> rfl
theorem C_succ (n k : Nat) : C (n + 1) (k + 1) = C n k + C n (k + 1) := rfl
theorem C_lt : ∀ (n k : Nat), n < k → C n k = 0
  | 0, k + 1, _ => rfl
  | n + 1, k + 1, h => by rw [C_succ, C_lt n k (by omega), C_lt n (k + 1) (by omega)]
theorem C_le : ∀ (n k : Nat), C n k ≤ 2 ^ n
  | 0, 0 => by decide
  | 0, _ + 1 => by simp [C]
  | n + 1, 0 => by rw [C_zero]; exact Nat.one_le_two_pow
  | n + 1, k + 1 => by
    have h1 := C_le n k
    have h2 := C_le n (k + 1)
    rw [C_succ, Nat.pow_succ]; omega
theorem C_le20 (n k : Nat) (h : n ≤ 20) : C n k ≤ 1048576 := by
  have h1 := C_le n k
  have h2 : 2 ^ n ≤ 2 ^ 20 := Nat.pow_le_pow_right (by omega) h
  have h3 : (2 : Nat) ^ 20 = 1048576 := by decide
  omega

/-- The number of the first set of size s. -/
def F (k : Nat) : Nat → Nat
  | 0 => 0
  | 1 => 1
  | s + 2 => F k (s + 1) + C k (s + 1)
theorem F_two (k s : Nat) : F k (s + 2) = F k (s + 1) + C k (s + 1) := rfl
theorem F_le (k : Nat) (h : k ≤ 20) : ∀ s, F k s ≤ 1 + s * 1048576
  | 0 => by simp [F]
  | 1 => by simp [F]
  | s + 2 => by
    have h1 := F_le k h (s + 1)
    have h2 := C_le20 k (s + 1) h
    rw [F_two]; omega

/-- The multiplicative rule: C(a, i+1) * (i+1) = C(a, i) * (a - i). -/
theorem C_mul : ∀ (a i : Nat), C a (i + 1) * (i + 1) = C a i * (a - i)
  | 0, 0 => by decide
  | 0, i + 1 => by simp [C]
  | a + 1, 0 => by
    have := C_mul a 0
    simp only [C_zero, Nat.zero_add, Nat.mul_one, Nat.one_mul, Nat.sub_zero] at this ⊢
    rw [C_succ, C_zero, this]; omega
  | a + 1, i + 1 => by
    have h1 := C_mul a i
    have h2 := C_mul a (i + 1)
    rw [C_succ a (i + 1), C_succ a i]
    by_cases hi : i < a
    · obtain ⟨d, hd⟩ : ∃ d, a = i + 1 + d := ⟨a - i - 1, by omega⟩
      rw [show a - i = d + 1 from by omega] at h1
      rw [show a - (i + 1) = d from by omega] at h2
      rw [show a + 1 - (i + 1) = d + 1 from by omega]
      generalize C a i = X at *
      generalize C a (i + 1) = Y at *
      generalize C a (i + 1 + 1) = Z at *
      simp only [Nat.add_mul, Nat.mul_add, Nat.mul_one] at *
      omega
    · have e1 : C a (i + 1) = 0 := C_lt _ _ (by omega)
      have e2 : C a (i + 1 + 1) = 0 := C_lt _ _ (by omega)
      rw [e1, e2]
      rcases Nat.lt_or_ge a i with h | h
      · rw [C_lt a i h]; simp
      · have : a = i := by omega
        subst this; simp

theorem C_div (a i : Nat) : C a i * (a - i) / (i + 1) = C a (i + 1) := by
  rw [← C_mul, Nat.mul_div_cancel _ (by omega)]

/-- Summed ranks of the parts of a set: the i-th part pt weighs C(pt, i+1); 'i' the place of the first. -/
def rk : Nat → List Nat → Nat
  | _, [] => 0
  | i, p :: ps => C p (i + 1) + rk (i + 1) ps
theorem rk_snoc : ∀ (i : Nat) (l : List Nat) (p : Nat), rk i (l ++ [p]) = rk i l + C p (i + l.length + 1)
  | i, [], p => by simp [rk]
  | i, q :: l, p => by
    simp only [List.cons_append, rk, rk_snoc (i + 1) l p, List.length_cons]
    rw [show i + 1 + l.length + 1 = i + (l.length + 1) + 1 from by omega]; omega

end Go.Proofs.Ybulkctlk.CP
