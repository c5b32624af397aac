/- PLAIN: weekends, sums, the missing days. Nothing of the program here. -/
namespace Go.Proofs.Ybulkctmm.MP
set_option linter.unusedVariables false
/-- A weekend, as Go's '%' has it. -/
def wk (d : Int) : Bool := decide (d.tmod 7 = 0) || decide (d.tmod 7 = 6)
theorem tmod7 (d : Int) : d.tmod 7 = if 0 ≤ d ∨ d % 7 = 0 then d % 7 else d % 7 - 7 := by
  rw [Int.tmod_eq_emod]
  by_cases h : 0 ≤ d ∨ d % 7 = 0
  · rw [if_pos (by rcases h with h | h; exact .inl h; exact .inr (Int.dvd_of_emod_eq_zero h)), if_pos h]; simp
  · rw [if_neg (by rintro (h1 | h1); exact h (.inl h1); exact h (.inr (Int.emod_eq_zero_of_dvd h1))), if_neg h]; rfl
theorem wk_iff (d : Int) : wk d = true ↔ d % 7 = 0 ∨ (0 ≤ d ∧ d % 7 = 6) := by
  unfold wk
  rw [tmod7]
  simp only [Bool.or_eq_true, decide_eq_true_eq]
  split <;> omega
/-- Two days on at the most there is a session. -/
theorem wk_three (d : Int) (h0 : wk d = true) (h1 : wk (d + 1) = true) : wk (d + 1 + 1) = false := by
  rw [wk_iff] at h0 h1
  rw [Bool.eq_false_iff]
  intro h2
  rw [wk_iff] at h2
  omega

def sums : Int → List Nat → List Int
  | _, [] => []
  | s, x :: l => (s + (x : Int)) :: sums (s + (x : Int)) l
theorem sums_len : ∀ (l : List Nat) (s : Int), (sums s l).length = l.length
  | [], _ => rfl
  | x :: l, s => by simp [sums, sums_len l]
theorem sums_ge : ∀ (l : List Nat) (s : Int), ∀ y ∈ sums s l, s ≤ y
  | [], _, y, hy => by simp [sums] at hy
  | x :: l, s, y, hy => by
    simp only [sums, List.mem_cons] at hy
    rcases hy with rfl | hy
    · omega
    · have := sums_ge l (s + x) y hy
      omega
theorem sums_sorted : ∀ (l : List Nat) (s : Int), (sums s l).Pairwise (· ≤ ·)
  | [], _ => List.Pairwise.nil
  | x :: l, s => List.pairwise_cons.2 ⟨sums_ge l _, sums_sorted l _⟩
theorem sums_le : ∀ (l : List Nat) (s : Int), (∀ x ∈ l, x < 256) → ∀ y ∈ sums s l, y ≤ s + 255 * (l.length : Int)
  | [], _, _, y, hy => by simp [sums] at hy
  | x :: l, s, hb, y, hy => by
    have hx := hb x (by simp)
    simp only [sums, List.mem_cons] at hy
    simp only [List.length_cons]
    rcases hy with rfl | hy
    · omega
    · have := sums_le l (s + x) (fun z hz => hb z (by simp [hz])) y hy
      omega
/-- Where the sum stands behind k steps. -/
def cur : Int → List Nat → Nat → Int
  | s, _, 0 => s
  | s, [], _ + 1 => s
  | s, x :: l, k + 1 => cur (s + (x : Int)) l k
theorem sums_take : ∀ (l : List Nat) (s : Int) (k : Nat), k < l.length → (sums s l).take (k + 1) = (sums s l).take k ++ [cur s l (k + 1)] ∧ cur s l (k + 1) = cur s l k + ((l.getD k 0 : Nat) : Int)
  | [], _, _, h => by simp at h
  | x :: l, s, 0, _ => by simp [sums, cur]
  | x :: l, s, k + 1, h => by
    have := sums_take l (s + x) k (by simpa using h)
    simp only [sums, List.take_succ_cons, cur, List.cons_append, List.getD_cons_succ]
    exact ⟨by rw [this.1], this.2⟩
theorem cur_bound : ∀ (l : List Nat) (s : Int) (k : Nat), (∀ x ∈ l, x < 256) → s ≤ cur s l k ∧ cur s l k ≤ s + 255 * (l.length : Int)
  | [], s, 0, _ => by simp [cur]
  | [], s, k + 1, _ => by simp [cur]
  | x :: l, s, 0, _ => by simp [cur]; omega
  | x :: l, s, k + 1, hb => by
    have hx := hb x (by simp)
    have := cur_bound l (s + x) k (fun z hz => hb z (by simp [hz]))
    simp only [cur, List.length_cons]
    omega

/-- The days from d on, n of them, that are no weekend and not among ds. -/
def mis (ds : List Int) : Int → Nat → List Int
  | _, 0 => []
  | d, n + 1 => if wk d = true ∨ d ∈ ds then mis ds (d + 1) n else d :: mis ds (d + 1) n
theorem mis_out {ds : List Int} {d : Int} {n : Nat} (h : wk d = true ∨ d ∈ ds) : mis ds d (n + 1) = mis ds (d + 1) n := by simp only [mis]; rw [if_pos h]
theorem mis_in {ds : List Int} {d : Int} {n : Nat} (h1 : wk d = false) (h2 : d ∉ ds) : mis ds d (n + 1) = d :: mis ds (d + 1) n := by
  simp only [mis]; rw [if_neg (by rintro (h | h); rw [h1] at h; cases h; exact h2 h)]
theorem mis_len (ds : List Int) : ∀ (n : Nat) (d : Int), (mis ds d n).length ≤ n
  | 0, _ => by simp [mis]
  | n + 1, d => by
    have := mis_len ds n (d + 1)
    simp only [mis]
    split
    · omega
    · simp; omega
/-- What is to come from d to 'to'. -/
def rest (ds : List Int) (d to : Int) : List Int := mis ds d (to + 1 - d).toNat
theorem rest_end {ds : List Int} {d to : Int} (h : to < d) : rest ds d to = [] := by
  unfold rest
  rw [show (to + 1 - d).toNat = 0 from by omega]; rfl
theorem rest_out {ds : List Int} {d to : Int} (h : wk d = true ∨ d ∈ ds) : rest ds d to = rest ds (d + 1) to := by
  by_cases hd : d ≤ to
  · unfold rest
    rw [show (to + 1 - d).toNat = (to + 1 - (d + 1)).toNat + 1 from by omega, mis_out h]
  · rw [rest_end (by omega), rest_end (by omega)]
theorem rest_in {ds : List Int} {d to : Int} (hd : d ≤ to) (h1 : wk d = false) (h2 : d ∉ ds) : rest ds d to = d :: rest ds (d + 1) to := by
  unfold rest
  rw [show (to + 1 - d).toNat = (to + 1 - (d + 1)).toNat + 1 from by omega, mis_in h1 h2]

/-- Where the pointer stands: all before it lie below d. -/
theorem mem_at {ds : List Int} (hs : ds.Pairwise (· ≤ ·)) {i : Nat} {d : Int} (hlt : ∀ j, j < i → ds.getD j 0 < d) (hi : i < ds.length) (hge : d ≤ ds.getD i 0) : d ∈ ds ↔ ds.getD i 0 = d := by
  have hget : ∀ j (hj : j < ds.length), ds.getD j 0 = ds[j] := fun j hj => by rw [List.getD_eq_getElem?_getD, List.getElem?_eq_getElem hj]; rfl
  constructor
  · intro hm
    obtain ⟨j, hj, rfl⟩ := List.mem_iff_getElem.1 hm
    rcases Nat.lt_trichotomy j i with h | h | h
    · have := hlt j h
      rw [hget j hj] at this; omega
    · subst h; exact hget _ hj
    · have := List.pairwise_iff_getElem.1 hs i j hi hj h
      rw [hget i hi] at hge ⊢; omega
  · intro h
    rw [← h, hget i hi]; exact List.getElem_mem _
theorem mem_end {ds : List Int} {d : Int} (hlt : ∀ j, j < ds.length → ds.getD j 0 < d) : d ∉ ds := by
  intro hm
  obtain ⟨j, hj, e⟩ := List.mem_iff_getElem.1 hm
  have := hlt j hj
  rw [List.getD_eq_getElem?_getD, List.getElem?_eq_getElem hj] at this
  simp at this; omega
end Go.Proofs.Ybulkctmm.MP
