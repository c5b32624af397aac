/- PLAIN: varints, and the reading of a set of segments. Nothing of the program here. -/
namespace Go.Proofs.YbulkctlyFmt.FP

/-- What the bytes from index i on give: the value that they add, and the count of all bytes. -/
def dv : Nat → List Nat → Option (Nat × Nat)
  | _, [] => none
  | i, b :: l => if 10 ≤ i then none else if b < 128 then (if i = 9 ∧ 1 < b then none else some (b * 2 ^ (7 * i), i + 1))
    else (dv (i + 1) l).map fun r => ((b - 128) * 2 ^ (7 * i) + r.1, r.2)
/-- A varint at the start. -/
def dec (l : List Nat) : Option (Nat × Nat) := dv 0 l
/-- What the first i bytes add. -/
def acc : Nat → List Nat → Nat
  | 0, _ => 0
  | _ + 1, [] => 0
  | i + 1, b :: l => (b - 128) + 128 * acc i l

theorem dv_ten (i : Nat) (h : 10 ≤ i) : ∀ l, dv i l = none
  | [] => rfl
  | b :: l => by simp [dv, h]

/-- The loop's invariant: 'x' gathered so far, i bytes read, all of them 128 or more. -/
def At (l : List Nat) (i x : Nat) : Prop := dec l = (dv i (l.drop i)).map fun r => (x + r.1, r.2)

theorem At.zero (l : List Nat) : At l 0 0 := by
  unfold At dec
  cases h : dv 0 l with
  | none => simp [h]
  | some r => simp [h]

theorem drop_cons (l : List Nat) (i : Nat) (h : i < l.length) : l.drop i = l.getD i 0 :: l.drop (i + 1) := by
  rw [List.drop_eq_getElem_cons h, List.getD_eq_getElem?_getD, List.getElem?_eq_getElem h]; rfl

theorem At.step {l : List Nat} {i x : Nat} (h : At l i x) (hi : i < l.length) (h10 : i < 10) (hb : ¬ l.getD i 0 < 128) : At l (i + 1) (x + (l.getD i 0 - 128) * 2 ^ (7 * i)) := by
  unfold At at *
  rw [h, drop_cons l i hi]
  simp only [dv]
  rw [if_neg (by omega), if_neg hb]
  cases dv (i + 1) (l.drop (i + 1)) with
  | none => rfl
  | some r => simp; omega

theorem At.over {l : List Nat} {i x : Nat} (h : At l i x) (hi : l.length ≤ i ∨ 10 ≤ i) : dec l = none := by
  rw [h]
  rcases hi with hi | hi
  · rw [List.drop_of_length_le hi]; rfl
  · rw [dv_ten i hi]; rfl

theorem At.big {l : List Nat} {i x : Nat} (h : At l i x) (hi : i < l.length) (h9 : i = 9) (hb : l.getD i 0 < 128) (h1 : 1 < l.getD i 0) : dec l = none := by
  rw [h, drop_cons l i hi]
  simp only [dv]
  rw [if_neg (by omega), if_pos hb, if_pos ⟨h9, h1⟩]; rfl

theorem At.done {l : List Nat} {i x : Nat} (h : At l i x) (hi : i < l.length) (h10 : i < 10) (hb : l.getD i 0 < 128) (h1 : ¬ (i = 9 ∧ 1 < l.getD i 0)) : dec l = some (x + l.getD i 0 * 2 ^ (7 * i), i + 1) := by
  rw [h, drop_cons l i hi]
  simp only [dv]
  rw [if_neg (by omega), if_pos hb, if_neg h1]; rfl

/-- What a varint gives is within bounds. -/
theorem dv_bound : ∀ (l : List Nat) (i v n : Nat), dv i l = some (v, n) → i < n ∧ n ≤ i + l.length ∧ n ≤ 10
  | [], i, v, n, h => by simp [dv] at h
  | b :: l, i, v, n, h => by
    simp only [dv] at h
    by_cases h1 : 10 ≤ i
    · rw [if_pos h1] at h; cases h
    rw [if_neg h1] at h
    by_cases h2 : b < 128
    · rw [if_pos h2] at h
      by_cases h3 : i = 9 ∧ 1 < b
      · rw [if_pos h3] at h; cases h
      · rw [if_neg h3] at h
        simp only [Option.some.injEq, Prod.mk.injEq] at h
        obtain ⟨_, rfl⟩ := h
        simp; omega
    · rw [if_neg h2] at h
      cases hr : dv (i + 1) l with
      | none => rw [hr] at h; cases h
      | some r =>
        rw [hr] at h
        simp only [Option.map_some, Option.some.injEq, Prod.mk.injEq] at h
        obtain ⟨_, rfl⟩ := h
        have := dv_bound l (i + 1) r.1 r.2 hr
        simp; omega
theorem dec_bound {l : List Nat} {v n : Nat} (h : dec l = some (v, n)) : 0 < n ∧ n ≤ l.length := by
  have := dv_bound l 0 v n h; omega

/-- THE READING. 'acc': the spans so far. -/
def last? (acc : List (Nat × Nat)) : Option Nat := (acc.getLast?).map (·.2)
def bad (upto : Int) (acc : List (Nat × Nat)) (f g : Nat) : Bool :=
  decide (f < 1) || decide (g < f) || decide (upto ≤ (g : Int)) || (match last? acc with | none => false | some p => decide (f ≤ p + 1))
def step (upto : Int) (l : List Nat) (acc : List (Nat × Nat)) : Option (List Nat × List (Nat × Nat)) :=
  match dec l with
  | none => none
  | some (f, n) => if 2 ^ 62 < f then none else
    match dec (l.drop n) with
    | none => none
    | some (g, m) => if 2 ^ 62 < g then none else if bad upto acc f g = true then none else some ((l.drop n).drop m, acc ++ [(f, g)])
def parse (upto : Int) : Nat → List Nat → List (Nat × Nat) → Option (List (Nat × Nat))
  | 0, _, acc => some acc
  | _ + 1, [], acc => some acc
  | k + 1, b :: l, acc => match step upto (b :: l) acc with
    | none => none
    | some (l', acc') => parse upto k l' acc'

theorem step_len {upto : Int} {l l' : List Nat} {acc acc' : List (Nat × Nat)} (h : step upto l acc = some (l', acc')) : l'.length + 2 ≤ l.length ∧ ∃ f g, acc' = acc ++ [(f, g)] ∧ f ≤ 2 ^ 62 ∧ g ≤ 2 ^ 62 := by
  unfold step at h
  cases h1 : dec l with
  | none => rw [h1] at h; cases h
  | some r =>
    obtain ⟨f, n⟩ := r
    rw [h1] at h
    simp only at h
    by_cases hf : 2 ^ 62 < f
    · rw [if_pos hf] at h; cases h
    rw [if_neg hf] at h
    cases h2 : dec (l.drop n) with
    | none => rw [h2] at h; cases h
    | some r2 =>
      obtain ⟨g, m⟩ := r2
      rw [h2] at h
      simp only at h
      by_cases hg : 2 ^ 62 < g
      · rw [if_pos hg] at h; cases h
      rw [if_neg hg] at h
      by_cases hb : bad upto acc f g = true
      · rw [if_pos hb] at h; cases h
      rw [if_neg hb] at h
      simp only [Option.some.injEq, Prod.mk.injEq] at h
      obtain ⟨rfl, rfl⟩ := h
      have b1 := dec_bound h1
      have b2 := dec_bound h2
      refine ⟨?_, f, g, rfl, by omega, by omega⟩
      simp only [List.length_drop] at b2 ⊢
      omega

end Go.Proofs.YbulkctlyFmt.FP
