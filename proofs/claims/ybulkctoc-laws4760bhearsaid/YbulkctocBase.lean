/- THE MACHINE's BLOCK, ROWS (SLICES THAT THE LAW MADE), AND WHAT A CALL KEEPS. -/
import Derived.Test.YbulkctocMap
import Derived.Deep.RegionHeld3
namespace Go.Proofs.Ybulkctoc.HT
open Go.ChangeShapes Go.WideShapes Go.ChangeAt Go.RowKit
set_option linter.unusedVariables false

/-- Only blocks of S, and new ones, were written. -/
structure Kept (S : Nat → Prop) (w w' : World) : Prop where
  os : w'.os = w.os
  tape : w'.tape = w.tape
  output : w'.output = w.output
  size : w.heap.size ≤ w'.heap.size
  block : ∀ k, k < w.heap.size → ¬ S k → w'.heap[k]? = w.heap[k]?

theorem Kept.refl (S : Nat → Prop) (w : World) : Kept S w w := ⟨rfl, rfl, rfl, Nat.le_refl _, fun _ _ _ => rfl⟩
theorem Kept.trans {S : Nat → Prop} {a b c : World} (h : Kept S a b) (k : Kept S b c) : Kept S a c :=
  ⟨k.os.trans h.os, k.tape.trans h.tape, k.output.trans h.output, Nat.le_trans h.size k.size, fun i hi hs => (k.block i (Nat.lt_of_lt_of_le hi h.size) hs).trans (h.block i hi hs)⟩
theorem Kept.transNew {S T : Nat → Prop} {a b c : World} (h : Kept S a b) (k : Kept T b c) (hT : ∀ i, i < a.heap.size → T i → S i) : Kept S a c :=
  ⟨k.os.trans h.os, k.tape.trans h.tape, k.output.trans h.output, Nat.le_trans h.size k.size, fun i hi hs => (k.block i (Nat.lt_of_lt_of_le hi h.size) (fun ht => hs (hT i hi ht))).trans (h.block i hi hs)⟩
theorem Kept.of_grown {S : Nat → Prop} {w w' : World} {row : Option Nat} (h : w.grownBy w' row) (hr : ∀ k, row = some k → S k) : Kept S w w' :=
  ⟨h.os, h.tape, h.output, h.size, fun k hk hs => h.block k hk (fun e => hs (hr k e.symm))⟩
theorem Kept.of_below {S : Nat → Prop} {w w' : World} (h : Below w.heap.size w w') : Kept S w w' := ⟨h.os, h.tape, h.output, h.size, fun k hk _ => h.block k hk⟩
theorem Kept.below {S : Nat → Prop} {w w' : World} {B : Nat} (h : Kept S w w') (hB : B ≤ w.heap.size) (hS : ∀ k, k < B → ¬ S k) : Below B w w' :=
  ⟨h.os, h.tape, h.output, h.size, fun k hk => h.block k (by omega) (hS k hk)⟩
theorem Kept.mono {S T : Nat → Prop} {w w' : World} (h : Kept S w w') (hT : ∀ k, S k → T k) : Kept T w w' := ⟨h.os, h.tape, h.output, h.size, fun k hk ht => h.block k hk (fun hs => ht (hT k hs))⟩
theorem Kept.alloc (S : Nat → Prop) (w : World) (o : Obj) : Kept S w (w.alloc o) := .of_grown (World.grownBy_alloc w o none) (by simp)
theorem Kept.setCell {S : Nat → Prop} (w : World) (a : Addr) (v : Value) (h : S a.block) : Kept S w (w.setCell a v) :=
  ⟨rfl, rfl, rfl, by simp [World.setCell], fun k _ hs => Below.heap_setCell w a v k (fun e => hs (e ▸ h))⟩
theorem Kept.drew (S : Nat → Prop) (w : World) : Kept S w w.drew := ⟨rfl, rfl, rfl, Nat.le_refl _, fun _ _ _ => rfl⟩
theorem Kept.cell {S : Nat → Prop} {w w' : World} (h : Kept S w w') {a : Addr} {v : Value} (hc : w.cell? a = some v) (hS : ¬ S a.block) : w'.cell? a = some v :=
  (World.cell?_of_block (h.block a.block (World.block_lt_of_cell? w a hc) hS)).trans hc

theorem MSet.same {w w' : World} {b n : Nat} {ks : List Key} (hm : MSet w b n ks) (h : w'.heap[b]? = w.heap[b]?) : MSet w' b n ks := by
  obtain ⟨D, ⟨es, clock, hb, r⟩, r'⟩ := hm
  exact ⟨D, ⟨es, clock, h.trans hb, r⟩, r'⟩
theorem Kept.mset {S : Nat → Prop} {w w' : World} {b n : Nat} {ks : List Key} (h : Kept S w w') (hm : MSet w b n ks) (hb : ¬ S b) : MSet w' b n ks := hm.same (h.block b hm.lt hb)
theorem MSet.not_cells {w : World} {b n : Nat} {ks : List Key} (hm : MSet w b n ks) {g : Nat} {cur : Array Value} {t : TypeId} {fr : Nat × Nat} (h : w.heap[g]? = some (.cells cur t fr)) : g ≠ b := by
  rintro rfl
  obtain ⟨D, ⟨es, clock, hb, r⟩, r'⟩ := hm
  rw [h] at hb
  cases hb

/-! ### rows -/
/-- From cell o of block g on lie n elements (of 'size' cells each), with room for cap. -/
def Row (w : World) (e : TypeId) (size g o n cap : Nat) (xs : List Value) : Prop :=
  ∃ cur, w.heap[g]? = some (.cells cur e (0, 0)) ∧ n ≤ cap ∧ cap ≤ maxLen ∧ o + cap * size ≤ cur.size ∧ xs.length = n * size ∧ ∀ j u, xs[j]? = some u → cur[o + j]? = some u

section
variable {w : World} {e : TypeId} {size g o n cap : Nat} {xs : List Value}
theorem Row.lt (h : Row w e size g o n cap xs) : g < w.heap.size := by
  obtain ⟨cur, hg, _⟩ := h
  exact (Array.getElem?_eq_some_iff.1 hg).1
theorem Row.same {w' : World} (h : Row w e size g o n cap xs) (hs : w'.heap[g]? = w.heap[g]?) : Row w' e size g o n cap xs := by
  obtain ⟨cur, hg, r⟩ := h
  exact ⟨cur, hs.trans hg, r⟩
theorem Kept.row {S : Nat → Prop} {w' : World} (hk : Kept S w w') (h : Row w e size g o n cap xs) (hS : ¬ S g) : Row w' e size g o n cap xs := h.same (hk.block g h.lt hS)
theorem Row.cell (h : Row w e size g o n cap xs) (j : Nat) {u : Value} (hu : xs[j]? = some u) : w.cell? ⟨g, o + j, none⟩ = some u := by
  obtain ⟨cur, hg, _, _, _, _, hx⟩ := h
  simp [World.cell?, hg, hx j u hu]
theorem Row.frozen (h : Row w e size g o n cap xs) (j : Nat) : w.frozen? ⟨g, j, none⟩ = false := by
  obtain ⟨cur, hg, _⟩ := h
  simp [World.frozen?, hg]
theorem Row.le (h : Row w e size g o n cap xs) : n ≤ cap := by
  obtain ⟨cur, hg, h1, _⟩ := h
  exact h1
theorem Row.capLe (h : Row w e size g o n cap xs) : cap ≤ maxLen := by
  obtain ⟨cur, hg, _, h1, _⟩ := h
  exact h1
theorem Row.len (h : Row w e size g o n cap xs) : xs.length = n * size := by
  obtain ⟨cur, hg, _, _, _, h1, _⟩ := h
  exact h1
theorem Row.of_owns {base : Nat} (h : w.ownsRow base e size (.slice (some ⟨g, 0, none⟩) n cap) n xs) : Row w e size g 0 n cap xs := by
  obtain ⟨hl, h2⟩ := h
  rcases h2 with ⟨h2, _⟩ | ⟨g', cap', cur, hv, _, hg, hle, hcap, hsz, htake⟩
  · cases h2
  · cases hv
    refine ⟨cur, hg, hle, hcap, by omega, hl, fun j u hu => ?_⟩
    rw [← htake, List.getElem?_take] at hu
    split at hu
    · simpa using hu
    · cases hu
theorem Row.apart {e' size' g' o' n' cap' : Nat} {ys : List Value} (h : Row w e size g o n cap xs) (k : Row w e' size' g' o' n' cap' ys) (hne : e ≠ e') : g ≠ g' := by
  rintro rfl
  obtain ⟨c1, h1, _⟩ := h
  obtain ⟨c2, h2, _⟩ := k
  rw [h1] at h2
  cases h2
  exact hne rfl
theorem Row.not_mset (h : Row w e size g o n cap xs) {b m : Nat} {ks : List Key} (hm : MSet w b m ks) : g ≠ b := by
  obtain ⟨c1, h1, _⟩ := h
  exact hm.not_cells h1
theorem Row.made (cur : Array Value) (he : w.heap[g]? = some (.cells cur e (0, 0))) (hc : cur.size = 0) : Row w e size g 0 0 0 [] :=
  ⟨cur, he, Nat.le_refl _, Nat.zero_le _, by simp, by simp, by simp⟩
/-- The first element is let go. -/
theorem Row.tail {x : List Value} (h : Row w e size g o (n + 1) cap (x ++ xs)) (hx : x.length = size) : Row w e size g (o + size) n (cap - 1) xs := by
  obtain ⟨cur, hg, h1, h2, h3, h4, h5⟩ := h
  have hc : o + size + (cap - 1) * size ≤ cur.size := by
    obtain ⟨c, rfl⟩ : ∃ c, cap = c + 1 := ⟨cap - 1, by omega⟩
    rw [Nat.add_mul] at h3
    simp
    omega
  refine ⟨cur, hg, by omega, by omega, hc, ?_, fun j u hu => ?_⟩
  · rw [List.length_append, Nat.add_mul] at h4
    omega
  · have := h5 (size + j) u (by rw [List.getElem?_append_right (by omega)]; simpa [hx] using hu)
    rwa [← Nat.add_assoc] at this
theorem Row.empty (h : Row w e size g o n cap xs) (o' : Nat) (ho : o' ≤ o) : Row w e size g o' 0 0 [] := by
  obtain ⟨cur, hg, h1, h2, h3, h4, h5⟩ := h
  exact ⟨cur, hg, Nat.le_refl _, Nat.zero_le _, by simp; omega, by simp, by simp⟩
end

section
variable {P : Program} (w : World)
theorem run_append_mid_room (t ty e : TypeId) (i : TypeInfo) (ht : P.underlying t = some (.slice e)) (hi : P.info? e = some i)
    (g o sLen sCap : Nat) (cur : Array Value) (hg : w.heap[g]? = some (.cells cur e (0, 0)))
    (a : Addr) (m c : Nat) (news : List Value) (hl : news.length = m * i.size) (hnews : ∀ j u, news[j]? = some u → w.cell? (a.add j) = some u) (h1 : ∀ u ∈ news, u.oneCell' = true)
    (hroom : sLen + m ≤ sCap) (hfit : o + sLen * i.size + news.length ≤ cur.size) :
    (Builtin.append_ #[t, t] ty #[.slice (some ⟨g, o, none⟩) sLen sCap, .slice (some a) m c]).run P w =
      .ok (.slice (some ⟨g, o, none⟩) (sLen + m) sCap) (w.setRow g (cur.toList.take (o + sLen * i.size) ++ news ++ cur.toList.drop (o + sLen * i.size + news.length)).toArray) := by
  have hf := run_firstCells_some (P := P) w i.size m a m c news hl hnews
  have hst := run_storeCells_at P g (o + sLen * i.size) e news 0 cur w hg (by simpa using hfit) h1
  have hadd : (⟨g, o, none⟩ : Addr).add (sLen * i.size) = ⟨g, o + sLen * i.size, none⟩ := by unfold Addr.add; split <;> simp_all
  simp only [Nat.add_zero] at hst
  simp [Builtin.append_, run_underlying ht, sizeOf, typeInfo, hi, Builtin.lenOf, hroom, hf, hadd, hst]

/-- 'append' of one element onto a row. -/
theorem run_append_row (t ty e : TypeId) (i : TypeInfo) (z : Value) (size bytes : Nat) (ht : P.underlying t = some (.slice e)) (hi : P.info? e = some i) (hz : i.zero = some z)
    (hsize : i.size = size) (hby : i.bytes = bytes) (hzs : z.cells.size = size)
    (g o n cap : Nat) (xs : List Value) (hrow : Row w e size g o n cap xs)
    (a : Addr) (news : List Value) (hl : news.length = size) (hnews : ∀ j u, news[j]? = some u → w.cell? (a.add j) = some u) (h1 : ∀ u ∈ news, u.oneCell' = true)
    (h63 : n + 1 ≤ maxLen) (hbytes : (n + 1) * bytes ≤ 140737488355328) :
    ∃ g' o' cap' w', (Builtin.append_ #[t, t] ty #[.slice (some ⟨g, o, none⟩) n cap, .slice (some a) 1 1]).run P w = .ok (.slice (some ⟨g', o', none⟩) (n + 1) cap') w' ∧
      Row w' e size g' o' (n + 1) cap' (xs ++ news) ∧ w.grownBy w' (some g) ∧ (g' = g ∨ g' = w.heap.size) := by
  subst hsize
  subst hby
  obtain ⟨cur, hg, hle, hcap, hfit, hlen, hx⟩ := hrow
  have hnl : (xs ++ news).length = (n + 1) * i.size := by rw [List.length_append, hlen, hl, Nat.add_mul]; omega
  have hglt : g < w.heap.size := (Array.getElem?_eq_some_iff.1 hg).1
  by_cases hroom : n + 1 ≤ cap
  · have hmul : (n + 1) * i.size ≤ cap * i.size := Nat.mul_le_mul_right _ hroom
    rw [Nat.add_mul] at hmul
    have hr := run_append_mid_room (P := P) w t ty e i ht hi g o n cap cur hg a 1 1 news (by omega) hnews h1 hroom (by omega)
    refine ⟨g, o, cap, _, hr, ⟨_, setRow_heap w g cur _ e _ hg, hroom, hcap, ?_, hnl, fun j u hu => ?_⟩, ⟨rfl, rfl, rfl, by simp, fun k hk hne => setRow_other w g k _ (fun e => hne (by rw [e]))⟩, .inl rfl⟩
    · simp
      omega
    · by_cases hj : j < xs.length
      · rw [List.getElem?_append_left hj] at hu
        have := hx j u hu
        simp only [List.getElem?_toArray]
        rw [List.append_assoc, List.getElem?_append_left (by simp; omega), List.getElem?_take, if_pos (by omega)]
        simpa using this
      · rw [List.getElem?_append_right (by omega)] at hu
        simp only [List.getElem?_toArray]
        have h2 : j - xs.length < news.length := (List.getElem?_eq_some_iff.1 hu).1
        rw [List.append_assoc, List.getElem?_append_right (by simp; omega), List.getElem?_append_left (by simp; omega)]
        rw [← hu]
        congr 1
        simp
        omega
  · have holds : ∀ j u, xs[j]? = some u → w.cell? ((⟨g, o, none⟩ : Addr).add j) = some u := fun j u hu => by
      have hadd : (⟨g, o, none⟩ : Addr).add j = ⟨g, o + j, none⟩ := by unfold Addr.add; split <;> simp_all
      rw [hadd]
      simp [World.cell?, hg, hx j u hu]
    have hr := run_append_grow (P := P) w t ty e i z ht hi hz ⟨g, o, none⟩ n cap xs hlen holds a 1 1 news (by omega) hnews (by omega) (by simp only [maxLen] at h63; omega) (growslice_fits (by omega) hbytes)
    refine ⟨_, _, _, _, hr, ⟨_, MapKept.heap_alloc w.drew _ |>.1, grownCap_ge _ _ _ _, grownCap_le_maxLen _ _ _ _ h63, ?_, hnl, fun j u hu => ?_⟩, ⟨rfl, rfl, rfl, by simp, fun k hk _ => Below.heap_alloc w.drew _ k hk⟩, .inr rfl⟩
    · have := grownCap_ge w (n + 1) cap e
      simp only [Array.size_append, List.size_toArray, size_zeroCells, hzs, Nat.zero_add]
      rw [hlen, hl]
      have e1 : grownCap w (n + 1) cap e * i.size = (n + 1) * i.size + (grownCap w (n + 1) cap e - (n + 1)) * i.size := by rw [← Nat.add_mul]; congr 1; omega
      rw [e1, Nat.add_mul]
      omega
    · have h2 : j < (xs ++ news).length := (List.getElem?_eq_some_iff.1 hu).1
      rw [Nat.zero_add, Array.getElem?_append_left (by simpa using h2)]
      simpa using hu

theorem wp_append_row {o' : Oper} {a' : Act} {K : Act → World → Prop} {Q : Exit → Act → World → Prop} (s x : Operand) (t : TypeId)
    (ho : o'.op = .call { callee := .builtin .append, args := #[s, x], argTypes := #[t, t] })
    (e : TypeId) (i : TypeInfo) (z : Value) (size bytes : Nat) (ht : P.underlying t = some (.slice e)) (hi : P.info? e = some i) (hz : i.zero = some z)
    (hsize : i.size = size) (hby : i.bytes = bytes) (hzs : z.cells.size = size)
    (g o n cap : Nat) (xs : List Value) (hs : a'.eval s = .slice (some ⟨g, o, none⟩) n cap) (hrow : Row w e size g o n cap xs)
    (a : Addr) (news : List Value) (hxe : a'.eval x = .slice (some a) 1 1) (hl : news.length = size) (hnews : ∀ j u, news[j]? = some u → w.cell? (a.add j) = some u) (h1 : ∀ u ∈ news, u.oneCell' = true)
    (h63 : n + 1 ≤ maxLen) (hbytes : (n + 1) * bytes ≤ 140737488355328)
    (h : ∀ g' o2 cap' w', Row w' e size g' o2 (n + 1) cap' (xs ++ news) → w.grownBy w' (some g) → (g' = g ∨ g' = w.heap.size) → K (a'.put o'.dst (.slice (some ⟨g', o2, none⟩) (n + 1) cap')) w') : o'.wp P a' w K Q := by
  obtain ⟨g', o2, cap', w', hr, h2, h3, h4⟩ := run_append_row (P := P) w t o'.type e i z size bytes ht hi hz hsize hby hzs g o n cap xs hrow a news hl hnews h1 h63 hbytes
  unfold Oper.wp execOp
  simp only [ho, resolve, invoke, builtin, Sem.run_bind, Sem.run_pure, Result.andThen_ok, List.map_toArray, List.map_cons, List.map_nil, hs, hxe, hr]
  exact h g' o2 cap' w' h2 h3 h4

theorem wpList_append_row {ops : Array Oper} {rest : List Oper} {o' : Oper} {a' : Act} {Q : Exit → Act → World → Prop} (hgd : o'.guard = none) (s x : Operand) (t : TypeId)
    (ho : o'.op = .call { callee := .builtin .append, args := #[s, x], argTypes := #[t, t] })
    (e : TypeId) (i : TypeInfo) (z : Value) (size bytes : Nat) (ht : P.underlying t = some (.slice e)) (hi : P.info? e = some i) (hz : i.zero = some z)
    (hsize : i.size = size) (hby : i.bytes = bytes) (hzs : z.cells.size = size)
    (g o n cap : Nat) (xs : List Value) (hs : a'.eval s = .slice (some ⟨g, o, none⟩) n cap) (hrow : Row w e size g o n cap xs)
    (a : Addr) (news : List Value) (hxe : a'.eval x = .slice (some a) 1 1) (hl : news.length = size) (hnews : ∀ j u, news[j]? = some u → w.cell? (a.add j) = some u) (h1 : ∀ u ∈ news, u.oneCell' = true)
    (h63 : n + 1 ≤ maxLen) (hbytes : (n + 1) * bytes ≤ 140737488355328)
    (h : ∀ g' o2 cap' w', Row w' e size g' o2 (n + 1) cap' (xs ++ news) → w.grownBy w' (some g) → (g' = g ∨ g' = w.heap.size) → wpList P ops Q rest (a'.put o'.dst (.slice (some ⟨g', o2, none⟩) (n + 1) cap')) w') : wpList P ops Q (o' :: rest) a' w :=
  wpList_plain hgd fun _ hK => wp_append_row w s x t ho e i z size bytes ht hi hz hsize hby hzs g o n cap xs hs hrow a news hxe hl hnews h1 h63 hbytes fun g' o2 cap' w' h2 h3 h4 => hK _ _ (h g' o2 cap' w' h2 h3 h4)

theorem step_append_row {ops : Array Oper} {o' : Oper} {a' : Act} {K : Act → World → Prop} {Q : Exit → Act → World → Prop} {E : Prop} (hgd : o'.guard = none) (s x : Operand) (t : TypeId)
    (ho : o'.op = .call { callee := .builtin .append, args := #[s, x], argTypes := #[t, t] })
    (e : TypeId) (i : TypeInfo) (z : Value) (size bytes : Nat) (ht : P.underlying t = some (.slice e)) (hi : P.info? e = some i) (hz : i.zero = some z)
    (hsize : i.size = size) (hby : i.bytes = bytes) (hzs : z.cells.size = size)
    (g o n cap : Nat) (xs : List Value) (hs : a'.eval s = .slice (some ⟨g, o, none⟩) n cap) (hrow : Row w e size g o n cap xs)
    (a : Addr) (news : List Value) (hxe : a'.eval x = .slice (some a) 1 1) (hl : news.length = size) (hnews : ∀ j u, news[j]? = some u → w.cell? (a.add j) = some u) (h1 : ∀ u ∈ news, u.oneCell' = true)
    (h63 : n + 1 ≤ maxLen) (hbytes : (n + 1) * bytes ≤ 140737488355328)
    (h : ∀ g' o2 cap' w', Row w' e size g' o2 (n + 1) cap' (xs ++ news) → w.grownBy w' (some g) → (g' = g ∨ g' = w.heap.size) → K (a'.put o'.dst (.slice (some ⟨g', o2, none⟩) (n + 1) cap')) w') :
    if Region.wanted o' (yielded ops a'.tmps) = true then Oper.wp P o' a' w K Q else E := by
  have hw : Region.wanted o' (yielded ops a'.tmps) = true := by simp [Region.wanted, hgd]
  rw [if_pos hw]
  exact wp_append_row w s x t ho e i z size bytes ht hi hz hsize hby hzs g o n cap xs hs hrow a news hxe hl hnews h1 h63 hbytes h
end

/-! ### the entries of the queue -/
abbrev Ent := Key × Int
/-- A key with its time in nanoseconds: five cells. -/
def ent (e : Ent) : List Value := [.string e.1.1, .int .u64 (e.1.2 : Int), .int .u64 (e.2 % 1000000000), .int .i64 (e.2 / 1000000000), .pointer none]
def ents (es : List Ent) : List Value := es.flatMap ent
theorem ents_cons (e : Ent) (es : List Ent) : ents (e :: es) = ent e ++ ents es := rfl
theorem ents_snoc (e : Ent) (es : List Ent) : ents (es ++ [e]) = ents es ++ ent e := by simp [ents]
theorem ents_length (es : List Ent) : (ents es).length = es.length * 5 := by
  induction es with
  | nil => rfl
  | cons e es ih => rw [ents_cons, List.length_append, ih, List.length_cons, Nat.add_mul]; simp [ent]; omega
theorem info41 : (Yba.prog.info? 41).map (fun i => (i.zero, i.size, i.bytes)) = some (some (.agg #[.string ⟨#[]⟩, .int .u64 0, .int .u64 0, .int .i64 0, .pointer none]), 5, 48) := by kernel_rfl
theorem info38 : (Yba.prog.info? 38).map (fun i => (i.zero, i.size, i.bytes)) = some (some (.agg #[.string ⟨#[]⟩, .int .u64 0]), 2, 24) := by kernel_rfl
theorem info2 : (Yba.prog.info? 2).map (fun i => (i.zero, i.size, i.bytes)) = some (some (.int .i64 0), 1, 8) := by kernel_rfl
theorem info80 : (Yba.prog.info? 80).map (fun i => (i.zero, i.size, i.bytes)) = some (some (.pointer none), 1, 8) := by kernel_rfl
theorem info5 : (Yba.prog.info? 5).map (fun i => (i.zero, i.size, i.bytes)) = some (some (.int .u8 0), 1, 1) := by kernel_rfl

/-! ### the machine -/
def Mach (w : World) (m : Nat) (name : ByteArray) (maxB : Int) (h : Nat) (L : Int) (mp : Nat) (wt : Value) (added : Int) (fv : Value) : Prop :=
  ∃ cur, w.heap[m]? = some (.cells cur 74 (0, 0)) ∧ cur[0]? = some (.string name) ∧ cur[19]? = some (.int .i64 maxB) ∧ cur[24]? = some (.iface 42 (.pointer (some ⟨h, 0, none⟩))) ∧ cur[41]? = some wt ∧ cur[43]? = some (.int .u64 added) ∧
    cur[51]? = some (.int .i64 L) ∧ cur[52]? = some (.map (some mp)) ∧ cur[53]? = some fv
section
variable {w : World} {m : Nat} {name : ByteArray} {maxB : Int} {h : Nat} {L : Int} {mp : Nat} {wt : Value} {added : Int} {fv : Value}
theorem Mach.same {w' : World} (hm : Mach w m name maxB h L mp wt added fv) (hs : w'.heap[m]? = w.heap[m]?) : Mach w' m name maxB h L mp wt added fv := by
  obtain ⟨cur, hg, r⟩ := hm
  exact ⟨cur, hs.trans hg, r⟩
theorem Mach.lt (hm : Mach w m name maxB h L mp wt added fv) : m < w.heap.size := by
  obtain ⟨cur, hg, _⟩ := hm
  exact (Array.getElem?_eq_some_iff.1 hg).1
theorem Kept.mach {S : Nat → Prop} {w' : World} (hk : Kept S w w') (hm : Mach w m name maxB h L mp wt added fv) (hS : ¬ S m) : Mach w' m name maxB h L mp wt added fv := hm.same (hk.block m hm.lt hS)
theorem Mach.cells (hm : Mach w m name maxB h L mp wt added fv) : w.cell? ⟨m, 0, none⟩ = some (.string name) ∧ w.cell? ⟨m, 19, none⟩ = some (.int .i64 maxB) ∧ w.cell? ⟨m, 24, none⟩ = some (.iface 42 (.pointer (some ⟨h, 0, none⟩))) ∧
    w.cell? ⟨m, 41, none⟩ = some wt ∧ w.cell? ⟨m, 43, none⟩ = some (.int .u64 added) ∧ w.cell? ⟨m, 51, none⟩ = some (.int .i64 L) ∧ w.cell? ⟨m, 52, none⟩ = some (.map (some mp)) ∧ w.cell? ⟨m, 53, none⟩ = some fv := by
  obtain ⟨cur, hg, r⟩ := hm
  simpa [World.cell?, hg] using r
theorem Mach.frozen (hm : Mach w m name maxB h L mp wt added fv) (o : Nat) : w.frozen? ⟨m, o, none⟩ = false := by
  obtain ⟨cur, hg, r⟩ := hm
  simp [World.frozen?, hg]
theorem Mach.setForget (hm : Mach w m name maxB h L mp wt added fv) (v : Value) : Mach (w.setCell ⟨m, 53, none⟩ v) m name maxB h L mp wt added v := by
  obtain ⟨cur, hg, h1, h2, h3, h4, h5, h6, h7, h8⟩ := hm
  have hs := (Array.getElem?_eq_some_iff.1 h8).1
  refine ⟨cur.setIfInBounds 53 v, ?_, ?_, ?_, ?_, ?_, ?_, ?_, ?_, ?_⟩
  · simp [World.setCell, Array.getElem?_modify, hg]
  all_goals simp [*]
theorem Mach.setWaiting (hm : Mach w m name maxB h L mp wt added fv) (v : Value) : Mach (w.setCell ⟨m, 41, none⟩ v) m name maxB h L mp v added fv := by
  obtain ⟨cur, hg, h1, h2, h3, h4, h5, h6, h7, h8⟩ := hm
  have hs := (Array.getElem?_eq_some_iff.1 h4).1
  refine ⟨cur.setIfInBounds 41 v, ?_, ?_, ?_, ?_, ?_, ?_, ?_, ?_, ?_⟩
  · simp [World.setCell, Array.getElem?_modify, hg]
  all_goals simp [*]
theorem Mach.setAdded (hm : Mach w m name maxB h L mp wt added fv) (v : Int) : Mach (w.setCell ⟨m, 43, none⟩ (.int .u64 v)) m name maxB h L mp wt v fv := by
  obtain ⟨cur, hg, h1, h2, h3, h4, h5, h6, h7, h8⟩ := hm
  have hs := (Array.getElem?_eq_some_iff.1 h5).1
  refine ⟨cur.setIfInBounds 43 (.int .u64 v), ?_, ?_, ?_, ?_, ?_, ?_, ?_, ?_, ?_⟩
  · simp [World.setCell, Array.getElem?_modify, hg]
  all_goals simp [*]
theorem Mach.not_row (hm : Mach w m name maxB h L mp wt added fv) {e size g o n cap : Nat} {xs : List Value} (k : Row w e size g o n cap xs) (hne : e ≠ 74) : g ≠ m := by
  rintro rfl
  obtain ⟨cur, hg, r⟩ := hm
  obtain ⟨c2, h2, _⟩ := k
  rw [hg] at h2
  cases h2
  exact hne rfl
theorem Mach.not_mset (hm : Mach w m name maxB h L mp wt added fv) {b n : Nat} {ks : List Key} (k : MSet w b n ks) : m ≠ b := by
  obtain ⟨cur, hg, r⟩ := hm
  exact k.not_cells hg
end
end Go.Proofs.Ybulkctoc.HT
