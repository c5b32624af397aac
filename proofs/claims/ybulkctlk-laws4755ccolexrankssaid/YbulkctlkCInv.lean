/- THE TABLE UNDER CONSTRUCTION: what each step does to it ('newClassTable', function 13). -/
import Derived.Test.YbulkctlkRows
import Derived.Test.YbulkctlkCPlain
import Derived.WalkKit
import Derived.ProofKit
import Derived.WalkLawsBesides
import Derived.Below
import Derived.Deep.RegionHeld3
import Derived.Test.YbulkctlkCAppend
namespace Go.Proofs.Ybulkctlk.CT
open Go.ChangeShapes Go.WideShapes Go.ChangeAt Go.RowKit Go.Proofs.Ybulkctlk.CP Go.Proofs.Ybulkctlk.CA
set_option linter.unusedVariables false

theorem info3 : (Yba.prog.info? 3).map (fun i => (i.zero, i.size, i.bytes)) = some (some (.int .i64 0), 1, 8) := by kernel_rfl
theorem info30 : (Yba.prog.info? 30).map (fun i => (i.zero, i.size, i.bytes)) = some (some (.slice none 0 0), 1, 24) := by kernel_rfl

/-- The column of C(·, j), as cells. -/
def col (k j : Nat) : List Value := (List.range (k + 1)).map fun a => .int .i64 (C a j)
/-- The row of columns. -/
def rows (k s : Nat) (gs : Nat → Nat) : List Value := (List.range s).map fun j => .slice (some ⟨gs j, 0, none⟩) (k + 1) (k + 1)
def firsts (k n : Nat) : List Value := (List.range n).map fun j => .int .i64 (F k j)

/-- The table under construction: nB columns and nF first numbers are in. -/
structure Inv (w0 wr : World) (b k m nB nF gB capB gF capF : Nat) (gs : Nat → Nat) (parts : Int) : Prop where
  base : w0.heap.size ≤ b
  box : wr.heap[b]? = some (.cells #[.int .i64 k, .int .i64 m, .slice (some ⟨gB, 0, none⟩) nB capB, .slice (some ⟨gF, 0, none⟩) nF capF, .int .i64 parts] 56 (0, 0))
  ownB : wr.ownsRow w0.heap.size 30 1 (.slice (some ⟨gB, 0, none⟩) nB capB) nB (rows k nB gs)
  ownF : wr.ownsRow w0.heap.size 3 1 (.slice (some ⟨gF, 0, none⟩) nF capF) nF (firsts k nF)
  cols : ∀ j, j < nB → gs j ≠ gF ∧ w0.heap.size ≤ gs j ∧ wr.heap[gs j]? = some (.cells (col k j).toArray 3 (0, 0))
  below : Below w0.heap.size w0 wr
  p0 : 0 ≤ parts
  p1 : parts ≤ nB * 20971520

theorem cell_of_heap {w : World} {g i : Nat} {cs : Array Value} {t : TypeId} {fr : Nat × Nat} {v : Value} (h : w.heap[g]? = some (.cells cs t fr)) (hv : cs[i]? = some v) : w.cell? ⟨g, i, none⟩ = some v := by
  rw [cell_of_row w g i cs t fr h, hv]

theorem lt_of_heap {w : World} {g : Nat} {o : Obj} (h : w.heap[g]? = some o) : g < w.heap.size := by
  rcases Nat.lt_or_ge g w.heap.size with hl | hl
  · exact hl
  · rw [Array.getElem?_eq_none hl] at h; cases h

theorem col_get {k j a : Nat} (h : a ≤ k) : (col k j)[a]? = some (.int .i64 (C a j)) := by
  unfold col; simp [List.getElem?_map, List.getElem?_range (show a < k + 1 by omega)]
theorem rows_get {k s j : Nat} {gs : Nat → Nat} (h : j < s) : (rows k s gs)[j]? = some (.slice (some ⟨gs j, 0, none⟩) (k + 1) (k + 1)) := by
  unfold rows; simp [List.getElem?_map, List.getElem?_range h]
theorem firsts_get {k n j : Nat} (h : j < n) : (firsts k n)[j]? = some (.int .i64 (F k j)) := by
  unfold firsts; simp [List.getElem?_map, List.getElem?_range h]
theorem col_of {k j : Nat} {xs : List Value} (hl : xs.length = k + 1) (h : ∀ a, a ≤ k → xs[a]? = some (.int .i64 (C a j))) : xs = col k j := by
  apply List.ext_getElem?
  intro a
  by_cases ha : a ≤ k
  · rw [h a ha, col_get ha]
  · rw [List.getElem?_eq_none (by omega), List.getElem?_eq_none (by simp [col]; omega)]

/-- A row that the call made, its length its capacity: its block, whole. -/
theorem owned_heap {w : World} {base e g n : Nat} {xs : List Value} (h : w.ownsRow base e 1 (.slice (some ⟨g, 0, none⟩) n n) n xs) : w.heap[g]? = some (.cells xs.toArray e (0, 0)) ∧ xs.length = n := by
  have hl := h.1
  rcases h.2 with ⟨h', _⟩ | ⟨g', cap', cur, h', _, hg, _, _, hcs, htake⟩
  · simp at h'
  · simp only [Value.slice.injEq, Option.some.injEq, Addr.mk.injEq, and_true, true_and] at h'
    obtain ⟨rfl, rfl⟩ := h'
    refine ⟨?_, by omega⟩
    rw [hg]
    have : cur.toList = xs := by rw [← htake, List.take_of_length_le (by simp; omega)]
    rw [← this]

/-- Loop 1's state. -/
structure One (w wr : World) (k m B1 i : Nat) (xs : List Value) : Prop where
  own : wr.ownsRow w.heap.size 3 1 (.slice (some ⟨w.heap.size, 0, none⟩) (k + 1) (k + 1)) (k + 1) xs
  ones : ∀ j, j < i → xs[j]? = some (.int .i64 1)
  hB : wr.heap[B1]? = some (.cells #[.slice (some ⟨w.heap.size, 0, none⟩) (k + 1) (k + 1)] 30 (0, 0))
  hF : wr.heap[B1 + 1]? = some (.cells #[.int .i64 0, .int .i64 1] 3 (0, 0))
  hT : wr.heap[B1 + 1 + 1]? = some (.cells #[.int .i64 k, .int .i64 m, .slice (some ⟨B1, 0, none⟩) 1 1, .slice (some ⟨B1 + 1, 0, none⟩) 2 2, .int .i64 0] 56 (0, 0))
  below : Below w.heap.size w wr
  lt : w.heap.size < B1

theorem One.start {w w1 : World} {k m : Nat} {xs : List Value} (hown : w1.ownsRow w.heap.size 3 1 (.slice (some ⟨w.heap.size, 0, none⟩) (k + 1) (k + 1)) (k + 1) xs) (hb : Below w.heap.size w w1) (hs : w.heap.size < w1.heap.size) :
    One w (((w1.alloc (.cells #[.slice (some ⟨w.heap.size, 0, none⟩) (k + 1) (k + 1)] 30)).alloc (.cells #[.int .i64 0, .int .i64 1] 3)).alloc
      (.cells #[.int .i64 k, .int .i64 m, .slice (some ⟨w1.heap.size, 0, none⟩) 1 1, .slice (some ⟨w1.heap.size + 1, 0, none⟩) 2 2, .int .i64 0] 56)) k m w1.heap.size 0 xs := by
  refine ⟨((hown.alloc _).alloc _).alloc _, by omega, ?_, ?_, ?_, ((hb.alloc (by omega) _).alloc (by simp; omega) _).alloc (by simp; omega) _, hs⟩
  · rw [Below.heap_alloc _ _ _ (by simp; omega), Below.heap_alloc _ _ _ (by simp)]; exact heap_alloc_new _ _
  · rw [Below.heap_alloc _ _ _ (by simp)]; have := heap_alloc_new (w1.alloc (.cells #[.slice (some ⟨w.heap.size, 0, none⟩) (k + 1) (k + 1)] 30)) (.cells #[.int .i64 0, .int .i64 1] 3); simpa using this
  · have := heap_alloc_new ((w1.alloc (.cells #[.slice (some ⟨w.heap.size, 0, none⟩) (k + 1) (k + 1)] 30)).alloc (.cells #[.int .i64 0, .int .i64 1] 3)) (.cells #[.int .i64 k, .int .i64 m, .slice (some ⟨w1.heap.size, 0, none⟩) 1 1, .slice (some ⟨w1.heap.size + 1, 0, none⟩) 2 2, .int .i64 0] 56)
    simpa using this

theorem One.step {w wr : World} {k m B1 i : Nat} {xs : List Value} (h : One w wr k m B1 i xs) (hi : i ≤ k) : One w (wr.setCell ⟨w.heap.size, i, none⟩ (.int .i64 1)) k m B1 (i + 1) (xs.set i (.int .i64 1)) := by
  have hl := h.own.1
  have hlt := h.lt
  refine ⟨(h.own.stored i _).1, fun j hj => ?_, ?_, ?_, ?_, h.below.setCell (Nat.le_refl _) _, h.lt⟩
  · rw [List.getElem?_set]
    by_cases hij : i = j
    · subst hij; rw [if_pos rfl, if_pos (by omega)]
    · rw [if_neg hij]; exact h.ones j (by omega)
  · rw [Below.heap_setCell _ _ _ _ (by simp; omega)]; exact h.hB
  · rw [Below.heap_setCell _ _ _ _ (by simp; omega)]; exact h.hF
  · rw [Below.heap_setCell _ _ _ _ (by simp; omega)]; exact h.hT

theorem One.inv {w wr : World} {k m B1 : Nat} {xs : List Value} (h : One w wr k m B1 (k + 1) xs) : Inv w wr (B1 + 1 + 1) k m 1 2 B1 1 (B1 + 1) 2 (fun _ => w.heap.size) 0 := by
  have hlt := h.lt
  obtain ⟨hh, hl⟩ := owned_heap h.own
  have hx : xs = col k 0 := col_of hl fun a ha => by rw [h.ones a (by omega), C_zero]; rfl
  rw [hx] at hh
  refine ⟨by omega, h.hT, ⟨rfl, .inr ⟨B1, 1, _, rfl, by omega, h.hB, Nat.le_refl _, by decide, rfl, rfl⟩⟩, ⟨rfl, .inr ⟨B1 + 1, 2, _, rfl, by omega, h.hF, Nat.le_refl _, by decide, rfl, rfl⟩⟩, fun j hj => ⟨by simp; omega, Nat.le_refl _, ?_⟩, h.below, by omega, by omega⟩
  obtain rfl : j = 0 := by omega
  exact hh

/-- What an owned row's block looks like. -/
theorem row_heap {w : World} {base e g n cap : Nat} {xs : List Value} (h : w.ownsRow base e 1 (.slice (some ⟨g, 0, none⟩) n cap) n xs) : base ≤ g ∧ ∃ cur, w.heap[g]? = some (.cells cur e (0, 0)) := by
  rcases h.2 with ⟨h', _⟩ | ⟨g', cap', cur, h', hb, hg, _⟩
  · simp at h'
  · simp only [Value.slice.injEq, Option.some.injEq, Addr.mk.injEq, and_true, true_and] at h'
    obtain ⟨rfl, rfl⟩ := h'
    exact ⟨hb, _, hg⟩

theorem row_same {w w' : World} {base e g n cap : Nat} {xs : List Value} (h : w.ownsRow base e 1 (.slice (some ⟨g, 0, none⟩) n cap) n xs) (hs : w'.heap[g]? = w.heap[g]?) : w'.ownsRow base e 1 (.slice (some ⟨g, 0, none⟩) n cap) n xs := by
  refine ⟨h.1, ?_⟩
  rcases h.2 with ⟨h', h0⟩ | ⟨g', cap', cur, h', hb, hg, r⟩
  · simp at h'
  · simp only [Value.slice.injEq, Option.some.injEq, Addr.mk.injEq, and_true, true_and] at h'
    obtain ⟨rfl, rfl⟩ := h'
    exact .inr ⟨_, _, cur, rfl, hb, by rw [hs]; exact hg, r⟩

section
variable {w wr : World} {b k m nB nF gB capB gF capF : Nat} {gs : Nat → Nat} {parts : Int}
theorem Inv.b_lt (h : Inv w wr b k m nB nF gB capB gF capF gs parts) : b < wr.heap.size := lt_of_heap h.box
theorem Inv.gB_ne (h : Inv w wr b k m nB nF gB capB gF capF gs parts) : gB ≠ b ∧ gB ≠ gF ∧ (∀ j, j < nB → gB ≠ gs j) ∧ gB < wr.heap.size ∧ w.heap.size ≤ gB := by
  obtain ⟨h1, cur, hc⟩ := row_heap h.ownB
  obtain ⟨_, cuf, hf⟩ := row_heap h.ownF
  refine ⟨fun e => ?_, fun e => ?_, fun j hj e => ?_, lt_of_heap hc, h1⟩
  · have := h.box; rw [← e, hc] at this; simp at this
  · rw [← e, hc] at hf; simp at hf
  · have := (h.cols j hj).2.2; rw [← e, hc] at this; simp at this
theorem Inv.gF_ne (h : Inv w wr b k m nB nF gB capB gF capF gs parts) : gF ≠ b ∧ gF < wr.heap.size ∧ w.heap.size ≤ gF := by
  obtain ⟨h1, cur, hc⟩ := row_heap h.ownF
  refine ⟨fun e => ?_, lt_of_heap hc, h1⟩
  have := h.box; rw [← e, hc] at this; simp at this
theorem Inv.gs_ne (h : Inv w wr b k m nB nF gB capB gF capF gs parts) (j : Nat) (hj : j < nB) : gs j ≠ b ∧ gs j < wr.heap.size := by
  have hc := (h.cols j hj).2.2
  refine ⟨fun e => ?_, lt_of_heap hc⟩
  have := h.box; rw [← e, hc] at this; simp at this

/-- Nothing of the table is touched. -/
theorem Inv.same {w2 : World} (h : Inv w wr b k m nB nF gB capB gF capF gs parts) (hb : Below w.heap.size w w2) (hs : ∀ g, g < wr.heap.size → (g = b ∨ g = gB ∨ g = gF ∨ ∃ j, j < nB ∧ g = gs j) → w2.heap[g]? = wr.heap[g]?) :
    Inv w w2 b k m nB nF gB capB gF capF gs parts :=
  ⟨h.base, by rw [hs b h.b_lt (.inl rfl)]; exact h.box, row_same h.ownB (hs gB h.gB_ne.2.2.2.1 (.inr (.inl rfl))), row_same h.ownF (hs gF h.gF_ne.2.1 (.inr (.inr (.inl rfl)))),
    fun j hj => ⟨(h.cols j hj).1, (h.cols j hj).2.1, by rw [hs _ (h.gs_ne j hj).2 (.inr (.inr (.inr ⟨j, hj, rfl⟩)))]; exact (h.cols j hj).2.2⟩, hb, h.p0, h.p1⟩

theorem Inv.later {w2 : World} (h : Inv w wr b k m nB nF gB capB gF capF gs parts) (hb : Below w.heap.size w w2) (hs : ∀ g, g < wr.heap.size → w2.heap[g]? = wr.heap[g]?) : Inv w w2 b k m nB nF gB capB gF capF gs parts :=
  h.same hb fun g hg _ => hs g hg

/-- The column under construction is written. -/
theorem Inv.column {gc i : Nat} {v : Value} (h : Inv w wr b k m nB nF gB capB gF capF gs parts) (h1 : gB < gc) (h2 : gF < gc) (h3 : b < gc) (h4 : ∀ j, j < nB → gs j < gc) (h5 : w.heap.size ≤ gc) :
    Inv w (wr.setCell ⟨gc, i, none⟩ v).drew b k m nB nF gB capB gF capF gs parts :=
  h.same (h.below.setCell h5 _).drew fun g hg hc => Below.heap_setCell wr ⟨gc, i, none⟩ v g (by
    rcases hc with e | e | e | ⟨j, hj, e⟩
    · simp; omega
    · simp; omega
    · simp; omega
    · have := h4 j hj; simp; omega)

/-- A field of the box is written. -/
theorem box_set {w1 : World} {b i : Nat} {cs : Array Value} {t : TypeId} (v : Value) (h : w1.heap[b]? = some (.cells cs t (0, 0))) : (w1.setCell ⟨b, i, none⟩ v).heap[b]? = some (.cells (cs.setIfInBounds i v) t (0, 0)) :=
  heap_setCell_same w1 b i cs t v h

/-- 't.parts += ..' -/
theorem Inv.setParts {p2 : Int} {w2 : World} (h : Inv w wr b k m nB nF gB capB gF capF gs parts) (h0 : 0 ≤ p2) (h1 : p2 ≤ nB * 20971520) (hw : w2.heap = (wr.setCell ⟨b, 4, none⟩ (.int .i64 p2)).heap) (hb : Below w.heap.size w w2) :
    Inv w w2 b k m nB nF gB capB gF capF gs p2 := by
  have hs : ∀ g, g ≠ b → w2.heap[g]? = wr.heap[g]? := fun g hg => by rw [hw]; exact Below.heap_setCell _ _ _ _ hg
  refine ⟨h.base, by rw [hw, box_set _ h.box]; rfl, row_same h.ownB (hs gB h.gB_ne.1), row_same h.ownF (hs gF h.gF_ne.1), fun j hj => ⟨(h.cols j hj).1, (h.cols j hj).2.1, by rw [hs _ (h.gs_ne j hj).1]; exact (h.cols j hj).2.2⟩, hb, h0, h1⟩

theorem rows_snoc (k n gc : Nat) (gs : Nat → Nat) : rows k n gs ++ [.slice (some ⟨gc, 0, none⟩) (k + 1) (k + 1)] = rows k (n + 1) (fun j => if j = n then gc else gs j) := by
  unfold rows
  rw [List.range_succ, List.map_append]
  congr 1
  · apply List.map_congr_left
    intro j hj
    have : j ≠ n := by have := List.mem_range.1 hj; omega
    simp [this]
  · simp

/-- 't.binomial = append(t.binomial, column)' -/
theorem Inv.pushB {w1 X : World} {gc g' cap' : Nat} (h : Inv w wr b k m nB nF gB capB gF capF gs parts) (hc : wr.heap[gc]? = some (.cells (col k nB).toArray 3 (0, 0))) (hne : gc ≠ gF) (hgc : w.heap.size ≤ gc)
    (hXs : wr.heap.size ≤ X.heap.size) (hX : ∀ g, g < wr.heap.size → X.heap[g]? = wr.heap[g]?)
    (ho : w1.ownsRow w.heap.size 30 1 (.slice (some ⟨g', 0, none⟩) (nB + 1) cap') (nB + 1) (rows k nB gs ++ [.slice (some ⟨gc, 0, none⟩) (k + 1) (k + 1)])) (ht : Two X w1 gB g')
    (hbX : Below w.heap.size w X) :
    Inv w (w1.setCell ⟨b, 2, none⟩ (.slice (some ⟨g', 0, none⟩) (nB + 1) cap')) b k m (nB + 1) nF g' cap' gF capF (fun j => if j = nB then gc else gs j) parts := by
  have hg := ht.grown
  have hB := h.gB_ne
  have hF := h.gF_ne
  have hbl := h.b_lt
  have hgcl := lt_of_heap hc
  have hcB : gc ≠ gB := fun e => by
    obtain ⟨_, cur, hcc⟩ := row_heap h.ownB
    rw [e, hcc] at hc; simp at hc
  have hcb : gc ≠ b := fun e => by have := h.box; rw [← e, hc] at this; simp at this
  have hg'b : g' ≠ b := by
    rcases ht with ⟨e, _⟩ | ⟨e, _⟩
    · omega
    · omega
  have old : ∀ g, g < wr.heap.size → g ≠ gB → w1.heap[g]? = wr.heap[g]? := fun g hgl hgn => by
    rw [hg.block g (by omega) (by simp; exact hgn)]; exact hX g hgl
  have old2 : ∀ g, g < wr.heap.size → g ≠ gB → g ≠ b → (w1.setCell ⟨b, 2, none⟩ (.slice (some ⟨g', 0, none⟩) (nB + 1) cap')).heap[g]? = wr.heap[g]? := fun g hgl hgn hgb => by
    rw [Below.heap_setCell _ _ _ _ hgb]; exact old g hgl hgn
  refine ⟨h.base, ?_, ?_, row_same h.ownF (old2 gF hF.2.1 (fun e => hB.2.1 e.symm) hF.1), fun j hj => ?_, ?_, h.p0, by have := h.p1; omega⟩
  · rw [box_set (cs := #[.int .i64 k, .int .i64 m, .slice (some ⟨gB, 0, none⟩) nB capB, .slice (some ⟨gF, 0, none⟩) nF capF, .int .i64 parts]) (t := 56) _ (by rw [old b hbl (fun e => hB.1 e.symm)]; exact h.box)]; rfl
  · rw [rows_snoc] at ho
    exact row_same ho (Below.heap_setCell _ _ _ _ hg'b)
  · by_cases e : j = nB
    · subst e
      simp only [if_true]
      exact ⟨hne, hgc, by rw [old2 gc hgcl hcB hcb]; exact hc⟩
    · simp only [if_neg e]
      have hj' : j < nB := by omega
      exact ⟨(h.cols j hj').1, (h.cols j hj').2.1, by rw [old2 _ (h.gs_ne j hj').2 (fun e => hB.2.2.1 j hj' e.symm) (h.gs_ne j hj').1]; exact (h.cols j hj').2.2⟩
  · have hbw := h.below.size
    exact (hbX.grown hg (by have := hbX.size; omega) (fun k hk => by simp at hk; omega)).setCell h.base _

/-- 't.first = append(t.first, ..)' -/
theorem Inv.pushF {w1 w2 X : World} {g' cap' : Nat} (h : Inv w wr b k m nB nF gB capB gF capF gs parts)
    (hXs : wr.heap.size ≤ X.heap.size) (hX : ∀ g, g < wr.heap.size → X.heap[g]? = wr.heap[g]?)
    (ho : w1.ownsRow w.heap.size 3 1 (.slice (some ⟨g', 0, none⟩) (nF + 1) cap') (nF + 1) (firsts k nF ++ [.int .i64 (F k nF)])) (ht : Two X w1 gF g')
    (hbX : Below w.heap.size w X) (hw : w2.heap = (w1.setCell ⟨b, 3, none⟩ (.slice (some ⟨g', 0, none⟩) (nF + 1) cap')).heap) (hb2 : Below w.heap.size w1 w2) :
    Inv w w2 b k m nB (nF + 1) gB capB g' cap' gs parts := by
  have hg := ht.grown
  have hB := h.gB_ne
  have hF := h.gF_ne
  have hbl := h.b_lt
  have hg'b : g' ≠ b := by
    rcases ht with ⟨e, _⟩ | ⟨e, _⟩
    · omega
    · omega
  have old : ∀ g, g < wr.heap.size → g ≠ gF → w1.heap[g]? = wr.heap[g]? := fun g hgl hgn => by
    rw [hg.block g (by omega) (by simp; exact hgn)]; exact hX g hgl
  have old2 : ∀ g, g < wr.heap.size → g ≠ gF → g ≠ b → w2.heap[g]? = wr.heap[g]? := fun g hgl hgn hgb => by
    rw [hw, Below.heap_setCell _ _ _ _ hgb]; exact old g hgl hgn
  refine ⟨h.base, ?_, row_same h.ownB (old2 gB hB.2.2.2.1 hB.2.1 hB.1), ?_, fun j hj => ?_, ?_, h.p0, h.p1⟩
  · rw [hw, box_set (cs := #[.int .i64 k, .int .i64 m, .slice (some ⟨gB, 0, none⟩) nB capB, .slice (some ⟨gF, 0, none⟩) nF capF, .int .i64 parts]) (t := 56) _ (by rw [old b hbl (fun e => hF.1 e.symm)]; exact h.box)]; rfl
  · have e : firsts k nF ++ [.int .i64 (F k nF)] = firsts k (nF + 1) := by unfold firsts; rw [List.range_succ, List.map_append]; rfl
    rw [e] at ho
    exact row_same ho (by rw [hw]; exact Below.heap_setCell _ _ _ _ hg'b)
  · have hc := h.cols j hj
    refine ⟨fun e => ?_, hc.2.1, by rw [old2 _ (h.gs_ne j hj).2 hc.1 (h.gs_ne j hj).1]; exact hc.2.2⟩
    have := (h.gs_ne j hj).2
    rcases ht with ⟨e', _⟩ | ⟨e', _⟩
    · exact hc.1 (e.trans e')
    · omega
  · exact (hbX.grown hg (by have := hbX.size; omega) (fun k hk => by simp at hk; omega)).trans hb2
end

theorem keep_far {w : World} {g i g2 j : Nat} {v u : Value} (hne : g ≠ g2) (h : w.cell? ⟨g2, j, none⟩ = some u) : (w.setCell ⟨g, i, none⟩ v).cell? ⟨g2, j, none⟩ = some u := by
  rw [World.cell?_of_block (w := w) (Below.heap_setCell w ⟨g, i, none⟩ v g2 (fun e => hne e.symm))]; exact h
theorem keep_off {w : World} {g i j : Nat} {v u : Value} (hne : i ≠ j) (h : w.cell? ⟨g, j, none⟩ = some u) : (w.setCell ⟨g, i, none⟩ v).cell? ⟨g, j, none⟩ = some u := by
  have hab : (⟨g, i, none⟩ : Addr) ≠ ⟨g, j, none⟩ := fun e => hne (congrArg Addr.off e)
  have := World.cell?_setCell_other w ⟨g, i, none⟩ ⟨g, j, none⟩ v hab
  rw [this]; exact h

theorem zeros_get (n i : Nat) (h : i < n) : (madeCells #[.int .i64 0] n).toList[i]? = some (Value.int .i64 0) := by
  rw [toList_madeCells_one]; simp [h]

end Go.Proofs.Ybulkctlk.CT
