/- THE STATE OF THE LAW's TWO BUILDING LOOPS. -/
import Derived.Test.YbulkctocBytes
namespace Go.Proofs.Ybulkctoc.HT
open Go.ChangeShapes Go.WideShapes Go.ChangeAt Go.RowKit
set_option linter.unusedVariables false

/-- The entries (milliseconds) as the queue has them (nanoseconds). -/
def nsOf (es : List Ent) : List Ent := es.map fun e => (e.1, e.2 * 1000000)
def keyCells (es : List Ent) : List Value := es.flatMap fun e => [.string e.1.1, .int .u64 (e.1.2 : Int)]
def atCells (es : List Ent) : List Value := es.map fun e => .int .i64 e.2
theorem nsOf_length (es : List Ent) : (nsOf es).length = es.length := by simp [nsOf]
theorem nsOf_keys (es : List Ent) : (nsOf es).map (·.1) = es.map (·.1) := by simp [nsOf]
theorem nsOf_snoc (es : List Ent) (k : Key) (a : Int) : nsOf (es ++ [(k, a)]) = nsOf es ++ [(k, a * 1000000)] := by simp [nsOf]
theorem keyCells_snoc (es : List Ent) (k : Key) (a : Int) : keyCells (es ++ [(k, a)]) = keyCells es ++ [.string k.1, .int .u64 (k.2 : Int)] := by simp [keyCells]
theorem atCells_snoc (es : List Ent) (k : Key) (a : Int) : atCells (es ++ [(k, a)]) = atCells es ++ [.int .i64 a] := by simp [atCells]

def FitMs (es : List Ent) : Prop := (∀ e ∈ es, Good e.1 ∧ 0 ≤ e.2 ∧ e.2 ≤ 1099511627776) ∧ (es.map (·.1)).Nodup
theorem FitMs.ns {es : List Ent} (h : FitMs es) : Fit (nsOf es) := by
  refine ⟨fun e he => ?_, by rw [nsOf_keys]; exact h.2⟩
  obtain ⟨x, hx, rfl⟩ := List.mem_map.1 he
  have := h.1 x hx
  exact ⟨this.1, by simp only; omega, by simp only; omega⟩
theorem FitMs.snoc {es : List Ent} (h : FitMs es) (k : Key) (a : Int) (hk : Good k) (h0 : 0 ≤ a) (h1 : a ≤ 1099511627776) (hn : k ∉ es.map (·.1)) : FitMs (es ++ [(k, a)]) := by
  refine ⟨fun e he => ?_, ?_⟩
  · rcases List.mem_append.1 he with he | he
    · exact h.1 e he
    · simp at he
      subst he
      exact ⟨hk, h0, h1⟩
  · rw [List.map_append, List.nodup_append]
    refine ⟨h.2, by simp, fun x hx y hy => ?_⟩
    simp at hy
    subst hy
    intro e
    subst e
    exact hn hx

/-- The loops' state: B the first block of the law's own (the base time), B + 1 the map. -/
structure LR (w : World) (es : List Ent) (gf of cf gk ok ck ga oa ca : Nat) (wr : World) : Prop where
  rf : Row wr 41 5 gf of es.length cf (ents (nsOf es))
  rk : Row wr 38 2 gk ok es.length ck (keyCells es)
  ra : Row wr 2 1 ga oa es.length ca (atCells es)
  ms : MSet wr (w.heap.size + 1) es.length (es.map (·.1))
  bf : w.heap.size + 1 < gf
  bk : w.heap.size + 1 < gk
  ba : w.heap.size + 1 < ga
  fit : FitMs es
  base : wr.heap[w.heap.size]? = some (.cells #[.int .u64 0, .int .i64 0, .pointer none] 29 (0, 0))
  below : Below w.heap.size w wr

theorem LR.size {w wr : World} {es : List Ent} {gf of cf gk ok ck ga oa ca : Nat} (h : LR w es gf of cf gk ok ck ga oa ca wr) : w.heap.size + 2 < wr.heap.size + 1 := by
  have := h.ms.lt
  omega
/-- New blocks, and nothing else. -/
theorem LR.grow {w wr w' : World} {es : List Ent} {gf of cf gk ok ck ga oa ca : Nat} (h : LR w es gf of cf gk ok ck ga oa ca wr) (hk : Below wr.heap.size wr w') : LR w es gf of cf gk ok ck ga oa ca w' :=
  ⟨h.rf.same (hk.block _ h.rf.lt), h.rk.same (hk.block _ h.rk.lt), h.ra.same (hk.block _ h.ra.lt), h.ms.same (hk.block _ h.ms.lt), h.bf, h.bk, h.ba, h.fit, (hk.block _ (by have := h.ms.lt; omega)).trans h.base,
    h.below.trans (hk.mono h.below.size)⟩

/-- The rounds' new entry: the map, the queue, the keys, the times: each step turns one block. -/
theorem LR.step {w wr w1 w2 w3 w4 : World} {es : List Ent} {gf of cf gk ok ck ga oa ca : Nat} (h : LR w es gf of cf gk ok ck ga oa ca wr) {k : Key} {a : Int} (hk : Good k) (h0 : 0 ≤ a) (h1 : a ≤ 1099511627776) (hn : k ∉ es.map (·.1))
    {wa wb wc : World} (g1 : wr.grownBy w1 (some (w.heap.size + 1))) (m1 : MSet w1 (w.heap.size + 1) (es.length + 1) (es.map (·.1) ++ [k]))
    (ga1 : Below w1.heap.size w1 wa) {gf' of' cf' : Nat} (r2 : Row w2 41 5 gf' of' (es.length + 1) cf' (ents (nsOf es) ++ ent (k, a * 1000000))) (g2 : wa.grownBy w2 (some gf)) (l2 : gf' = gf ∨ gf' = wa.heap.size)
    (gb1 : Below w2.heap.size w2 wb) {gk' ok' ck' : Nat} (r3 : Row w3 38 2 gk' ok' (es.length + 1) ck' (keyCells es ++ [.string k.1, .int .u64 (k.2 : Int)])) (g3 : wb.grownBy w3 (some gk)) (l3 : gk' = gk ∨ gk' = wb.heap.size)
    (gc1 : Below w3.heap.size w3 wc) {ga' oa' ca' : Nat} (r4 : Row w4 2 1 ga' oa' (es.length + 1) ca' (atCells es ++ [.int .i64 a])) (g4 : wc.grownBy w4 (some ga)) (l4 : ga' = ga ∨ ga' = wc.heap.size) :
    LR w (es ++ [(k, a)]) gf' of' cf' gk' ok' ck' ga' oa' ca' w4 := by
  have hfk : gf ≠ gk := h.rf.apart h.rk (by decide)
  have hfa : gf ≠ ga := h.rf.apart h.ra (by decide)
  have hka : gk ≠ ga := h.rk.apart h.ra (by decide)
  have s0 := h.ms.lt
  have sf := h.rf.lt
  have sk := h.rk.lt
  have sa := h.ra.lt
  have z1 := g1.size
  have z2 := ga1.size
  have z3 := g2.size
  have z4 := gb1.size
  have z5 := g3.size
  have z6 := gc1.size
  have z7 := g4.size
  have b1 := h.bf
  have b2 := h.bk
  have b3 := h.ba
  have lf2 := r2.lt
  have lk3 := r3.lt
  have kept : ∀ x, x < wr.heap.size → x ≠ w.heap.size + 1 → x ≠ gf → x ≠ gk → x ≠ ga → w4.heap[x]? = wr.heap[x]? := fun x hx e1 e2 e3 e4 =>
    (g4.block x (by omega) (by simp; omega)).trans ((gc1.block x (by omega)).trans ((g3.block x (by omega) (by simp; omega)).trans ((gb1.block x (by omega)).trans ((g2.block x (by omega) (by simp; omega)).trans ((ga1.block x (by omega)).trans (g1.block x hx (by simp; omega)))))))
  have hl : (es ++ [(k, a)]).length = es.length + 1 := by simp
  refine ⟨?_, ?_, ?_, ?_, by omega, by omega, by omega, h.fit.snoc k a hk h0 h1 hn, ?_, ?_⟩
  · rw [hl, nsOf_snoc, ents_snoc]
    exact r2.same ((g4.block gf' (by omega) (by simp; omega)).trans ((gc1.block gf' (by omega)).trans ((g3.block gf' (by omega) (by simp; omega)).trans (gb1.block gf' (by omega)))))
  · rw [hl, keyCells_snoc]
    exact r3.same ((g4.block gk' (by omega) (by simp; omega)).trans (gc1.block gk' (by omega)))
  · rw [hl, atCells_snoc]
    exact r4
  · rw [hl, List.map_append]
    exact m1.same ((g4.block _ (by omega) (by simp; omega)).trans ((gc1.block _ (by omega)).trans ((g3.block _ (by omega) (by simp; omega)).trans ((gb1.block _ (by omega)).trans ((g2.block _ (by omega) (by simp; omega)).trans (ga1.block _ (by omega)))))))
  · exact (kept _ (by omega) (by omega) (by omega) (by omega) (by omega)).trans h.base
  · exact h.below.trans ⟨g4.os.trans (gc1.os.trans (g3.os.trans (gb1.os.trans (g2.os.trans (ga1.os.trans g1.os))))), g4.tape.trans (gc1.tape.trans (g3.tape.trans (gb1.tape.trans (g2.tape.trans (ga1.tape.trans g1.tape))))), g4.output.trans (gc1.output.trans (g3.output.trans (gb1.output.trans (g2.output.trans (ga1.output.trans g1.output))))), by omega, fun x hx => kept x (by omega) (by omega) (by omega) (by omega) (by omega)⟩

/-- The priors, as they came in. -/
def PIn (w : World) (qa : Option Addr) (qn : Nat) (ps : List (Key × Nat)) : Prop :=
  ps.length = qn ∧ (∀ p ∈ ps, Good p.1 ∧ p.2 < 65536) ∧ (0 < qn → ∃ b o, qa = some ⟨b, o, none⟩ ∧ b < w.heap.size ∧ ∀ i p, ps[i]? = some p →
    w.cell? ⟨b, o + i * 3, none⟩ = some (.string p.1.1) ∧ w.cell? ⟨b, o + i * 3 + 1, none⟩ = some (.int .u64 (p.1.2 : Int)) ∧ w.cell? ⟨b, o + i * 3 + 2, none⟩ = some (.int .u16 (p.2 : Int)))
end Go.Proofs.Ybulkctoc.HT
