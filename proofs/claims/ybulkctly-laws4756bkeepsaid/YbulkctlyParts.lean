/- SMALL LAWS: rows of the call's own, appends, bytes. Nothing of the program's text here but its types. -/
import Derived.Test.YbulkctlyRows
import Derived.WalkKit
import Derived.ProofKit
import Derived.WalkLawsBesides
import Derived.WalkSpells
import Derived.Below
import Derived.Laws.CopyOwn
import Derived.Laws.BytesArg
import Derived.Deep.AppendLies
namespace Go.Proofs.Ybulkctly.KP
open Go.ChangeShapes Go.WideShapes Go.ChangeAt Go.RowKit
set_option linter.unusedVariables false

def IsRow (k : IntKind) (w : World) (a : Option Addr) (len cap : Nat) (zs : List Int) : Prop :=
  (a = none ∧ len = 0 ∧ cap = 0 ∧ zs = []) ∨
  ∃ x, a = some x ∧ len ≤ cap ∧ cap ≤ maxLen ∧ zs.length = cap ∧ (∀ i, i < zs.length → w.cell? (x.add i) = some (.int k (zs.getD i 0))) ∧ ∀ n ∈ zs, (Lit.int k n).wf = true

theorem isRow_open {k : IntKind} {w : World} {a : Option Addr} {len cap : Nat} {zs : List Int} (h : IsRow k w a len cap zs) (hl : 0 < len) :
    ∃ b off, a = some ⟨b, off, none⟩ ∧ b < w.heap.size ∧ len ≤ zs.length ∧ len ≤ cap ∧ (∀ i, i < len → w.cell? ⟨b, off + i, none⟩ = some (.int k (zs.getD i 0))) ∧ ∀ n ∈ zs, (Lit.int k n).wf = true := by
  rcases h with ⟨rfl, rfl, _, _⟩ | ⟨x, rfl, hlc, hcm, hzl, hc, hwf⟩
  · omega
  obtain ⟨b, off, spot⟩ := x
  have h0 := hc 0 (by omega)
  have hspot : spot = none := by simpa [Addr.add] using World.cell?_spot h0
  subst hspot
  have hb := block_lt_of_cell h0
  refine ⟨b, off, rfl, by simpa [Addr.add] using hb, by omega, hlc, fun i hi => ?_, hwf⟩
  have := hc i (by omega)
  rwa [add_plain] at this

theorem info5 : (Yba.prog.info? 5).map (fun i => (i.zero, i.size, i.bytes)) = some (some (.int .u8 0), 1, 1) := by kernel_rfl
theorem info22 : (Yba.prog.info? 22).map (fun i => (i.zero, i.size, i.bytes)) = some (some (.slice none 0 0), 1, 24) := by kernel_rfl
theorem size5 : (Yba.prog.info? 5).map (·.size) = some 1 := by kernel_rfl

theorem cell_of_heap {w : World} {g i : Nat} {cs : Array Value} {t : TypeId} {fr : Nat × Nat} {v : Value} (h : w.heap[g]? = some (.cells cs t fr)) (hv : cs[i]? = some v) : w.cell? ⟨g, i, none⟩ = some v := by
  rw [cell_of_row w g i cs t fr h, hv]
theorem lt_of_heap {w : World} {g : Nat} {o : Obj} (h : w.heap[g]? = some o) : g < w.heap.size := by
  rcases Nat.lt_or_ge g w.heap.size with hl | hl
  · exact hl
  · rw [Array.getElem?_eq_none hl] at h; cases h
/-- A row that the call made, its length its capacity: its block, whole. -/
theorem owned_heap {w : World} {base e g n : Nat} {xs : List Value} (h : w.ownsRow base e 1 (.slice (some ⟨g, 0, none⟩) n n) n xs) : w.heap[g]? = some (.cells xs.toArray e (0, 0)) ∧ xs.length = n := by
  have hl := h.1
  rcases h.2 with ⟨h', _⟩ | ⟨g', cap', cur, h', _, hg, _, _, hcs, htake⟩
  · simp at h'
  · simp only [Value.slice.injEq, Option.some.injEq, Addr.mk.injEq, and_true, true_and] at h'
    obtain ⟨rfl, rfl⟩ := h'
    refine ⟨?_, by omega⟩
    rw [hg]
    have : cur.toList = xs := by rw [← htake, List.take_of_length_le (by simp; omega)]
    rw [← this]
/-- Back: a block that is known whole is a row of the call's own; cut to nothing it owns nothing. -/
theorem owns_cut {w : World} {base e g n : Nat} {xs : List Value} (hb : base ≤ g) (h : w.heap[g]? = some (.cells xs.toArray e (0, 0))) (hl : xs.length = n) (hn : n ≤ maxLen) : w.ownsRow base e 1 (.slice (some ⟨g, 0, none⟩) 0 n) 0 [] :=
  ⟨rfl, .inr ⟨g, n, _, rfl, hb, h, Nat.zero_le _, hn, by simp [hl], by simp⟩⟩

section
variable {P : Program} (w : World)
/-- 'append(v, nothing...)', whatever the address of what is appended. -/
theorem run_append_empty (t ty e : TypeId) (i : TypeInfo) (ht : P.underlying t = some (.slice e)) (hi : P.info? e = some i) (p q : Option Addr) (n c d : Nat) (hnc : n ≤ c) (hp : p = none → n = 0 ∧ c = 0) :
    (Builtin.append_ #[t, t] ty #[.slice p n c, .slice q 0 d]).run P w = .ok (.slice p n c) w := by
  cases p with
  | none =>
    obtain ⟨rfl, rfl⟩ := hp rfl
    cases q <;> simp [Builtin.append_, run_underlying ht, sizeOf, typeInfo, hi, Builtin.lenOf, Builtin.firstCells, loadCells, loadCellsFrom]
  | some a =>
    cases q <;> simp [Builtin.append_, run_underlying ht, sizeOf, typeInfo, hi, Builtin.lenOf, Builtin.firstCells, hnc, storeCells, loadCells, loadCellsFrom]

theorem wpList_append_empty {ops : Array Oper} {rest : List Oper} {o : Oper} {a : Act} {Q : Exit → Act → World → Prop} (hgd : o.guard = none) (s x : Operand) (t : TypeId)
    (ho : o.op = .call { callee := .builtin .append, args := #[s, x], argTypes := #[t, t] }) (e : TypeId) (i : TypeInfo) (ht : P.underlying t = some (.slice e)) (hi : P.info? e = some i)
    (p q : Option Addr) (n c d : Nat) (hs : a.eval s = .slice p n c) (hx : a.eval x = .slice q 0 d) (hnc : n ≤ c) (hp : p = none → n = 0 ∧ c = 0)
    (h : wpList P ops Q rest (a.put o.dst (.slice p n c)) w) : wpList P ops Q (o :: rest) a w := by
  refine wpList_plain hgd fun K hK => ?_
  have hr := run_append_empty (P := P) w t o.type e i ht hi p q n c d hnc hp
  unfold Oper.wp execOp
  simp only [ho, resolve, invoke, builtin, Sem.run_bind, Sem.run_pure, Result.andThen_ok, List.map_toArray, List.map_cons, List.map_nil, hs, hx, hr]
  exact hK _ _ h
end

end Go.Proofs.Ybulkctly.KP
