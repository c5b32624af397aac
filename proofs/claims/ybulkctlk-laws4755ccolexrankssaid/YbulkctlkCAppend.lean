/- 'append' onto a slice that the call owns, not nil: in place, or in a new block with ALL old blocks as they were. -/
import Derived.WalkKit
import Derived.Deep.AppendLies
namespace Go.Proofs.Ybulkctlk.CA
open Go

/-- What an append left: the new slice lies in the old row, which alone was written; or in the block that was made, and nothing old was written. -/
def Two (w w' : World) (g0 g : Nat) : Prop := (g = g0 ∧ w.grownBy w' (some g0)) ∨ (g = w.heap.size ∧ w.grownBy w' none)

theorem Two.grown {w w' : World} {g0 g : Nat} (h : Two w w' g0 g) : w.grownBy w' (some g0) := by
  rcases h with ⟨_, h⟩ | ⟨_, h⟩
  · exact h
  · exact ⟨h.os, h.tape, h.output, h.size, fun k hk _ => h.block k hk (by simp)⟩

/-- A cell of the old row reads as it did. -/
theorem Two.cell {w w' : World} {g0 g n m cap cap' base e : Nat} {xs news : List Value} (h : Two w w' g0 g) (ho : w.ownsRow base e 1 (.slice (some ⟨g0, 0, none⟩) n cap) n xs)
    (ho' : w'.ownsRow base e 1 (.slice (some ⟨g, 0, none⟩) (n + m) cap') (n + m) (xs ++ news)) (j : Nat) (hj : j < n) : w'.cell? ⟨g0, j, none⟩ = w.cell? ⟨g0, j, none⟩ := by
  have hlt := (ho.lt g0 rfl).2
  rcases h with ⟨rfl, _⟩ | ⟨_, h⟩
  · have hl := ho.1
    rw [ho'.cellAt j (by omega), ho.cellAt j (by omega), List.getElem?_append_left (by omega)]
  · exact World.cell?_of_block (h.block g0 hlt (by simp))

section
variable {P : Program} (w : World)
theorem run_append_two (t ty : TypeId) (base : Nat) (e : TypeId) (i : TypeInfo) (z : Value) (size bytes : Nat) (ht : P.underlying t = some (.slice e)) (hi : P.info? e = some i) (hz : i.zero = some z)
    (hsize : i.size = size) (hby : i.bytes = bytes) (hzs : z.cells.size = size) (hsz : 0 < size)
    (g0 n cap : Nat) (xs : List Value) (hown : w.ownsRow base e size (.slice (some ⟨g0, 0, none⟩) n cap) n xs)
    (ad : Addr) (m c : Nat) (news : List Value) (hl : news.length = m * size) (hnews : ∀ j u, news[j]? = some u → w.cell? (ad.add j) = some u) (h1 : ∀ u ∈ news, u.oneCell' = true)
    (hm : 0 < m) (h63 : n + m ≤ maxLen) (hbytes : (n + m) * bytes ≤ 140737488355328) (hbase : base ≤ w.heap.size) :
    ∃ g cap' w', (Builtin.append_ #[t, t] ty #[.slice (some ⟨g0, 0, none⟩) n cap, .slice (some ad) m c]).run P w = .ok (.slice (some ⟨g, 0, none⟩) (n + m) cap') w' ∧
      w'.ownsRow base e size (.slice (some ⟨g, 0, none⟩) (n + m) cap') (n + m) (xs ++ news) ∧ Two w w' g0 g := by
  by_cases hroom : n + m ≤ cap
  · obtain ⟨w', hr, ho, hg⟩ := run_append_fits (P := P) w base t ty e i size ht hi hsize g0 n cap xs hown ad m c news hl hnews h1 hroom
    exact ⟨g0, cap, w', hr, ho, .inl ⟨rfl, hg⟩⟩
  · obtain ⟨g, cap', w', hr, ho, _, _, _⟩ := run_append_lies (P := P) w t ty base e i z size bytes ht hi hz hsize hby hzs hsz _ n xs hown ad m c news hl hnews h1 hm h63 hbytes hbase w.heap.size rfl
    subst hsize
    subst hby
    have holds : ∀ j u, xs[j]? = some u → w.cell? ((⟨g0, 0, none⟩ : Addr).add j) = some u := hown.cells (g := g0) rfl
    have hsmall : n + m ≤ 9223372036854775807 := by simp only [maxLen] at h63; omega
    have hr2 := run_append_grow (P := P) w t ty e i z ht hi hz ⟨g0, 0, none⟩ n cap xs hown.1 holds ad m c news hl hnews (by omega) (by omega) (growslice_fits (by omega) hbytes)
    rw [hr2] at hr
    simp only [Result.ok.injEq, Value.slice.injEq, Option.some.injEq, Addr.mk.injEq, and_true, true_and] at hr
    obtain ⟨⟨rfl, rfl⟩, rfl⟩ := hr
    exact ⟨_, _, _, hr2, ho, .inr ⟨rfl, rfl, rfl, rfl, by simp, fun k hk _ => RowKit.Below.heap_alloc w.drew _ k hk⟩⟩

theorem wp_append_two {o : Oper} {a : Act} {K : Act → World → Prop} {Q : Exit → Act → World → Prop} (s x : Operand) (t : TypeId)
    (ho : o.op = .call { callee := .builtin .append, args := #[s, x], argTypes := #[t, t] })
    (base : Nat) (e : TypeId) (i : TypeInfo) (z : Value) (size bytes : Nat) (ht : P.underlying t = some (.slice e)) (hi : P.info? e = some i) (hz : i.zero = some z)
    (hsize : i.size = size) (hby : i.bytes = bytes) (hzs : z.cells.size = size) (hsz : 0 < size)
    (g0 n cap : Nat) (xs : List Value) (hs : a.eval s = .slice (some ⟨g0, 0, none⟩) n cap) (hown : w.ownsRow base e size (.slice (some ⟨g0, 0, none⟩) n cap) n xs)
    (ad : Addr) (m c : Nat) (news : List Value) (hx : a.eval x = .slice (some ad) m c) (hl : news.length = m * size) (hnews : ∀ j u, news[j]? = some u → w.cell? (ad.add j) = some u) (h1 : ∀ u ∈ news, u.oneCell' = true)
    (hm : 0 < m) (h63 : n + m ≤ maxLen) (hbytes : (n + m) * bytes ≤ 140737488355328) (hbase : base ≤ w.heap.size)
    (h : ∀ g cap' w', w'.ownsRow base e size (.slice (some ⟨g, 0, none⟩) (n + m) cap') (n + m) (xs ++ news) → Two w w' g0 g → K (a.put o.dst (.slice (some ⟨g, 0, none⟩) (n + m) cap')) w') : o.wp P a w K Q := by
  obtain ⟨g, cap', w', hr, h2, h3⟩ := run_append_two (P := P) w t o.type base e i z size bytes ht hi hz hsize hby hzs hsz g0 n cap xs hown ad m c news hl hnews h1 hm h63 hbytes hbase
  unfold Oper.wp execOp
  simp only [ho, resolve, invoke, builtin, Sem.run_bind, Sem.run_pure, Result.andThen_ok, List.map_toArray, List.map_cons, List.map_nil, hs, hx, hr]
  exact h g cap' w' h2 h3

theorem wpList_append_two {ops : Array Oper} {rest : List Oper} {o : Oper} {a : Act} {Q : Exit → Act → World → Prop} (hgd : o.guard = none) (s x : Operand) (t : TypeId)
    (ho : o.op = .call { callee := .builtin .append, args := #[s, x], argTypes := #[t, t] })
    (base : Nat) (e : TypeId) (i : TypeInfo) (z : Value) (size bytes : Nat) (ht : P.underlying t = some (.slice e)) (hi : P.info? e = some i) (hz : i.zero = some z)
    (hsize : i.size = size) (hby : i.bytes = bytes) (hzs : z.cells.size = size) (hsz : 0 < size)
    (g0 n cap : Nat) (xs : List Value) (hs : a.eval s = .slice (some ⟨g0, 0, none⟩) n cap) (hown : w.ownsRow base e size (.slice (some ⟨g0, 0, none⟩) n cap) n xs)
    (ad : Addr) (m c : Nat) (news : List Value) (hx : a.eval x = .slice (some ad) m c) (hl : news.length = m * size) (hnews : ∀ j u, news[j]? = some u → w.cell? (ad.add j) = some u) (h1 : ∀ u ∈ news, u.oneCell' = true)
    (hm : 0 < m) (h63 : n + m ≤ maxLen) (hbytes : (n + m) * bytes ≤ 140737488355328) (hbase : base ≤ w.heap.size)
    (h : ∀ g cap' w', w'.ownsRow base e size (.slice (some ⟨g, 0, none⟩) (n + m) cap') (n + m) (xs ++ news) → Two w w' g0 g → wpList P ops Q rest (a.put o.dst (.slice (some ⟨g, 0, none⟩) (n + m) cap')) w') : wpList P ops Q (o :: rest) a w :=
  wpList_plain hgd fun _ hK => wp_append_two w s x t ho base e i z size bytes ht hi hz hsize hby hzs hsz g0 n cap xs hs hown ad m c news hx hl hnews h1 hm h63 hbytes hbase fun g cap' w' h2 h3 => hK _ _ (h g cap' w' h2 h3)

theorem step_append_two {ops : Array Oper} {o : Oper} {a : Act} {K : Act → World → Prop} {Q : Exit → Act → World → Prop} {E : Prop} (hgd : o.guard = none) (s x : Operand) (t : TypeId)
    (ho : o.op = .call { callee := .builtin .append, args := #[s, x], argTypes := #[t, t] })
    (base : Nat) (e : TypeId) (i : TypeInfo) (z : Value) (size bytes : Nat) (ht : P.underlying t = some (.slice e)) (hi : P.info? e = some i) (hz : i.zero = some z)
    (hsize : i.size = size) (hby : i.bytes = bytes) (hzs : z.cells.size = size) (hsz : 0 < size)
    (g0 n cap : Nat) (xs : List Value) (hs : a.eval s = .slice (some ⟨g0, 0, none⟩) n cap) (hown : w.ownsRow base e size (.slice (some ⟨g0, 0, none⟩) n cap) n xs)
    (ad : Addr) (m c : Nat) (news : List Value) (hx : a.eval x = .slice (some ad) m c) (hl : news.length = m * size) (hnews : ∀ j u, news[j]? = some u → w.cell? (ad.add j) = some u) (h1 : ∀ u ∈ news, u.oneCell' = true)
    (hm : 0 < m) (h63 : n + m ≤ maxLen) (hbytes : (n + m) * bytes ≤ 140737488355328) (hbase : base ≤ w.heap.size)
    (h : ∀ g cap' w', w'.ownsRow base e size (.slice (some ⟨g, 0, none⟩) (n + m) cap') (n + m) (xs ++ news) → Two w w' g0 g → K (a.put o.dst (.slice (some ⟨g, 0, none⟩) (n + m) cap')) w') :
    if Region.wanted o (yielded ops a.tmps) = true then Oper.wp P o a w K Q else E := by
  have hw : Region.wanted o (yielded ops a.tmps) = true := by simp [Region.wanted, hgd]
  rw [if_pos hw]
  exact wp_append_two w s x t ho base e i z size bytes ht hi hz hsize hby hzs hsz g0 n cap xs hs hown ad m c news hx hl hnews h1 hm h63 hbytes hbase h
end
end Go.Proofs.Ybulkctlk.CA
