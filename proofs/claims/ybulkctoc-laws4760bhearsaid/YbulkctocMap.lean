/- THE MAP 'heard': a set of keys (string, u64). -/
import Derived.Test.YbulkctocAdd
import Derived.Maps.OwnSet
import Derived.Maps.OwnOps
import Derived.Maps.Views
import Derived.DeepKeys4
namespace Go.Proofs.Ybulkctoc.HT
open Go.ChangeShapes Go.WideShapes Go.ChangeAt Go.RowKit
open Go.Maps (Keyed)
set_option linter.unusedVariables false

abbrev Key := ByteArray × Nat
def kv (k : Key) : Value := .agg #[.string k.1, .int .u64 (k.2 : Int)]
def Good (k : Key) : Prop := k.1.size ≤ maxLen ∧ k.2 < 18446744073709551616

theorem laidOut : laidOutB Yba.prog = true := by kernel_rfl
theorem row38 : (38 : TypeId) < Yba.prog.types.size := of_decide_eq_true (by kernel_rfl)
theorem wide38 : (match Yba.prog.underlying 38 with | some (.array _ _) | some (.struct _) => true | _ => false) = true := by kernel_rfl
set_option maxRecDepth 400000 in
theorem law38 : Keyed Yba.prog 38 := Keyed.of_law (deep_law_laid laidOut (m := 2) (by omega) row38 (by kernel_rfl) wide38)
theorem key38 : Yba.prog.keyType 38 = true := by kernel_rfl
theorem cells38 : Yba.prog.cellsOf 38 = 2 := by kernel_rfl
theorem cells9 : Yba.prog.cellsOf 9 = 1 := by kernel_rfl
theorem cells22 : Yba.prog.cellsOf 22 = 1 := by kernel_rfl
theorem succ_of_lt {a n : Nat} (h : a < n) : ∃ m, n = m + 1 := ⟨n - 1, by omega⟩
theorem tsize : ∃ n, Yba.prog.types.size = n + 1 := succ_of_lt row38

theorem key_lit (k : Key) (h : Good k) : ∃ l, keyOf Yba.prog 38 (kv k) = some l := by
  obtain ⟨n, hn⟩ := tsize
  have hid : (Lit.int .u64 (k.2 : Int)).wf = true := by
    have := h.2
    simp [Lit.wf, IntKind.min, IntKind.max, IntKind.bits, IntKind.signed]; omega
  unfold keyOf
  rw [Yba.underlying38]
  simp only
  rw [key38]
  have hf : (kv k).formed Yba.prog 38 = true := by
    simp [kv, Value.formed, Yba.underlying38, cells38]
  rw [hf, hn]
  simp [kv, Value.cells, Program.keyLits, Yba.underlying38, Yba.underlying9, Yba.underlying22, cells38, cells9, cells22, h.1, hid]

/-- Block b is the set of the keys ks, each with 'true'; n: how many stores it has seen at the most. -/
def MSet (w : World) (b n : Nat) (ks : List Key) : Prop :=
  ∃ D : DataW Unit, w.ownsMap Yba.prog 38 (plainElem Yba.prog 4) b n D ∧ Maps.size D = ks.length ∧
    ∀ k l, keyOf Yba.prog 38 (kv k) = some l → (k ∈ ks → Maps.has D l = true ∧ D.atKey l (.lit (.bool false)) = .lit (.bool true)) ∧ (k ∉ ks → Maps.has D l = false ∧ D.atKey l (.lit (.bool false)) = .lit (.bool false))

theorem kv_inj {a b : Key} (h : kv a = kv b) : a = b := by
  simp only [kv, Value.agg.injEq, Array.mk.injEq, List.cons.injEq, Value.string.injEq, Value.int.injEq, true_and, and_true] at h
  exact Prod.ext h.1 (by have := h.2; omega)
theorem lit_ne {a b : Key} {la lb : Lit} (ha : keyOf Yba.prog 38 (kv a) = some la) (hb : keyOf Yba.prog 38 (kv b) = some lb) (h : a ≠ b) : la ≠ lb := by
  intro e
  subst e
  exact h (kv_inj (law38.inj ha hb))

theorem MSet.made (w : World) : MSet (w.alloc (.map #[] 0)) w.heap.size 0 [] :=
  ⟨_, World.ownsMap_made w Yba.prog 38 _, rfl, fun k l h => ⟨fun hm => by simp at hm, fun _ => ⟨rfl, rfl⟩⟩⟩
theorem MSet.kept {w w' : World} {b n : Nat} {ks : List Key} {row : Option Nat} (h : MSet w b n ks) (hg : w.grownBy w' row) (hne : some b ≠ row) : MSet w' b n ks := by
  obtain ⟨D, ho, r⟩ := h
  exact ⟨D, ho.kept hg hne, r⟩
theorem MSet.lt {w : World} {b n : Nat} {ks : List Key} (h : MSet w b n ks) : b < w.heap.size := by
  obtain ⟨D, ho, _⟩ := h
  exact ho.lt
theorem plainElem_bool_inv {v : Value} {z : DataW Unit × List MemPlace} (h : plainElem Yba.prog 4 v = some z) : ∃ x, v = .bool x ∧ z = (.lit (.bool x), []) := by
  cases v <;> simp [plainElem, Yba.underlying4] at h
  exact ⟨_, rfl, h.symm⟩
theorem zero4 (w : World) : (zeroValue 4).run Yba.prog w = .ok (.bool false) w := by kernel_rfl

/-- 'm[k]'. -/
theorem MSet.look {w : World} {b n : Nat} {ks : List Key} (h : MSet w b n ks) (k : Key) (hk : Good k) : ∃ x : Bool, (Instr.lookup 31 (.map (some b)) (kv k) false).run Yba.prog w = .ok (.bool x) w ∧ (x = true ↔ k ∈ ks) := by
  obtain ⟨D, ho, hs, hh⟩ := h
  obtain ⟨l, hl⟩ := key_lit k hk
  obtain ⟨v, ps, hrun, hv⟩ := ho.lookup law38 Yba.underlying31 (zero4 w) (plainElem_bool Yba.underlying4 false) hl
  obtain ⟨x, rfl, hx⟩ := plainElem_bool_inv hv
  simp only [Prod.mk.injEq] at hx
  refine ⟨x, hrun, ?_⟩
  by_cases hm : k ∈ ks
  · have := ((hh k l hl).1 hm).2
    rw [hx.1] at this
    cases this
    exact ⟨fun _ => hm, fun _ => rfl⟩
  · have := ((hh k l hl).2 hm).2
    rw [hx.1] at this
    cases this
    exact ⟨fun e => (by cases e), fun e => absurd e hm⟩
/-- 'len(m)'. -/
theorem MSet.len {w : World} {b n : Nat} {ks : List Key} (h : MSet w b n ks) (ty : TypeId) : (Builtin.len_ #[31] ty #[.map (some b)]).run Yba.prog w = .ok (.int .i64 ks.length) w := by
  obtain ⟨D, ho, hs, hh⟩ := h
  rw [ho.len Yba.underlying31 ty, hs]

theorem lit_key {k : Key} {l : Lit} (h : keyOf Yba.prog 38 (kv k) = some l) : WideAt.IsKeyLit l := law38.key h

/-- 'm[k] = true' at a key that is not there. -/
theorem MSet.store {w : World} {b n : Nat} {ks : List Key} (h : MSet w b n ks) (k : Key) (hk : Good k) (hnot : k ∉ ks) (hn : n < maxLen) :
    ∃ w', (Instr.mapUpdate 31 (.map (some b)) (kv k) (.bool true)).run Yba.prog w = .ok () w' ∧ MSet w' b (n + 1) (ks ++ [k]) ∧ w.grownBy w' (some b) := by
  obtain ⟨D, ho, hs, hh⟩ := h
  obtain ⟨l, hl⟩ := key_lit k hk
  obtain ⟨w', hrun, ho', hg⟩ := ho.update law38 Yba.underlying31 hn hl (plainElem_bool Yba.underlying4 true)
  have htidy := ho.tidy law38
  refine ⟨w', hrun, ⟨_, ho', ?_, fun k' l' hl' => ?_⟩, hg⟩
  · have := Maps.size_put (k := l) (d := .lit (.bool true)) htidy
    have h0 := ((hh k l hl).2 hnot).1
    rw [h0] at this
    simp at this ⊢
    omega
  · by_cases e : k' = k
    · subst e
      rw [hl] at hl'
      cases hl'
      exact ⟨fun _ => ⟨Maps.has_put_same htidy.isMap (lit_key hl) _, Maps.atKey_put_same htidy.isMap (lit_key hl) _ _⟩, fun hm => absurd (by simp) hm⟩
    · have hne := lit_ne hl' hl e
      rw [Maps.has_put_other hne, Maps.atKey_put_other hne]
      have := hh k' l' hl'
      exact ⟨fun hm => this.1 (by simpa [e] using hm), fun hm => this.2 (fun h => hm (by simp [h]))⟩

/-- 'delete(m, k)' at the first key. -/
theorem MSet.drop {w : World} {b n : Nat} {ks : List Key} (k : Key) (h : MSet w b n (k :: ks)) (hk : Good k) (hnot : k ∉ ks) (ty : TypeId) :
    ∃ w', (Builtin.delete_ #[31, 38] ty #[.map (some b), kv k]).run Yba.prog w = .ok (.tuple #[]) w' ∧ MSet w' b n ks ∧ w.grownBy w' (some b) := by
  obtain ⟨D, ho, hs, hh⟩ := h
  obtain ⟨l, hl⟩ := key_lit k hk
  obtain ⟨w', hrun, ho', hg⟩ := ho.drop law38 Yba.underlying31 hl ty
  have htidy := ho.tidy law38
  refine ⟨w', hrun, ⟨_, ho', ?_, fun k' l' hl' => ?_⟩, hg.grown⟩
  · have := Maps.size_del (k := l) htidy
    have h0 := ((hh k l hl).1 (by simp)).1
    rw [h0] at this
    simp at this hs ⊢
    omega
  · by_cases e : k' = k
    · subst e
      rw [hl] at hl'
      cases hl'
      exact ⟨fun hm => absurd hm hnot, fun _ => ⟨Maps.has_del_same, Maps.atKey_del_same _⟩⟩
    · have hne := lit_ne hl' hl e
      rw [Maps.has_del_other hne, Maps.atKey_del_other hne]
      have := hh k' l' hl'
      exact ⟨fun hm => this.1 (by simp [hm]), fun hm => this.2 (fun h => hm (by simpa [e] using h))⟩
end Go.Proofs.Ybulkctoc.HT
