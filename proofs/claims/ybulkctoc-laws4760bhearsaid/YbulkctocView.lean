/- WHAT THE LAW's CHECKS READ BEHIND 'hear'. -/
import Derived.Test.YbulkctocRel
import Derived.Test.YbulkctocHear
namespace Go.Proofs.Ybulkctoc.HT
open Go.ChangeShapes Go.WideShapes Go.ChangeAt Go.RowKit
set_option linter.unusedVariables false

theorem old_ns (nm : Int) (e : Ent) : old (nm * 1000000) (e.1, e.2 * 1000000) = old nm e := by
  unfold old
  have : (e.2 * 1000000 ≤ nm * 1000000) ↔ (e.2 ≤ nm) := by omega
  simp only [this]
theorem dropWhile_ns (nm : Int) (es : List Ent) : (nsOf es).dropWhile (old (nm * 1000000)) = nsOf (es.dropWhile (old nm)) := by
  induction es with
  | nil => rfl
  | cons e es ih =>
    show ((e.1, e.2 * 1000000) :: nsOf es).dropWhile _ = _
    rw [List.dropWhile_cons, List.dropWhile_cons, old_ns]
    cases old nm e with
    | true => simpa using ih
    | false => rfl

/-- The common part of both ends of 'hear'. -/
structure View (m h mp g : Nat) (name : ByteArray) (maxB L : Int) (r : List Ent) (wz w6 : World) (wt : Value) (added : Int) (g' o' n' cap' cnt : Nat) (xs : List Value) (ks : List Key) : Prop where
  mach : Mach w6 m name maxB h L mp wt added (.slice (some ⟨g', o', none⟩) n' cap')
  row : Row w6 41 5 g' o' n' cap' (ents (nsOf r) ++ xs)
  len : r.length ≤ n'
  set : MSet w6 mp cnt ks
  sub : ∀ e ∈ r, e.1 ∈ ks
  kept : Kept (fun k => k = m ∨ k = mp ∨ k = g ∨ k = h) wz w6

theorem Dropped.view {m h mp g n : Nat} {name : ByteArray} {maxB L : Int} {r : List Ent} {wz w6 : World} (hd : Dropped m name maxB h L mp g n (nsOf r) wz w6) :
    ∃ wt added g' o' n' cap' cnt xs ks, View m h mp g name maxB L r wz w6 wt added g' o' n' cap' cnt xs ks := by
  obtain ⟨o', cap', hm, hr, hs, hk⟩ := hd
  refine ⟨_, _, g, o', _, cap', n, [], _, hm, by simpa using hr, by rw [nsOf_length]; exact Nat.le_refl _, hs, fun e he => ?_, hk.mono (by omega)⟩
  rw [nsOf_keys]
  exact List.mem_map.2 ⟨e, he, rfl⟩
theorem Taken.view {m h mp g n : Nat} {name : ByteArray} {maxB L : Int} {r : List Ent} {origin : ByteArray} {id : Nat} {age : Int} {pa : Option Addr} {pn pc : Nat} {bs : List Int} {now : Int} {wz w6 : World}
    (hd : Taken m name maxB h L mp g n (nsOf r) origin id age pa pn pc bs now wz w6) :
    ∃ wt added g' o' n' cap' cnt xs ks, View m h mp g name maxB L r wz w6 wt added g' o' n' cap' cnt xs ks := by
  obtain ⟨g', o', cap', g1, cap1, nb, bb, p', c', hm, hr, hs, hh, hB, hN, hk⟩ := hd
  rw [ents_snoc] at hr
  refine ⟨_, _, g', o', _, cap', n + 1, _, _, hm, hr, by rw [nsOf_length]; omega, hs, fun e he => ?_, hk⟩
  rw [nsOf_keys]
  exact List.mem_append_left _ (List.mem_map.2 ⟨e, he, rfl⟩)

theorem atCells_at {es : List Ent} {i : Nat} {e : Ent} (h : es[i]? = some e) : (atCells es)[i]? = some (.int .i64 e.2) := by simp [atCells, h]
theorem keyCells_cons (e : Ent) (es : List Ent) : keyCells (e :: es) = .string e.1.1 :: .int .u64 (e.1.2 : Int) :: keyCells es := rfl
theorem keyCells_at {es : List Ent} {i : Nat} {e : Ent} (h : es[i]? = some e) : (keyCells es)[i * 2]? = some (.string e.1.1) ∧ (keyCells es)[i * 2 + 1]? = some (.int .u64 (e.1.2 : Int)) := by
  induction es generalizing i with
  | nil => simp at h
  | cons x es ih =>
    cases i with
    | zero =>
      simp at h
      subst h
      simp [keyCells_cons]
    | succ i =>
      rw [List.getElem?_cons_succ] at h
      have := ih h
      rw [keyCells_cons, show (i + 1) * 2 = i * 2 + 1 + 1 from by omega]
      simpa using this
/-- Where the first loop of the checks stops. -/
theorem drop_stop {nm : Int} {es : List Ent} {j : Nat} (h : es.dropWhile (old nm) = (es.drop j).dropWhile (old nm)) (hs : es.length ≤ j ∨ ∃ e, es[j]? = some e ∧ nm < e.2) : es.dropWhile (old nm) = es.drop j := by
  rw [h]
  rcases hs with hs | ⟨e, he, hlt⟩
  · rw [List.drop_eq_nil_of_le hs]
    rfl
  · obtain ⟨hj, rfl⟩ := List.getElem?_eq_some_iff.1 he
    rw [List.drop_eq_getElem_cons hj, List.dropWhile_cons_of_neg (by simp [old]; omega)]
theorem drop_go {nm : Int} {es : List Ent} {j : Nat} {e : Ent} (h : es.dropWhile (old nm) = (es.drop j).dropWhile (old nm)) (he : es[j]? = some e) (hle : e.2 ≤ nm) : es.dropWhile (old nm) = (es.drop (j + 1)).dropWhile (old nm) := by
  rw [h]
  obtain ⟨hj, rfl⟩ := List.getElem?_eq_some_iff.1 he
  rw [List.drop_eq_getElem_cons hj, List.dropWhile_cons_of_pos (by simp [old]; omega)]
theorem seen_succ {es : List Ent} {i j : Nat} {e : Ent} (hji : j ≤ i) (he : es[i]? = some e) : ((es.take (i + 1)).drop j).map (·.1) = ((es.take i).drop j).map (·.1) ++ [e.1] := by
  obtain ⟨hi, rfl⟩ := List.getElem?_eq_some_iff.1 he
  rw [List.take_add_one, List.getElem?_eq_getElem hi, List.drop_append_of_le_length (by rw [List.length_take]; omega)]
  simp
theorem drop_head {es : List Ent} {j : Nat} {e : Ent} (he : es[j]? = some e) : es.drop j = e :: es.drop (j + 1) := by
  obtain ⟨hi, rfl⟩ := List.getElem?_eq_some_iff.1 he
  exact List.drop_eq_getElem_cons hi
theorem mem_drop_of {es : List Ent} {i j : Nat} {e : Ent} (hji : j ≤ i) (he : es[i]? = some e) : e ∈ es.drop j := by
  apply List.mem_of_getElem? (i := i - j)
  rw [List.getElem?_drop, show j + (i - j) = i from by omega]
  exact he
end Go.Proofs.Ybulkctoc.HT
