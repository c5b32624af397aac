/- BYTES: 'append([]byte(nil), payload...)' AND 'bytes.Equal' (6). -/
import Derived.Test.YbulkctocForget
import Derived.Laws.BytesArg
namespace Go.Proofs.Ybulkctoc.HT
open Go.ChangeShapes Go.WideShapes Go.ChangeAt Go.RowKit
set_option linter.unusedVariables false

/-- The slice (p, n) holds the bytes xs. -/
def BIn (w : World) (p : Option Addr) (n : Nat) (xs : List Int) : Prop :=
  xs.length = n ∧ (0 < n → ∃ b o, p = some ⟨b, o, none⟩ ∧ ∀ i, i < n → w.cell? ⟨b, o + i, none⟩ = some (.int .u8 (xs.getD i 0)))
theorem BIn.kept {S : Nat → Prop} {w w' : World} {p : Option Addr} {n : Nat} {xs : List Int} (h : BIn w p n xs) (hk : Kept S w w') (hS : 0 < n → ∀ a, p = some a → ¬ S a.block) : BIn w' p n xs :=
  ⟨h.1, fun hn => by
    obtain ⟨b, o, rfl, hc⟩ := h.2 hn
    exact ⟨b, o, rfl, fun i hi => hk.cell (hc i hi) (hS hn ⟨b, o, none⟩ rfl)⟩⟩
theorem BIn.below {B : Nat} {w w' : World} {p : Option Addr} {n : Nat} {xs : List Int} (h : BIn w p n xs) (hk : Below B w w') (hS : 0 < n → ∀ a, p = some a → a.block < B) : BIn w' p n xs :=
  ⟨h.1, fun hn => by
    obtain ⟨b, o, rfl, hc⟩ := h.2 hn
    exact ⟨b, o, rfl, fun i hi => (hk.cell (p := ⟨b, o + i, none⟩) (hS hn ⟨b, o, none⟩ rfl)).trans (hc i hi)⟩⟩
theorem BIn.convert {w : World} {p : Option Addr} {n : Nat} {xs : List Int} (h : BIn w p n xs) (c : Nat) : (convert 24 9 (.slice p n c)).run Yba.prog w = .ok (.string (strOfNums xs)) w := by
  rcases Nat.eq_zero_or_pos n with hn | hn
  · subst hn
    obtain rfl : xs = [] := List.eq_nil_of_length_eq_zero h.1
    rw [run_convert_bytes_string w 24 9 5 _ 0 c Yba.underlying24 Yba.underlying5 Yba.underlying9]
    cases p <;> simp [Conv.bytesToString, loadCells]
    all_goals rfl
  · obtain ⟨b, o, rfl, hc⟩ := h.2 hn
    exact run_convert_bytes_arg w 24 5 Yba.underlying24 Yba.underlying5 b o n c xs h.1 hc 9 Yba.underlying9

set_option maxRecDepth 400000 in
theorem bytes_equal (p1 p2 : Option Addr) (n c d : Nat) (xs : List Int) (w : World) (h1 : BIn w p1 n xs) (h2 : BIn w p2 n xs) :
    Calls Yba.prog 6 #[.slice p1 n c, .slice p2 n d] w fun e w' => e = .returned (.bool true) ∧ w' = w := by
  have e1 := h1.convert c
  have e2 := h2.convert d
  clear h1 h2
  go_enter Yba.func6, Yba.ntmps6
  go_wp2
  go_ret
  exact ⟨by simp, rfl⟩

theorem run_append_copy (w : World) (ty : TypeId) (p : Option Addr) (n c : Nat) (xs : List Int) (h : BIn w p n xs) (hn : n ≤ 100000000) :
    ∃ p' c' w', (Builtin.append_ #[24, 24] ty #[.slice none 0 0, .slice p n c]).run Yba.prog w = .ok (.slice p' n c') w' ∧ BIn w' p' n xs ∧ w.grownBy w' none ∧ (0 < n → ∀ a, p' = some a → w.heap.size ≤ a.block) := by
  obtain ⟨i0, hi0, hz0, hz1, hz2⟩ := info_parts info5
  rcases Nat.eq_zero_or_pos n with h0 | h0
  · subst h0
    cases p with
    | none => exact ⟨none, 0, w, by simp [Builtin.append_, run_underlying Yba.underlying24, sizeOf, typeInfo, hi0, Builtin.lenOf, Builtin.firstCells], ⟨h.1, fun h => by omega⟩, ⟨rfl, rfl, rfl, Nat.le_refl _, fun _ _ _ => rfl⟩, fun h => by omega⟩
    | some a => exact ⟨none, 0, w, by simp [Builtin.append_, run_underlying Yba.underlying24, sizeOf, typeInfo, hi0, Builtin.lenOf, Builtin.firstCells, loadCells, loadCellsFrom], ⟨h.1, fun h => by omega⟩, ⟨rfl, rfl, rfl, Nat.le_refl _, fun _ _ _ => rfl⟩, fun h => by omega⟩
  · obtain ⟨b, o, rfl, hc⟩ := h.2 h0
    have hadd : ∀ j, (⟨b, o, none⟩ : Addr).add j = ⟨b, o + j, none⟩ := fun j => by unfold Addr.add; split <;> simp_all
    obtain ⟨g, cap, w', hr, ho, hg, hat, hlt⟩ := run_append_lies (P := Yba.prog) w 24 ty w.heap.size 5 i0 (.int .u8 0) 1 1 Yba.underlying24 hi0 hz0 hz1 hz2 rfl (by decide) (.slice none 0 0) 0 [] (World.ownsRow_nil _ _ _ _) ⟨b, o, none⟩ n c (xs.map (Value.int .u8)) (by simp [h.1])
      (fun j u hu => by
        rw [List.getElem?_map] at hu
        have hj : j < n := by
          rw [← h.1]
          rcases Nat.lt_or_ge j xs.length with hlt | hge
          · exact hlt
          · rw [List.getElem?_eq_none hge] at hu; cases hu
        rw [hadd, hc j hj]
        rw [List.getElem?_eq_getElem (by rw [h.1]; exact hj)] at hu
        rw [List.getD_eq_getElem?_getD, List.getElem?_eq_getElem (by rw [h.1]; exact hj)]
        simpa using hu) (by simp [Value.oneCell']) h0 (by unfold maxLen; omega) (by omega) (Nat.le_refl _) w.heap.size rfl
    rw [Nat.zero_add] at hr ho
    refine ⟨_, cap, w', hr, ⟨h.1, fun _ => ⟨g, 0, rfl, fun i hi => ?_⟩⟩, hg, fun _ a ha => ?_⟩
    · have e := ho.cells (g := g) rfl i (.int .u8 (xs.getD i 0)) (by
        rw [List.nil_append, List.getElem?_map, List.getElem?_eq_getElem (by rw [h.1]; exact hi), List.getD_eq_getElem?_getD, List.getElem?_eq_getElem (by rw [h.1]; exact hi)]
        rfl)
      have hadd' : (⟨g, 0, none⟩ : Addr).add i = ⟨g, 0 + i, none⟩ := by unfold Addr.add; split <;> simp_all
      rwa [hadd'] at e
    · cases ha
      exact (ho.lt g rfl).1
end Go.Proofs.Ybulkctoc.HT
