/- THE ARGUMENTS, OPENED: bytes, and a slice of structs (string, u64, u16). -/
import Derived.Test.YbulkctocRel
import Derived.Deep.Slices
import Derived.ShutString
import Derived.ChangeOld
namespace Go.Proofs.Ybulkctoc.HT
open Go.ChangeShapes Go.WideShapes Go.ChangeAt Go.RowKit
set_option linter.unusedVariables false

theorem cells36 : Yba.prog.cellsOf 36 = 3 := by kernel_rfl
theorem cells25 : Yba.prog.cellsOf 25 = 1 := by kernel_rfl
theorem cells5 : Yba.prog.cellsOf 5 = 1 := by kernel_rfl

set_option maxRecDepth 100000 in
theorem open_priors {H : Type} {enc : TypeId × Value → H} {W : World} {a0 : Option Addr} {len0 cap0 : Nat} {d0 : DataW H} {p0 : List MemPlace} (h0 : DataW.Trod enc Yba.prog W 0 (fun _ => true) true 26 (.slice a0 len0 cap0) d0 p0) :
    ∃ ps, PIn W a0 len0 ps := by
  obtain ⟨fuel, hf⟩ := h0
  rcases Go.Deep.open_slice Yba.underlying26 hf with ⟨hcs, _⟩ | ⟨a, len, cap, m, n, D, Pl, hcs, hb, hl, hm, hmm, hx, hall⟩
  · simp [Value.cells] at hcs
    obtain ⟨rfl, rfl, rfl⟩ := hcs
    exact ⟨[], rfl, by simp, fun h => by omega⟩
  · simp [Value.cells] at hcs
    obtain ⟨rfl, rfl, rfl⟩ := hcs
    simp only [if_true] at hmm
    subst hmm
    have each : ∀ i, i < len0 → ∃ q : Key × Nat, W.cell? (a.add (i * 3)) = some (.string q.1.1) ∧ W.cell? (a.add (i * 3 + 1)) = some (.int .u64 (q.1.2 : Int)) ∧ W.cell? (a.add (i * 3 + 2)) = some (.int .u16 (q.2 : Int)) ∧ Good q.1 ∧ q.2 < 65536 := by
      intro i hi
      obtain ⟨cs', h1, h2⟩ := hall i (by omega)
      rw [cells36] at h1
      obtain ⟨_, hlen, hcell⟩ := World.cells?_some h1
      obtain ⟨xs, k, hk, hxy, _, hxl, hff⟩ := DataW.trod_struct Yba.underlying36 h2
      match xs, hxl, cs', hlen with
      | [y0, y1, y2], _, [v0, v1, v2], _ =>
        have g0 := hff 0 _ rfl
        have g1 := hff 1 _ rfl
        have g2 := hff 2 _ rfl
        simp [cells9, cells22, cells25] at g0 g1 g2
        have e0 := hcell 0 (by omega)
        have e1 := hcell 1 (by omega)
        have e2 := hcell 2 (by omega)
        rw [Go.Deep.add_add] at e0 e1 e2
        obtain ⟨s, hs, _, hsz⟩ := DataW.trod_string Yba.underlying9 g0
        obtain ⟨n1, hn1, _, hw1⟩ := DataW.trod_int Yba.underlying22 g1
        obtain ⟨n2, hn2, _, hw2⟩ := DataW.trod_int Yba.underlying25 g2
        simp at hs hn1 hn2
        subst hs hn1 hn2
        have b1 := bounds_u64 hw1
        have b2 := bounds_u16 hw2
        refine ⟨((s, n1.toNat), n2.toNat), by simpa using e0, ?_, ?_, ⟨hsz, by show n1.toNat < _; omega⟩, by show n2.toNat < _; omega⟩
        · show W.cell? (a.add (i * 3 + 1)) = some (.int .u64 (n1.toNat : Int))
          rw [Int.toNat_of_nonneg b1.1]
          simpa using e1
        · show W.cell? (a.add (i * 3 + 2)) = some (.int .u16 (n2.toNat : Int))
          rw [Int.toNat_of_nonneg b2.1]
          simpa using e2
    obtain ⟨q, hq⟩ := Go.Deep.choose_lt each
    refine ⟨(List.range len0).map q, by simp, fun p hp => ?_, fun hpos => ?_⟩
    · obtain ⟨i, hi, rfl⟩ := List.mem_map.1 hp
      have := hq i (List.mem_range.1 hi)
      exact ⟨this.2.2.2.1, this.2.2.2.2⟩
    · obtain ⟨b, off, spot⟩ := a
      have h0 := (hq 0 hpos).1
      have hspot : spot = none := by simpa [Addr.add] using World.cell?_spot h0
      subst hspot
      refine ⟨b, off, rfl, World.block_lt_of_cell? W _ (by simpa using h0), fun i p hp => ?_⟩
      have hi : i < len0 := by
        have := (List.getElem?_eq_some_iff.1 hp).1
        simpa using this
      rw [List.getElem?_map, List.getElem?_range hi] at hp
      simp at hp
      subst hp
      have := hq i hi
      rw [add_plain, add_plain, add_plain] at this
      exact ⟨this.1, by simpa [Nat.add_assoc] using this.2.1, by simpa [Nat.add_assoc] using this.2.2.1⟩
theorem open_bytes {H : Type} {enc : TypeId × Value → H} {W : World} {a0 : Option Addr} {len0 cap0 : Nat} {d0 : DataW H} {p0 : List MemPlace} (h0 : DataW.Trod enc Yba.prog W 0 (fun _ => true) true 24 (.slice a0 len0 cap0) d0 p0) :
    ∃ bs, BIn W a0 len0 bs ∧ (0 < len0 → ∀ a, a0 = some a → a.block < W.heap.size) := by
  obtain ⟨fuel, hf⟩ := h0
  rcases open_ints Yba.underlying24 Yba.underlying5 cells5 hf with ⟨hcs, _⟩ | ⟨x, l, c, zs, hcs, _, hl, hm, hz, _, hcell, hwz⟩
  · simp [Value.cells] at hcs
    obtain ⟨rfl, rfl, rfl⟩ := hcs
    exact ⟨[], ⟨rfl, fun h => by omega⟩, fun h => by omega⟩
  · simp [Value.cells] at hcs
    obtain ⟨rfl, rfl, rfl⟩ := hcs
    simp only [if_true] at hz
    obtain ⟨b, off, spot⟩ := x
    have key : 0 < len0 → spot = none := fun hp => by
      have h0 := hcell 0 (by omega)
      simpa [Addr.add] using World.cell?_spot h0
    have cl : ∀ i, i < len0 → W.cell? ⟨b, off + i, none⟩ = some (.int .u8 ((zs.take len0).getD i 0)) := fun i hi => by
      have h1 := hcell i (by omega)
      have := key (by omega)
      subst this
      rw [add_plain] at h1
      rw [h1, List.getD_eq_getElem?_getD, List.getD_eq_getElem?_getD, List.getElem?_take_of_lt hi]
    refine ⟨zs.take len0, ⟨by rw [List.length_take]; omega, fun hp => ⟨b, off, by rw [key hp], cl⟩⟩, fun hp a ha => ?_⟩
    cases ha
    exact World.block_lt_of_cell? W ⟨b, off + 0, none⟩ (cl 0 hp)
end Go.Proofs.Ybulkctoc.HT
