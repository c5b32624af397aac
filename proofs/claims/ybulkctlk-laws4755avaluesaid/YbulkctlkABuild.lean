/- THE CONTRACT OF 'zzs4755abuild' (function 9). -/
import Derived.Test.YbulkctlkRows
import Derived.WalkKit
import Derived.ProofKit
import Derived.WalkLawsBesides
import Derived.Below
namespace Go.Proofs.Ybulkctlk.AV
open Go.ChangeShapes Go.WideShapes Go.ChangeAt Go.RowKit
set_option linter.unusedVariables false

def IsRow (k : IntKind) (w : World) (a : Option Addr) (len cap : Nat) (zs : List Int) : Prop :=
  (a = none ∧ len = 0 ∧ cap = 0 ∧ zs = []) ∨
  ∃ x, a = some x ∧ len ≤ cap ∧ cap ≤ maxLen ∧ zs.length = cap ∧ (∀ i, i < zs.length → w.cell? (x.add i) = some (.int k (zs.getD i 0))) ∧ ∀ n ∈ zs, (Lit.int k n).wf = true

theorem isRow_open {k : IntKind} {w : World} {a : Option Addr} {len cap : Nat} {zs : List Int} (h : IsRow k w a len cap zs) (hl : 0 < len) :
    ∃ b off, a = some ⟨b, off, none⟩ ∧ b < w.heap.size ∧ len ≤ zs.length ∧ (∀ i, i < len → w.cell? ⟨b, off + i, none⟩ = some (.int k (zs.getD i 0))) ∧ ∀ n ∈ zs, (Lit.int k n).wf = true := by
  rcases h with ⟨rfl, rfl, _, _⟩ | ⟨x, rfl, hlc, hcm, hzl, hc, hwf⟩
  · omega
  obtain ⟨b, off, spot⟩ := x
  have h0 := hc 0 (by omega)
  have hspot : spot = none := by simpa [Addr.add] using World.cell?_spot h0
  subst hspot
  have hb := block_lt_of_cell h0
  refine ⟨b, off, rfl, by simpa [Addr.add] using hb, by omega, fun i hi => ?_, hwf⟩
  have := hc i (by omega)
  rwa [add_plain] at this

theorem info3 : (Yba.prog.info? 3).map (fun i => (i.zero, i.size, i.bytes)) = some (some (.int .i64 0), 1, 8) := by kernel_rfl
theorem info76 : (Yba.prog.info? 76).map (fun i => (i.zero, i.size, i.bytes)) = some (some (.agg #[.int .i64 0, .int .i64 0, .float .f64 0, .slice none 0 0]), 4, 48) := by kernel_rfl

set_option maxHeartbeats 400000 in
theorem build_any (a : Option Addr) (len cap : Nat) (zs : List Int) (w : World) (hr : IsRow .i32 w a len cap zs) (hlen : len ≤ 1024) :
    Calls Yba.prog 9 #[.slice a len cap] w fun e w' => ∃ g b tsk, e = .returned (.pointer (some ⟨b, 0, none⟩)) ∧
      w'.cell? ⟨b, 0, none⟩ = some (.slice tsk len len) ∧ w'.cell? ⟨b, 1, none⟩ = some (.slice (some ⟨g, 0, none⟩) len len) ∧
      (∀ i, i < len → w'.cell? ⟨g, i, none⟩ = some (.int .i64 (zs.getD i 0))) ∧ Below w.heap.size w w' := by
  obtain ⟨i0, hi, hz0, hz1, hz2⟩ := info_parts info3
  obtain ⟨i1, hj, hy0, hy1, hy2⟩ := info_parts info76
  have hmm := @run_makeMap Yba.prog
  go_enter Yba.func9, Yba.ntmps9
  go_wp2_with (at_make; refine wpList_make_full _ rfl _ _ 30 rfl w.heap.size 3 i0 _ 1 Yba.underlying30 hi hz0 hz1 .i64 .i64 _ _ len rfl rfl rfl rfl ?c1 ?c2 ?c3 ?_)
  case c1 => rw [hz2]; omega
  case c2 => unfold maxLen; omega
  case c3 => exact Nat.le_refl _
  intro w1 hown hgrow
  have hb1 : Below w.heap.size w w1 := (Below.refl _ _).grown hgrow (Nat.le_refl _) (by simp)
  go_wp2
  go_loopw [5] (fun i wr => ∃ k : Nat, ∃ xs : List Value, k ≤ len ∧ i = .int .i64 k ∧ wr.ownsRow w.heap.size 3 1 (.slice (some ⟨w.heap.size, 0, none⟩) len len) len xs ∧
      (∀ j, j < k → xs[j]? = some (.int .i64 (zs.getD j 0))) ∧ Below w.heap.size w wr) (fun i _ => len - (intOf i).toNat)
  case atStart => exact ⟨0, _, Nat.zero_le _, rfl, hown, by omega, hb1⟩
  case round =>
    obtain ⟨k, xs, hk, rfl, how, hx, hbr⟩ := hrel
    by_cases hlt : k < len
    · obtain ⟨b, off, rfl, hbB, hzl, hc, hwf⟩ := isRow_open hr (by omega)
      have hcx : wr.cell? ⟨b, off + k, none⟩ = some (.int .i32 (zs.getD k 0)) := (hbr.cell (by exact hbB)).trans (hc k hlt)
      have hst := how.stored k (.int .i64 (zs.getD k 0))
      have hfz := how.frozenAt k
      obtain ⟨old, hold⟩ : ∃ old, wr.cell? ⟨w.heap.size, k, none⟩ = some old := by
        rw [how.cellAt k (by omega)]
        have : k < xs.length := by have := how.1; omega
        exact ⟨_, List.getElem?_eq_getElem this⟩
      have hw32 : (Lit.int .i32 (zs.getD k 0)).wf = true := by
        apply hwf
        rw [List.getD_eq_getElem?_getD, List.getElem?_eq_getElem (by omega)]
        exact List.getElem_mem _
      have hbd : -2147483648 ≤ zs.getD k 0 ∧ zs.getD k 0 ≤ 2147483647 := by
        simpa [Lit.wf, IntKind.min, IntKind.max, IntKind.bits, IntKind.signed] using hw32
      obtain ⟨z, hz⟩ : ∃ z, z = zs.getD k 0 := ⟨_, rfl⟩
      rw [← hz] at hcx hst hbd
      have HZ : Hid (z = zs.getD k 0) := hz
      have HST : Hid (_ ∧ _) := hst
      have HOW : Hid (wr.ownsRow _ _ _ _ _ _) := how
      obtain ⟨hbd1, hbd2⟩ := hbd
      clear hz hst how hw32
      go_wp2
      go_roundw
      case rel =>
        refine ⟨k + 1, _, by omega, by go_num, HST.out.1, fun j hj => ?_, hbr.setCell (Nat.le_refl _) _⟩
        have h1 := HOW.out.1
        rw [List.getElem?_set]
        by_cases hjk : k = j
        · subst hjk
          rw [if_pos rfl, if_pos (by omega), HZ.out]
        · rw [if_neg hjk]; exact hx j (by omega)
      case measure => simp [intOf]; omega
    · have hke : k = len := by omega
      subst hke
      go_wp2_with (at_make; refine wpList_make_full _ rfl _ _ 29 rfl w.heap.size 76 i1 _ 4 Yba.underlying29 hj hy0 hy1 .i64 .i64 _ _ k rfl rfl rfl rfl ?d1 ?d2 ?d3 ?_)
      case d1 => rw [hy2]; omega
      case d2 => unfold maxLen; omega
      case d3 => exact hbr.size
      intro w2 hown2 hgrow2
      have how2 := how.kept hgrow2 (.inr (by simp [Value.ownBlock]))
      have hb2 : Below w.heap.size w w2 := hbr.grown hgrow2 hbr.size (by simp)
      have hsz2 : w.heap.size < w2.heap.size := (how2.lt w.heap.size rfl).2
      go_wp2
      go_ret
      refine ⟨w.heap.size, w2.heap.size + 1, some ⟨wr.heap.size, 0, none⟩, rfl, by simp, by simp, fun i hi => ?_, (hb2.alloc (by omega) _).alloc (by simp; omega) _⟩
      rw [((how2.alloc _).alloc _).cellAt i (by omega)]
      exact hx i hi
end Go.Proofs.Ybulkctlk.AV
