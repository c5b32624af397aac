/- THE CONTRACT OF 'newClassTable' (function 13). -/
import Derived.Test.YbulkctlkCInv
import Derived.Deep.RegionLaw
import Derived.Deep.DrawnRows
import Derived.Deep.CutBlock
namespace Go.Proofs.Ybulkctlk.CT
open Go.ChangeShapes Go.WideShapes Go.ChangeAt Go.RowKit Go.Proofs.Ybulkctlk.CP Go.Proofs.Ybulkctlk.CA
set_option linter.unusedVariables false
attribute [local go_sem ↓] Go.wp_at_zero Go.wp_at_succ

set_option maxRecDepth 100000 in
set_option maxHeartbeats 16000000 in
theorem new_any (k m : Nat) (w : World) (hm : m ≤ k) (hk : k ≤ 20) :
    Calls Yba.prog 13 #[.int .i64 k, .int .i64 m, .int .i64 1099511627776] w fun e w' => ∃ b gB capB gF capF gs parts, e = .returned (.pointer (some ⟨b, 0, none⟩)) ∧
      Inv w w' b k m (m + 1) (m + 2) gB capB gF capF gs parts := by
  obtain ⟨i0, hi, hz0, hz1, hz2⟩ := info_parts info3
  obtain ⟨i1, hj, hy0, hy1, hy2⟩ := info_parts info30
  go_enter Yba.func13, Yba.ntmps13
  go_wp2_with (at_make; refine wpList_make_full _ rfl _ _ 30 rfl w.heap.size 3 i0 _ 1 Yba.underlying30 hi hz0 hz1 .i64 .i64 _ _ (k + 1) rfl rfl (by omega) (by omega) ?c1 ?c2 ?c3 ?_)
  case c1 => rw [hz2]; omega
  case c2 => unfold maxLen; omega
  case c3 => exact Nat.le_refl _
  intro w1 hown hgrow
  have hb1 : Below w.heap.size w w1 := (Below.refl _ _).grown hgrow (Nat.le_refl _) (by simp)
  have hs1 : w.heap.size < w1.heap.size := (hown.lt _ rfl).2
  have hO := One.start (k := k) (m := m) hown hb1 hs1
  obtain ⟨B1, hB1⟩ : ∃ B1, w1.heap.size = B1 := ⟨_, rfl⟩
  go_wp2
  rw [hB1] at hO
  go_loopw [28] (fun i wr => ∃ (n : Nat) (xs : List Value), n ≤ k + 1 ∧ i = .int .i64 n ∧ One w wr k m B1 n xs) (fun i _ => k + 1 - (intOf i).toNat)
  case atStart => exact ⟨0, _, by omega, rfl, hO⟩
  case round =>
    obtain ⟨n, xs, hn, rfl, hOn⟩ := hrel
    by_cases hlt : n < k + 1
    · have c2 := cell_of_heap (i := 2) hOn.hT rfl
      have cB := cell_of_heap (i := 0) hOn.hB rfl
      have hfz := hOn.own.frozenAt n
      obtain ⟨old, hold⟩ : ∃ old, wr.cell? ⟨w.heap.size, n, none⟩ = some old := by
        rw [hOn.own.cellAt n (by omega)]
        have : n < xs.length := by have := hOn.own.1; omega
        exact ⟨_, List.getElem?_eq_getElem this⟩
      go_wp2
      go_roundw
      case rel => exact ⟨n + 1, _, by omega, by go_num, hOn.step (by omega)⟩
      case measure => simp [intOf]; omega
    · have hne : n = k + 1 := by omega
      subst hne
      have hI := hOn.inv
      clear hOn hO hown hgrow hb1 hs1
      go_wp2
      go_loopw [9] (fun v wr => ∃ (s gB capB gF capF : Nat) (gs : Nat → Nat) (parts : Int), s ≤ m ∧ v = .int .i64 ((s : Int) + 1) ∧ Inv w wr (B1 + 1 + 1) k m (s + 1) (s + 2) gB capB gF capF gs parts)
        (fun v _ => m + 1 - (intOf v).toNat)
      case atStart => exact ⟨0, _, _, _, _, _, _, by omega, rfl, hI⟩
      case round =>
        clear hI
        obtain ⟨s, gB, capB, gF, capF, gs, parts, hs, rfl, hI⟩ := hrel
        by_cases hlt : s < m
        · go_upto_block 3 with fail
          go_cut [9] from 40 to 124 (fun v wc => v = .int .i64 ((s : Int) + 1) ∧ ∃ (gB capB gF capF : Nat) (gs : Nat → Nat) (parts : Int), Inv w wc (B1 + 1 + 1) k m (s + 2) (s + 3) gB capB gF capF gs parts)
          case rest =>
            obtain ⟨rfl, gB2, capB2, gF2, capF2, gs2, parts2, hI2⟩ := hcut
            clear hI
            go_wp2
            go_roundw
            case rel => first | exact ⟨s + 1, _, _, _, _, _, _, by omega, by go_num, hI2⟩ | ((repeat apply Exists.intro); exact ⟨⟨s + 1, _, _, _, _, _, _, by omega, by go_num, hI2⟩, rfl⟩)
            case measure => simp [intOf]; omega
          case first =>
            go_wp2_with (at_make; refine wpList_make_full _ rfl _ _ 30 rfl w.heap.size 3 i0 _ 1 Yba.underlying30 hi hz0 hz1 .i64 .i64 _ _ (k + 1) rfl rfl (by omega) (by omega) ?d1 ?d2 ?d3 ?_)
            case d1 => rw [hz2]; omega
            case d2 => unfold maxLen; omega
            case d3 => exact hI.below.size
            intro w2 hown2 hgrow2
            have hb2 : Below w.heap.size w w2 := hI.below.grown hgrow2 hI.below.size (by simp)
            have hI2 := hI.later hb2 (fun g hg => hgrow2.block g hg (by simp))
            have hgc := hI.gB_ne.2.2.2.1
            have hgc2 := hI.gF_ne.2.1
            have hgc3 := hI.b_lt
            have hgc4 : ∀ j, j < s + 1 → gs j < wr.heap.size := fun j hj => (hI.gs_ne j hj).2
            have hgc5 := hI.below.size
            obtain ⟨gc, hgc0⟩ : ∃ gc, wr.heap.size = gc := ⟨_, rfl⟩
            rw [hgc0] at hgc hgc2 hgc3 hgc4 hgc5 hown2
            clear hI hgrow2
            go_wp2
            rw [hgc0]
            clear hgc0
            go_loopw [11] (fun v wr => ∃ (a : Nat) (xs : List Value), s ≤ a ∧ a ≤ k ∧ v = .int .i64 ((a : Int) + 1) ∧ Inv w wr (B1 + 1 + 1) k m (s + 1) (s + 2) gB capB gF capF gs parts ∧
                wr.ownsRow w.heap.size 3 1 (.slice (some ⟨gc, 0, none⟩) (k + 1) (k + 1)) (k + 1) xs ∧ ∀ i, i ≤ a → xs[i]? = some (.int .i64 (C i (s + 1))))
              (fun v _ => k + 1 - (intOf v).toNat)
            case atStart => exact ⟨s, _, by omega, by omega, rfl, hI2, hown2, fun i hi => by rw [zeros_get _ _ (by omega), C_lt i (s + 1) (by omega)]; rfl⟩
            case round =>
              clear hI2 hown2 hb2
              obtain ⟨a, xs, hsa, hak, rfl, hI, hown, hxs⟩ := hrel
              by_cases hlt2 : a < k
              · have c2 : wr.cell? ⟨B1 + 1 + 1, 2, none⟩ = some (.slice (some ⟨gB, 0, none⟩) (s + 1) capB) := cell_of_heap (i := 2) hI.box rfl
                have cR : wr.cell? ⟨gB, s, none⟩ = some (.slice (some ⟨gs s, 0, none⟩) (k + 1) (k + 1)) := by rw [hI.ownB.cellAt s (by omega), rows_get (by omega)]
                have cA : wr.cell? ⟨gs s, a, none⟩ = some (.int .i64 (C a s)) := cell_of_heap (hI.cols s (by omega)).2.2 (by simp [col_get (show a ≤ k by omega)])
                have cX : wr.cell? ⟨gc, a, none⟩ = some (.int .i64 (C a (s + 1))) := by rw [hown.cellAt a (by omega)]; exact hxs a (Nat.le_refl _)
                have hfz := hown.frozenAt (a + 1)
                obtain ⟨old, hold⟩ : ∃ old, wr.cell? ⟨gc, a + 1, none⟩ = some old := by
                  rw [hown.cellAt (a + 1) (by omega)]
                  have : a + 1 < xs.length := by have := hown.1; omega
                  exact ⟨_, List.getElem?_eq_getElem this⟩
                have hC1 := C_le20 a s (by omega)
                have hC2 := C_le20 a (s + 1) (by omega)
                have i1 : (0 : Int) ≤ (s : Int) := by omega
                have i2 : (s : Int) < (s : Int) + 1 := by omega
                have i3 : (0 : Int) ≤ (a : Int) := by omega
                have i4 : (a : Int) < (k : Int) + 1 := by omega
                have i5 : (a : Int) + 1 < (k : Int) + 1 := by omega
                have i6 : (0 : Int) ≤ (a : Int) + 1 := by omega
                have HI : Hid (Inv w wr (B1 + 1 + 1) k m (s + 1) (s + 2) gB capB gF capF gs parts) := hI
                have HO : Hid (wr.ownsRow w.heap.size 3 1 (.slice (some ⟨gc, 0, none⟩) (k + 1) (k + 1)) (k + 1) xs) := hown
                clear hI hown
                have v1 : IntKind.i64.wrap (s : Int) = s := by rw [IntKind.wrap_i64]; omega
                have v2 : IntKind.i64.wrap (a : Int) = a := by rw [IntKind.wrap_i64]; omega
                have v3 : IntKind.i64.wrap ((C a s : Int) + (C a (s + 1) : Int)) = (C a s : Int) + (C a (s + 1) : Int) := by rw [IntKind.wrap_i64]; omega
                have hbox : ∀ v, (wr.setCell ⟨gc, a + 1, none⟩ v).drew.cell? ⟨B1 + 1 + 1, 2, none⟩ = some (.slice (some ⟨gB, 0, none⟩) (s + 1) capB) := fun v => keep_far (by omega) c2
                have hrow : ∀ v, (wr.setCell ⟨gc, a + 1, none⟩ v).drew.cell? ⟨gB, s, none⟩ = some (.slice (some ⟨gs s, 0, none⟩) (k + 1) (k + 1)) := fun v => keep_far (by omega) cR
                have hcol : ∀ v, (wr.setCell ⟨gc, a + 1, none⟩ v).drew.cell? ⟨gs s, a, none⟩ = some (.int .i64 (C a s)) := fun v => keep_far (by have := hgc4 s (by omega); omega) cA
                have hcur : ∀ v, (wr.setCell ⟨gc, a + 1, none⟩ v).drew.cell? ⟨gc, a, none⟩ = some (.int .i64 (C a (s + 1))) := fun v => keep_off (by omega) cX
                have HK : Hid (_ ∧ _ ∧ _ ∧ _) := ⟨hbox, hrow, hcol, hcur⟩
                clear hbox hrow hcol hcur
                go_wp2
                go_region_held3 (fun w' => w'.cell? ⟨B1 + 1 + 1, 2, none⟩ = some (.slice (some ⟨gB, 0, none⟩) (s + 1) capB) ∧ w'.cell? ⟨gB, s, none⟩ = some (.slice (some ⟨gs s, 0, none⟩) (k + 1) (k + 1)) ∧
                    w'.cell? ⟨gs s, a, none⟩ = some (.int .i64 (C a s)) ∧ w'.cell? ⟨gc, a, none⟩ = some (.int .i64 (C a (s + 1)))) (first | exact ⟨HK.out.1 _, HK.out.2.1 _, HK.out.2.2.1 _, HK.out.2.2.2 _⟩ | go_keep) (fail)
                go_wp2
                go_roundw
                case rel =>
                  refine ⟨a + 1, _, by omega, by omega, by go_num, HI.out.column hgc hgc2 hgc3 hgc4 hgc5, (HO.out.stored (a + 1) _).1.drew, fun i hi => ?_⟩
                  have h1 := HO.out.1
                  rw [List.getElem?_set]
                  by_cases hia : a + 1 = i
                  · subst hia
                    rw [if_pos rfl, if_pos (by omega), C_succ]; go_num
                  · rw [if_neg hia]; exact hxs i (by omega)
                case measure => simp [intOf]; omega
              · have hae : a = k := by omega
                subst hae
                obtain ⟨hch, hxl⟩ := owned_heap hown
                have hxc : xs = col a (s + 1) := col_of hxl hxs
                rw [hxc] at hch
                clear hown hxs hxl hxc
                have c2 : wr.cell? ⟨B1 + 1 + 1, 2, none⟩ = some (.slice (some ⟨gB, 0, none⟩) (s + 1) capB) := cell_of_heap (i := 2) hI.box rfl
                have HI : Hid (Inv w wr (B1 + 1 + 1) a m (s + 1) (s + 2) gB capB gF capF gs parts) := hI
                have HC : Hid (wr.heap[gc]? = some (.cells (col a (s + 1)).toArray 3 (0, 0))) := hch
                clear hI hch
                go_wp2_with (at_builtin; refine wpList_append_two _ rfl _ _ 54 rfl w.heap.size 30 i1 _ 1 24 Yba.underlying54 hj hy0 hy1 hy2 rfl (by omega) gB (s + 1) capB (rows a (s + 1) gs) rfl (HI.out.ownB.alloc _) ⟨wr.heap.size, 0, none⟩ 1 1 [.slice (some ⟨gc, 0, none⟩) (a + 1) (a + 1)] rfl rfl (cell_one_new _ _ _) (by simp [Value.oneCell']) (by omega) ?e1 ?e2 ?e3 ?_)
                case e1 => unfold maxLen; omega
                case e2 => omega
                case e3 => have := HI.out.below.size; simp; omega
                intro g' cap' w3 hown3 htwo
                have hbX : Below w.heap.size w (wr.alloc (.cells #[.slice (some ⟨gc, 0, none⟩) (a + 1) (a + 1)] 30)) := HI.out.below.alloc HI.out.below.size _
                have hI3 := HI.out.pushB HC.out (by omega) hgc5 (by simp) (fun g hg => Below.heap_alloc _ _ _ hg) hown3 htwo hbX
                have hne : B1 + 1 + 1 ≠ gB := fun e => HI.out.gB_ne.1 e.symm
                have hbl := HI.out.b_lt
                have c2' : w3.cell? ⟨B1 + 1 + 1, 2, none⟩ = some (.slice (some ⟨gB, 0, none⟩) (s + 1) capB) := by
                  rw [htwo.grown.cell_far _ (by simp; omega) (by simpa using hne)]
                  exact cell_of_heap (i := 2) ((Below.heap_alloc _ _ _ hbl).trans HI.out.box) rfl
                have f2' : w3.frozen? ⟨B1 + 1 + 1, 2, none⟩ = false := by
                  rw [htwo.grown.frozen_far _ (by simp; omega) (by simpa using hne)]
                  exact frozen_of_row _ _ _ _ _ ((Below.heap_alloc _ _ _ hbl).trans HI.out.box)
                have hcc : w3.heap[gc]? = some (.cells (col a (s + 1)).toArray 3 (0, 0)) := by
                  rw [htwo.grown.block gc (by have := lt_of_heap HC.out; simp; omega) (by simp; omega), Below.heap_alloc _ _ _ (lt_of_heap HC.out)]; exact HC.out
                have hcc4 : (w3.setCell ⟨B1 + 1 + 1, 2, none⟩ (.slice (some ⟨g', 0, none⟩) (s + 1 + 1) cap')).heap[gc]? = some (.cells (col a (s + 1)).toArray 3 (0, 0)) := by
                  rw [Below.heap_setCell _ _ _ _ (by simp; omega)]; exact hcc
                have HI3 : Hid _ := hI3
                have HC4 : Hid _ := hcc4
                have hpp := HI.out.p1
                clear hown3 htwo hbX hcc hI3 hcc4 HI HC c2
                go_wp2
                generalize hw4 : w3.setCell ⟨B1 + 1 + 1, 2, none⟩ (.slice (some ⟨g', 0, none⟩) (s + 1 + 1) cap') = w4 at HI3 HC4 ⊢
                clear hw4 c2' f2'
                have c4 : w4.cell? ⟨B1 + 1 + 1, 4, none⟩ = some (.int .i64 parts) := cell_of_heap (i := 4) HI3.out.box rfl
                have f4 : w4.frozen? ⟨B1 + 1 + 1, 4, none⟩ = false := frozen_of_row _ _ _ _ _ HI3.out.box
                have cK : w4.cell? ⟨gc, a, none⟩ = some (.int .i64 (C a (s + 1))) := cell_of_heap HC4.out (by simp [col_get (Nat.le_refl a)])
                have hC1 := C_le20 a (s + 1) (by omega)
                have hp0 := HI3.out.p0
                have hq0 : 0 ≤ (C a (s + 1) : Int) * ((s : Int) + 1) := Int.mul_nonneg (by omega) (by omega)
                have hq1 : (C a (s + 1) : Int) * ((s : Int) + 1) ≤ 20971520 := by
                  have h1 : (C a (s + 1) : Int) * ((s : Int) + 1) ≤ 1048576 * 20 := Int.mul_le_mul (by omega) (by omega) (by omega) (by omega)
                  omega
                have i3 : (0 : Int) ≤ (a : Int) := by omega
                have i4 : (a : Int) < (a : Int) + 1 := by omega
                have v1 : IntKind.i64.wrap ((C a (s + 1) : Int) * ((s : Int) + 1)) = (C a (s + 1) : Int) * ((s : Int) + 1) := by rw [IntKind.wrap_i64]; omega
                have v2 : IntKind.i64.wrap (parts + (C a (s + 1) : Int) * ((s : Int) + 1)) = parts + (C a (s + 1) : Int) * ((s : Int) + 1) := by rw [IntKind.wrap_i64]; omega
                go_region
                have hI5 := HI3.out.setParts (p2 := parts + (C a (s + 1) : Int) * ((s : Int) + 1)) (w2 := (w4.setCell ⟨B1 + 1 + 1, 4, none⟩ (.int .i64 (parts + (C a (s + 1) : Int) * ((s : Int) + 1)))).drew) (by omega) (by omega) rfl (HI3.out.below.setCell HI3.out.base _).drew
                have hcc5 : (w4.setCell ⟨B1 + 1 + 1, 4, none⟩ (.int .i64 (parts + (C a (s + 1) : Int) * ((s : Int) + 1)))).drew.heap[gc]? = some (.cells (col a (s + 1)).toArray 3 (0, 0)) := (Below.heap_setCell w4 _ _ _ (by simp; omega)).trans HC4.out
                have HI5 : Hid _ := hI5
                have HC5 : Hid _ := hcc5
                clear hI5 hcc5 HI3 HC4 v1 v2
                generalize (w4.setCell ⟨B1 + 1 + 1, 4, none⟩ (.int .i64 (parts + (C a (s + 1) : Int) * ((s : Int) + 1)))).drew = w5 at HI5 HC5 ⊢
                clear c4 f4 cK
                have c4 : w5.cell? ⟨B1 + 1 + 1, 4, none⟩ = some (.int .i64 (parts + (C a (s + 1) : Int) * ((s : Int) + 1))) := cell_of_heap (i := 4) HI5.out.box rfl
                have hroom : ¬ (1099511627776 : Int) < parts + (C a (s + 1) : Int) * ((s : Int) + 1) := by omega
                go_wp2
                have c3 : w5.cell? ⟨B1 + 1 + 1, 3, none⟩ = some (.slice (some ⟨gF, 0, none⟩) (s + 2) capF) := cell_of_heap (i := 3) HI5.out.box rfl
                have f3 : w5.frozen? ⟨B1 + 1 + 1, 3, none⟩ = false := frozen_of_row _ _ _ _ _ HI5.out.box
                have cF : w5.cell? ⟨gF, s + 1, none⟩ = some (.int .i64 (F a (s + 1))) := by rw [HI5.out.ownF.cellAt (s + 1) (by omega), firsts_get (by omega)]
                have cK : w5.cell? ⟨gc, a, none⟩ = some (.int .i64 (C a (s + 1))) := cell_of_heap HC5.out (by simp [col_get (Nat.le_refl a)])
                have hF1 := F_le a hk (s + 1)
                have hne3 : B1 + 1 + 1 ≠ gF := fun e => HI5.out.gF_ne.1 e.symm
                have hbl5 := HI5.out.b_lt
                have i5 : (s : Int) + 1 < (s : Int) + 2 := by omega
                have i6 : (0 : Int) ≤ (s : Int) + 1 := by omega
                have v1 : IntKind.i64.wrap ((F a (s + 1) : Int) + (C a (s + 1) : Int)) = (F a (s + 1) : Int) + (C a (s + 1) : Int) := by rw [IntKind.wrap_i64]; omega
                clear c4 hroom hq0 hq1 hpp hp0
                go_region_law ((refine step_append_two _ (by rfl) _ _ _ (by rfl) w.heap.size 3 i0 _ 1 8 Yba.underlying30 hi hz0 hz1 hz2 rfl (by omega) gF (s + 2) capF (firsts a (s + 2)) (by rfl) ((HI5.out.ownF.alloc _).drew) ⟨w5.heap.size, 0, none⟩ 1 1 [.int .i64 ((F a (s + 1) : Int) + (C a (s + 1) : Int))] (by rfl) (by rfl) (cell_one_new _ _ _) (by simp [Value.oneCell']) (by omega) (by unfold maxLen; omega) (by omega) (by have := HI5.out.below.size; simp; omega) ?_; intro g2 cap2 w6 hown6 htwo6; have c6 := htwo6.grown.cell_far ⟨B1 + 1 + 1, 3, none⟩ (by simp; omega) (by simpa using hne3); have f6 := htwo6.grown.frozen_far ⟨B1 + 1 + 1, 3, none⟩ (by simp; omega) (by simpa using hne3)))
                all_goals
                  go_wp2
                  go_meet
                  case rel =>
                    refine ⟨rfl, g', cap', g2, cap2, _, _, HI5.out.pushF (X := (w5.alloc (.cells #[.int .i64 ((F a (s + 1) : Int) + (C a (s + 1) : Int))] 3)).drew) (by simp) (fun g hg => Below.heap_alloc w5 _ g hg) ?_ htwo6 ((HI5.out.below.alloc HI5.out.below.size _).drew) rfl ((Below.refl _ _).setCell HI5.out.base _)⟩
                    rw [F_two, Int.natCast_add]; exact hown6
        · have hse : s = m := by omega
          subst hse
          go_wp2
          go_ret
          exact ⟨_, _, _, _, _, _, _, rfl, hI⟩
end Go.Proofs.Ybulkctlk.CT
