/- THE CONTRACTS OF 'number' (14), 'sets' (15), 'zzs4755cbinom' (16). -/
import Derived.Test.YbulkctlkCInv
import Derived.Test.YbulkctlkCRank
import Derived.Deep.QuietTactic
import Derived.BigQuiet
namespace Go.Proofs.Ybulkctlk.CT
open Go.ChangeShapes Go.WideShapes Go.ChangeAt Go.RowKit Go.Proofs.Ybulkctlk.CP
set_option linter.unusedVariables false

/-- The table, for whoever reads it: its cells. -/
def Tab (w : World) (b k m : Nat) : Prop := ∃ (gB capB gF capF : Nat) (gs : Nat → Nat),
  w.cell? ⟨b, 2, none⟩ = some (.slice (some ⟨gB, 0, none⟩) (m + 1) capB) ∧ w.cell? ⟨b, 3, none⟩ = some (.slice (some ⟨gF, 0, none⟩) (m + 2) capF) ∧
  (∀ j, j ≤ m → w.cell? ⟨gB, j, none⟩ = some (.slice (some ⟨gs j, 0, none⟩) (k + 1) (k + 1))) ∧
  (∀ j a, j ≤ m → a ≤ k → w.cell? ⟨gs j, a, none⟩ = some (.int .i64 (C a j))) ∧
  (∀ s, s ≤ m + 1 → w.cell? ⟨gF, s, none⟩ = some (.int .i64 (F k s)))

theorem Inv.tab {w wr : World} {b k m gB capB gF capF : Nat} {gs : Nat → Nat} {parts : Int} (h : Inv w wr b k m (m + 1) (m + 2) gB capB gF capF gs parts) : Tab wr b k m :=
  ⟨gB, capB, gF, capF, gs, cell_of_heap (i := 2) h.box rfl, cell_of_heap (i := 3) h.box rfl,
    fun j hj => by rw [h.ownB.cellAt j (by omega), rows_get (by omega)],
    fun j a hj ha => cell_of_heap (h.cols j (by omega)).2.2 (by simp [col_get ha]),
    fun s hs => by rw [h.ownF.cellAt s (by omega), firsts_get (by omega)]⟩

theorem Tab.below {w w' : World} {b k m : Nat} (h : Tab w b k m) (hb : Below w.heap.size w w') : Tab w' b k m := by
  obtain ⟨gB, capB, gF, capF, gs, h1, h2, h3, h4, h5⟩ := h
  have key : ∀ {p : Addr} {v : Value}, w.cell? p = some v → w'.cell? p = some v := fun hp => (hb.cell (block_lt_of_cell hp)).trans hp
  exact ⟨gB, capB, gF, capF, gs, key h1, key h2, fun j hj => key (h3 j hj), fun j a hj ha => key (h4 j a hj ha), fun s hs => key (h5 s hs)⟩

theorem div_step (a j : Nat) (hj : j < a) : ((C a j : Int) * ((a : Int) - (j : Int))) / ((j : Int) + 1) = (C a (j + 1) : Int) := by
  have h := C_div a j
  rw [← h, Int.natCast_ediv, Int.natCast_mul]
  congr 2
  omega
theorem mul_bound (a j : Nat) (ha : a ≤ 20) (hj : j < a) : 0 ≤ (C a j : Int) * ((a : Int) - (j : Int)) ∧ (C a j : Int) * ((a : Int) - (j : Int)) ≤ 20971520 := by
  have h1 := C_le20 a j ha
  refine ⟨Int.mul_nonneg (by omega) (by omega), ?_⟩
  have : (C a j : Int) * ((a : Int) - (j : Int)) ≤ 1048576 * 20 := Int.mul_le_mul (by omega) (by omega) (by omega) (by omega)
  omega

/-- 'C(a, b)' by the multiplicative rule. -/
theorem binom_any (a i : Nat) (w : World) (ha : a ≤ 20) : Calls Yba.prog 16 #[.int .i64 a, .int .i64 i] w fun e w' => e = .returned (.int .i64 (C a i)) ∧ w' = w := by
  have h0 : ¬ ((i : Int) < 0) := by omega
  by_cases hi : a < i
  · have h1 : ((a : Int) < (i : Int)) := by omega
    have e0 : C a i = 0 := C_lt a i hi
    go_enter Yba.func16, Yba.ntmps16
    go_wp2
    go_ret
    exact ⟨rfl, rfl⟩
  · have h1 : ¬ ((a : Int) < (i : Int)) := by omega
    go_enter Yba.func16, Yba.ntmps16
    go_wp2
    go_loop [5, 6] (fun c n => ∃ j : Nat, j ≤ i ∧ n = .int .i64 j ∧ c = .int .i64 (C a j)) (fun _ n => i - (intOf n).toNat)
    case atStart => exact ⟨0, by omega, rfl, by rw [C_zero]; rfl⟩
    case round =>
      obtain ⟨j, hj, rfl, rfl⟩ := hrel
      by_cases hlt : j < i
      · have hC := C_le20 a j ha
        obtain ⟨b1, b2⟩ := mul_bound a j ha (by omega)
        have hd : Hid _ := div_step a j (by omega)
        go_wp2
        go_round
        case rel => exact ⟨j + 1, by omega, by go_num, by rw [← hd.out]⟩
        case measure => simp [intOf]; omega
      · have : j = i := by omega
        subst this
        go_wp2
        go_ret
        exact ⟨rfl, rfl⟩

set_option maxHeartbeats 400000 in
theorem number_any (b k m gS cap : Nat) (ps : List Nat) (w : World) (hk : k ≤ 20) (hmk : m ≤ k) (ht : Tab w b k m) (hl : ps.length ≤ m) (hp : ∀ p ∈ ps, p ≤ k) (hs : ∀ i, i < ps.length → w.cell? ⟨gS, i, none⟩ = some (.int .i64 (ps.getD i 0))) :
    Calls Yba.prog 14 #[.pointer (some ⟨b, 0, none⟩), .slice (some ⟨gS, 0, none⟩) ps.length cap] w fun e w' => e = .returned (.int .i64 ((F k ps.length + rk 0 ps : Nat) : Int)) ∧ w' = w := by
  obtain ⟨gB, capB, gF, capF, gs, h2, h3, hB, hC, hF⟩ := ht
  have c0 := hF ps.length (by omega)
  have hFl := F_le k hk ps.length
  have i1 : (ps.length : Int) < (m : Int) + 2 := by omega
  go_enter Yba.func14, Yba.ntmps14
  go_wp2
  go_loop [5, 18] (fun n i => ∃ j : Nat, j ≤ ps.length ∧ i = .int .i64 j ∧ n = .int .i64 ((F k ps.length + rk 0 (ps.take j) : Nat) : Int)) (fun _ i => ps.length - (intOf i).toNat)
  case atStart => exact ⟨0, by omega, rfl, by simp [rk]⟩
  case round =>
    obtain ⟨j, hj, rfl, rfl⟩ := hrel
    by_cases hlt : j < ps.length
    · have cs := hs j hlt
      have hpm : ps.getD j 0 ≤ k := hp _ (by rw [List.getD_eq_getElem?_getD, List.getElem?_eq_getElem hlt]; exact List.getElem_mem _)
      have cB := hB (j + 1) (by omega)
      have cC := hC (j + 1) (ps.getD j 0) (by omega) hpm
      have hst := rk_step ps j hlt
      have hrl := rk_le 0 (ps.take j) (fun p hq => Nat.le_trans (hp p (List.mem_of_mem_take hq)) hk)
      have hCl := C_le20 (ps.getD j 0) (j + 1) (by omega)
      have htl : (ps.take j).length ≤ 20 := by simp; omega
      obtain ⟨q, hq⟩ : ∃ q, q = ps.getD j 0 := ⟨_, rfl⟩
      rw [← hq] at cs hpm cC hst hCl
      have HQ : Hid (q = ps.getD j 0) := hq
      have HS : Hid (rk 0 (ps.take (j + 1)) = rk 0 (ps.take j) + C q (j + 1)) := hst
      obtain ⟨R, hR⟩ : ∃ R, rk 0 (ps.take j) = R := ⟨_, rfl⟩
      have hR2 : R ≤ 20971520 := by
        have : (ps.take j).length * 1048576 ≤ 20 * 1048576 := Nat.mul_le_mul_right _ htl
        omega
      rw [hR]
      have HR : Hid (rk 0 (ps.take j) = R) := hR
      clear hq hst hs hB hC hF hrl hR htl
      go_wp2
      go_round
      case rel => exact ⟨j + 1, by omega, by go_num, by rw [HS.out, HR.out]; go_num⟩
      case measure => simp [intOf]; omega
    · have : j = ps.length := by omega
      subst this
      have e : ps.take ps.length = ps := List.take_length
      rw [e]
      go_wp2
      go_ret
      exact ⟨rfl, rfl⟩

theorem sets_any (b k m : Nat) (w : World) (hm : m ≤ 20) (ht : Tab w b k m) :
    Calls Yba.prog 15 #[.pointer (some ⟨b, 0, none⟩)] w fun e w' => e = .returned (.int .i64 (F k (m + 1))) ∧ ∃ n, w' = w.drewN n := by
  obtain ⟨gB, capB, gF, capF, gs, h2, h3, hB, hC, hF⟩ := ht
  have c0 := hF (m + 1) (by omega)
  have i1 : (m : Int) + 1 < (m : Int) + 2 := by omega
  have i2 : (0 : Int) ≤ (m : Int) + 1 := by omega
  clear hB hC hF
  go_enter Yba.func15, Yba.ntmps15
  go_wp2
  go_quiet (fail)
  go_wp2
  go_ret
  exact ⟨rfl, _, rfl⟩
end Go.Proofs.Ybulkctlk.CT
