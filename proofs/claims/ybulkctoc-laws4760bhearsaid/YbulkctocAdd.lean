/- THE CONTRACTS OF 'time.Time.Add' (4), 'Equal' (7), 'Before' (16). -/
import Derived.Test.YbulkctocTime
namespace Go.Proofs.Ybulkctoc.HT
open Go.ChangeShapes Go.WideShapes Go.ChangeAt Go.RowKit
set_option linter.unusedVariables false

theorem addSec_int (b off : Nat) (N s d : Int) (w : World) (h0 : 0 ≤ N) (h9 : N < 1000000000) (c : w.cell? ⟨b, off, none⟩ = some (.int .u64 N)) (c1 : w.cell? ⟨b, off + 1, none⟩ = some (.int .i64 s)) (f1 : w.frozen? ⟨b, off + 1, none⟩ = false)
    (hs1 : -4611686018427387904 ≤ s) (hs2 : s ≤ 4611686018427387904) (hd1 : -4611686018427387904 ≤ d) (hd2 : d ≤ 4611686018427387903) :
    Calls Yba.prog 10 #[.pointer (some ⟨b, off, none⟩), .int .i64 d] w fun e w' => e = .returned (.tuple #[]) ∧ w' = w.setCell ⟨b, off + 1, none⟩ (.int .i64 (s + d)) := by
  obtain ⟨n, rfl⟩ : ∃ n : Nat, N = n := ⟨N.toNat, by omega⟩
  exact addSec_any b off n s d w (by omega) c c1 f1 hs1 hs2 hd1 hd2
theorem or0_int (N : Int) (h0 : 0 ≤ N) (h9 : N < 1000000000) : bits .or .u64 0 N = N := by
  obtain ⟨n, rfl⟩ : ∃ n : Nat, N = n := ⟨N.toNat, by omega⟩
  exact or0 n (by omega)
theorem and63_int (N : Int) (h0 : 0 ≤ N) (h9 : N < 1000000000) : bits .and .u64 N 9223372036854775808 = 0 := by
  obtain ⟨n, rfl⟩ : ∃ n : Nat, N = n := ⟨N.toNat, by omega⟩
  exact and63 n (by omega)

set_option maxRecDepth 400000 in
set_option maxHeartbeats 400000 in
theorem add_any (ns d : Int) (w : World) (h1 : -4000000000000000000 ≤ ns) (h2 : ns ≤ 4000000000000000000) (h3 : -4000000000000000000 ≤ d) (h4 : d ≤ 4000000000000000000) :
    Calls Yba.prog 4 #[tv ns, .int .i64 d] w fun e w' => e = .returned (tv (ns + d)) ∧ Below w.heap.size w w' := by
  obtain ⟨q, r, hq, hr, hd, hr1, hr2⟩ := tdiv_form d
  obtain ⟨n, hn⟩ : ∃ n : Nat, ns % 1000000000 = (n : Int) := ⟨(ns % 1000000000).toNat, by omega⟩
  obtain ⟨s, hs⟩ : ∃ s, ns / 1000000000 = s := ⟨_, rfl⟩
  have hnl : n < 1000000000 := by omega
  have hns : ns = s * 1000000000 + n := by omega
  have HTV : Hid (∀ N S : Int, (0 ≤ N) → N < 1000000000 → ns + d = S * 1000000000 + N → tv (ns + d) = .agg #[.int .u64 N, .int .i64 S, .pointer none]) := fun N S h0 h9 e => by
    unfold tv
    rw [show (ns + d) % 1000000000 = N from by omega, show (ns + d) / 1000000000 = S from by omega]
  unfold tv
  rw [hn, hs]
  have HQ : Hid (d = q * 1000000000 + r) := hd
  have HNS : Hid (ns = s * 1000000000 + n) := hns
  have hq1 : -4000000001 ≤ q := by omega
  have hq2 : q ≤ 4000000001 := by omega
  have hs1 : -4000000001 ≤ s := by omega
  have hs2 : s ≤ 4000000001 := by omega
  have a1 := andNot30 n (by omega)
  clear hd hns hn hs
  have hcase : (1000000000 ≤ (n : Int) + r) ∨ (¬ 1000000000 ≤ (n : Int) + r ∧ (n : Int) + r < 0) ∨ (¬ 1000000000 ≤ (n : Int) + r ∧ ¬ (n : Int) + r < 0) := by omega
  rcases hcase with k1 | ⟨k1, k2⟩ | ⟨k1, k2⟩
  · obtain ⟨m, hm⟩ : ∃ m : Nat, (n : Int) + r - 1000000000 = m := ⟨((n : Int) + r - 1000000000).toNat, by omega⟩
    have b1 := or0 m (by omega)
    have b2 := and63 m (by omega)
    have k3 : ¬ (n : Int) + r - 1000000000 < 0 := by omega
    have HR : Hid (tv (ns + d) = .agg #[.int .u64 (m : Int), .int .i64 (s + (q + 1)), .pointer none]) := HTV.out m (s + (q + 1)) (by omega) (by omega) (by rw [HQ.out, HNS.out]; omega)
    go_enter Yba.func4, Yba.ntmps4
    go_wp2_with fail
    refine (nsec_any w.heap.size 0 n _ hnl (by simp)).mono ?_
    rintro e w' ⟨rfl, hw'⟩
    subst hw'
    go_wp2_with fail
    refine (addSec_any w.heap.size 0 m s (q + 1) _ (by omega) (by simp) (by simp) (by simp) (by omega) (by omega) (by omega) (by omega)).mono ?_
    rintro e w' ⟨rfl, hw'⟩
    subst hw'
    go_wp2
    refine bodyPost_ret (results_cell_row rfl _ _ (w.heap.size + 1) 29 _ (0, 0) _ rfl (heap_alloc2_new _ _ _) Yba.underlying29 rfl (by kernel_rfl)) rfl ?_
    exact ⟨by rw [← HR.out]; rfl, ((Below.refl _ w).alloc (Nat.le_refl _) _).alloc (by simp) _⟩
  · obtain ⟨m, hm⟩ : ∃ m : Nat, (n : Int) + r + 1000000000 = m := ⟨((n : Int) + r + 1000000000).toNat, by omega⟩
    have b1 := or0 m (by omega)
    have b2 := and63 m (by omega)
    have HR : Hid (tv (ns + d) = .agg #[.int .u64 (m : Int), .int .i64 (s + (q - 1)), .pointer none]) := HTV.out m (s + (q - 1)) (by omega) (by omega) (by rw [HQ.out, HNS.out]; omega)
    go_enter Yba.func4, Yba.ntmps4
    go_wp2_with fail
    refine (nsec_any w.heap.size 0 n _ hnl (by simp)).mono ?_
    rintro e w' ⟨rfl, hw'⟩
    subst hw'
    go_wp2_with fail
    refine (addSec_any w.heap.size 0 m s (q - 1) _ (by omega) (by simp) (by simp) (by simp) (by omega) (by omega) (by omega) (by omega)).mono ?_
    rintro e w' ⟨rfl, hw'⟩
    subst hw'
    go_wp2
    refine bodyPost_ret (results_cell_row rfl _ _ (w.heap.size + 1) 29 _ (0, 0) _ rfl (heap_alloc2_new _ _ _) Yba.underlying29 rfl (by kernel_rfl)) rfl ?_
    exact ⟨by rw [← HR.out]; rfl, ((Below.refl _ w).alloc (Nat.le_refl _) _).alloc (by simp) _⟩
  · have b1 := or0_int ((n : Int) + r) (by omega) (by omega)
    have b2 := and63_int ((n : Int) + r) (by omega) (by omega)
    have HR : Hid (tv (ns + d) = .agg #[.int .u64 ((n : Int) + r), .int .i64 (s + q), .pointer none]) := HTV.out ((n : Int) + r) (s + q) (by omega) (by omega) (by rw [HQ.out, HNS.out]; omega)
    go_enter Yba.func4, Yba.ntmps4
    go_wp2_with fail
    refine (nsec_any w.heap.size 0 n _ hnl (by simp)).mono ?_
    rintro e w' ⟨rfl, hw'⟩
    subst hw'
    go_wp2_with fail
    refine (addSec_int w.heap.size 0 ((n : Int) + r) s q _ (by omega) (by omega) (by simp) (by simp) (by simp) (by omega) (by omega) (by omega) (by omega)).mono ?_
    rintro e w' ⟨rfl, hw'⟩
    subst hw'
    go_wp2
    refine bodyPost_ret (results_cell_row rfl _ _ (w.heap.size + 1) 29 _ (0, 0) _ rfl (heap_alloc2_new _ _ _) Yba.underlying29 rfl (by kernel_rfl)) rfl ?_
    exact ⟨by rw [← HR.out]; rfl, ((Below.refl _ w).alloc (Nat.le_refl _) _).alloc (by simp) _⟩

/-- A time's two numbers. -/
theorem tv_form (ns : Int) : ∃ (n : Nat) (s : Int), tv ns = .agg #[.int .u64 (n : Int), .int .i64 s, .pointer none] ∧ n < 1000000000 ∧ ns = s * 1000000000 + n :=
  ⟨(ns % 1000000000).toNat, ns / 1000000000, by unfold tv; rw [show ((ns % 1000000000).toNat : Int) = ns % 1000000000 from by omega], by omega, by omega⟩
theorem and_and63 (n m : Nat) (h : n < 1000000000) (h' : m < 1000000000) : bits .and .u64 (bits .and .u64 (n : Int) (m : Int)) 9223372036854775808 = 0 := by
  rw [u64_and_nat n m (by omega) (by omega)]
  exact and63 _ (Nat.lt_of_le_of_lt Nat.and_le_left (by omega))

set_option maxRecDepth 400000 in
set_option maxHeartbeats 400000 in
theorem equal_any (x y : Int) (w : World) (hx1 : -4000000000000000000 ≤ x) (hx2 : x ≤ 4000000000000000000) (hy1 : -4000000000000000000 ≤ y) (hy2 : y ≤ 4000000000000000000) :
    Calls Yba.prog 7 #[tv x, tv y] w fun e w' => e = .returned (.bool (decide (x = y))) ∧ Below w.heap.size w w' := by
  obtain ⟨n, s, ex, hn, hx⟩ := tv_form x
  obtain ⟨m, t, ey, hm, hy⟩ := tv_form y
  rw [ex, ey]
  clear ex ey
  have a0 := and_and63 n m hn hm
  have HX : Hid (x = s * 1000000000 + n) := hx
  have HY : Hid (y = t * 1000000000 + m) := hy
  clear hx hy hx1 hx2 hy1 hy2
  by_cases hst : s = t
  · subst hst
    by_cases hnm : n = m
    · subst hnm
      have HE : Hid (decide (x = y) = true) := decide_eq_true (by rw [HX.out, HY.out])
      go_enter Yba.func7, Yba.ntmps7
      go_wp2_with fail
      refine (sec_any w.heap.size 0 n s _ hn (by simp) (by simp)).mono ?_
      rintro e w' ⟨rfl, hw'⟩
      subst hw'
      go_wp2_with fail
      refine (sec_any (w.heap.size + 1) 0 n s _ hn (by simp) (by simp)).mono ?_
      rintro e w' ⟨rfl, hw'⟩
      subst hw'
      go_wp2_with fail
      refine (nsec_any w.heap.size 0 n _ hn (by simp)).mono ?_
      rintro e w' ⟨rfl, hw'⟩
      subst hw'
      go_wp2_with fail
      refine (nsec_any (w.heap.size + 1) 0 n _ hn (by simp)).mono ?_
      rintro e w' ⟨rfl, hw'⟩
      subst hw'
      go_wp2
      go_ret
      exact ⟨by rw [HE.out]; rfl, ((Below.refl _ w).alloc (Nat.le_refl _) _).alloc (by simp) _⟩
    · have tn : ((n : Int) == (m : Int)) = false := by simp; omega
      have HE : Hid (decide (x = y) = false) := decide_eq_false (by rw [HX.out, HY.out]; omega)
      go_enter Yba.func7, Yba.ntmps7
      go_wp2_with fail
      refine (sec_any w.heap.size 0 n s _ hn (by simp) (by simp)).mono ?_
      rintro e w' ⟨rfl, hw'⟩
      subst hw'
      go_wp2_with fail
      refine (sec_any (w.heap.size + 1) 0 m s _ hm (by simp) (by simp)).mono ?_
      rintro e w' ⟨rfl, hw'⟩
      subst hw'
      go_wp2_with fail
      refine (nsec_any w.heap.size 0 n _ hn (by simp)).mono ?_
      rintro e w' ⟨rfl, hw'⟩
      subst hw'
      go_wp2_with fail
      refine (nsec_any (w.heap.size + 1) 0 m _ hm (by simp)).mono ?_
      rintro e w' ⟨rfl, hw'⟩
      subst hw'
      go_wp2
      go_ret
      exact ⟨by rw [HE.out]; rfl, ((Below.refl _ w).alloc (Nat.le_refl _) _).alloc (by simp) _⟩
  · have ts : (s == t) = false := by simpa using hst
    have HE : Hid (decide (x = y) = false) := decide_eq_false (by rw [HX.out, HY.out]; omega)
    go_enter Yba.func7, Yba.ntmps7
    go_wp2_with fail
    refine (sec_any w.heap.size 0 n s _ hn (by simp) (by simp)).mono ?_
    rintro e w' ⟨rfl, hw'⟩
    subst hw'
    go_wp2_with fail
    refine (sec_any (w.heap.size + 1) 0 m t _ hm (by simp) (by simp)).mono ?_
    rintro e w' ⟨rfl, hw'⟩
    subst hw'
    go_wp2
    go_ret
    exact ⟨by rw [HE.out]; rfl, ((Below.refl _ w).alloc (Nat.le_refl _) _).alloc (by simp) _⟩

set_option maxRecDepth 400000 in
set_option maxHeartbeats 400000 in
theorem before_any (x y : Int) (w : World) :
    Calls Yba.prog 16 #[tv x, tv y] w fun e w' => e = .returned (.bool (decide (x < y))) ∧ Below w.heap.size w w' := by
  obtain ⟨n, s, ex, hn, hx⟩ := tv_form x
  obtain ⟨m, t, ey, hm, hy⟩ := tv_form y
  rw [ex, ey]
  clear ex ey
  have a0 := and_and63 n m hn hm
  have HX : Hid (x = s * 1000000000 + n) := hx
  have HY : Hid (y = t * 1000000000 + m) := hy
  clear hx hy
  by_cases hlt : s < t
  · have HE : Hid (decide (x < y) = true) := decide_eq_true (by rw [HX.out, HY.out]; omega)
    go_enter Yba.func16, Yba.ntmps16
    go_wp2_with fail
    refine (sec_any w.heap.size 0 n s _ hn (by simp) (by simp)).mono ?_
    rintro e w' ⟨rfl, hw'⟩
    subst hw'
    go_wp2_with fail
    refine (sec_any (w.heap.size + 1) 0 m t _ hm (by simp) (by simp)).mono ?_
    rintro e w' ⟨rfl, hw'⟩
    subst hw'
    go_wp2
    go_ret
    exact ⟨by rw [HE.out]; rfl, ((Below.refl _ w).alloc (Nat.le_refl _) _).alloc (by simp) _⟩
  · by_cases hst : s = t
    · subst hst
      by_cases hnm : n < m
      · have tn : (n : Int) < (m : Int) := by omega
        have HE : Hid (decide (x < y) = true) := decide_eq_true (by rw [HX.out, HY.out]; omega)
        go_enter Yba.func16, Yba.ntmps16
        go_wp2_with fail
        refine (sec_any w.heap.size 0 n s _ hn (by simp) (by simp)).mono ?_
        rintro e w' ⟨rfl, hw'⟩
        subst hw'
        go_wp2_with fail
        refine (sec_any (w.heap.size + 1) 0 m s _ hm (by simp) (by simp)).mono ?_
        rintro e w' ⟨rfl, hw'⟩
        subst hw'
        go_wp2_with fail
        refine (nsec_any w.heap.size 0 n _ hn (by simp)).mono ?_
        rintro e w' ⟨rfl, hw'⟩
        subst hw'
        go_wp2_with fail
        refine (nsec_any (w.heap.size + 1) 0 m _ hm (by simp)).mono ?_
        rintro e w' ⟨rfl, hw'⟩
        subst hw'
        go_wp2
        go_ret
        exact ⟨by rw [HE.out]; rfl, ((Below.refl _ w).alloc (Nat.le_refl _) _).alloc (by simp) _⟩
      · have tn : ¬ (n : Int) < (m : Int) := by omega
        have HE : Hid (decide (x < y) = false) := decide_eq_false (by rw [HX.out, HY.out]; omega)
        go_enter Yba.func16, Yba.ntmps16
        go_wp2_with fail
        refine (sec_any w.heap.size 0 n s _ hn (by simp) (by simp)).mono ?_
        rintro e w' ⟨rfl, hw'⟩
        subst hw'
        go_wp2_with fail
        refine (sec_any (w.heap.size + 1) 0 m s _ hm (by simp) (by simp)).mono ?_
        rintro e w' ⟨rfl, hw'⟩
        subst hw'
        go_wp2_with fail
        refine (nsec_any w.heap.size 0 n _ hn (by simp)).mono ?_
        rintro e w' ⟨rfl, hw'⟩
        subst hw'
        go_wp2_with fail
        refine (nsec_any (w.heap.size + 1) 0 m _ hm (by simp)).mono ?_
        rintro e w' ⟨rfl, hw'⟩
        subst hw'
        go_wp2
        go_ret
        exact ⟨by rw [HE.out]; rfl, ((Below.refl _ w).alloc (Nat.le_refl _) _).alloc (by simp) _⟩
    · have tl : decide (s < t) = false := decide_eq_false hlt
      have ts : (s == t) = false := by simpa using hst
      have HE : Hid (decide (x < y) = false) := decide_eq_false (by rw [HX.out, HY.out]; omega)
      go_enter Yba.func16, Yba.ntmps16
      go_wp2_with fail
      refine (sec_any w.heap.size 0 n s _ hn (by simp) (by simp)).mono ?_
      rintro e w' ⟨rfl, hw'⟩
      subst hw'
      go_wp2_with fail
      refine (sec_any (w.heap.size + 1) 0 m t _ hm (by simp) (by simp)).mono ?_
      rintro e w' ⟨rfl, hw'⟩
      subst hw'
      go_wp2
      go_ret
      exact ⟨by rw [HE.out, ← tl]; rfl, ((Below.refl _ w).alloc (Nat.le_refl _) _).alloc (by simp) _⟩
end Go.Proofs.Ybulkctoc.HT
