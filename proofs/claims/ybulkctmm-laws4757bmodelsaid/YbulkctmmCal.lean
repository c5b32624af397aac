/- THE CONTRACTS OF 'Weekday' (10), 'weekend' (9), 'IsSession' (8), 'SessionOnOrAfter' (7), 'zzs4757bweekend' (6). -/
import Derived.Test.YbulkctmmRows
import Derived.Test.YbulkctmmPlain
import Derived.WalkKit
import Derived.ProofKit
import Derived.WalkLawsBesides
import Derived.WalkSpells
import Derived.Below
import Derived.OpenShut
import Derived.OwnWalk
import Derived.Deep.LoopGhost
import Derived.Deep.QuietTactic
import Derived.BigQuiet
import Derived.Deep.AppendLies
namespace Go.Proofs.Ybulkctmm.MW
open Go.ChangeShapes Go.WideShapes Go.ChangeAt Go.RowKit Go.Proofs.Ybulkctmm.MP
set_option linter.unusedVariables false

theorem tmod_bound (d : Int) : -7 < d.tmod 7 ∧ d.tmod 7 < 7 := by
  rw [tmod7]; split <;> omega

theorem wk_t {d : Int} (h : d.tmod 7 = 0 ∨ d.tmod 7 = 6) : wk d = true := by
  unfold wk
  rcases h with h | h <;> rw [h] <;> rfl
theorem wk_f {d : Int} (h0 : ¬ d.tmod 7 = 0) (h6 : ¬ d.tmod 7 = 6) : wk d = false := by
  unfold wk
  rw [decide_eq_false h0, decide_eq_false h6]; rfl

set_option maxRecDepth 100000 in
set_option maxHeartbeats 400000 in
theorem wk6_any (d : Int) (w : World) (h1 : -2147483648 ≤ d) (h2 : d ≤ 2147483647) :
    Calls Yba.prog 6 #[.int .i32 d] w fun e w' => e = .returned (.bool (wk d)) ∧ w' = w := by
  have hb := tmod_bound d
  by_cases e0 : d.tmod 7 = 0
  · have HW : Hid (wk d = true) := wk_t (.inl e0)
    go_enter Yba.func6, Yba.ntmps6
    go_wp2
    go_ret
    exact ⟨by rw [HW.out]; rfl, rfl⟩
  · by_cases e6 : d.tmod 7 = 6
    · have HW : Hid (wk d = true) := wk_t (.inr e6)
      go_enter Yba.func6, Yba.ntmps6
      go_wp2
      go_ret
      exact ⟨by rw [HW.out]; rfl, rfl⟩
    · have HW : Hid (wk d = false) := wk_f e0 e6
      have t0 : (d.tmod 7 == 0) = false := by simpa using e0
      have t6 : (d.tmod 7 == 6) = false := by simpa using e6
      obtain ⟨hb1, hb2⟩ := hb
      clear e0 e6
      go_enter Yba.func6, Yba.ntmps6
      go_wp2
      go_ret
      exact ⟨by rw [HW.out]; rfl, rfl⟩

set_option maxRecDepth 100000 in
set_option maxHeartbeats 400000 in
theorem day_any (d : Int) (w : World) (h1 : -2147483648 ≤ d) (h2 : d ≤ 2147483647) :
    Calls Yba.prog 10 #[.int .i32 d] w fun e w' => e = .returned (.int .i64 (d.tmod 7)) ∧ w' = w := by
  obtain ⟨hb1, hb2⟩ := tmod_bound d
  go_enter Yba.func10, Yba.ntmps10
  go_wp2
  go_ret
  exact ⟨rfl, rfl⟩

set_option maxRecDepth 100000 in
set_option maxHeartbeats 400000 in
theorem wk9_any (d : Int) (w : World) (h1 : -2147483648 ≤ d) (h2 : d ≤ 2147483647) :
    Calls Yba.prog 9 #[.int .i32 d] w fun e w' => e = .returned (.bool (wk d)) ∧ w' = w := by
  obtain ⟨r, hr⟩ : ∃ r, d.tmod 7 = r := ⟨_, rfl⟩
  have HR : Hid (d.tmod 7 = r) := hr
  clear hr
  go_enter Yba.func9, Yba.ntmps9
  go_wp2_with fail
  refine (day_any d w h1 h2).mono ?_
  rintro e w' ⟨rfl, rfl⟩
  rw [HR.out]
  by_cases e6 : r = 6
  · subst e6
    have HW : Hid (wk d = true) := wk_t (.inr HR.out)
    go_wp2
    go_ret
    exact ⟨by rw [HW.out]; rfl, rfl⟩
  · have t6 : (r == 6) = false := by simpa using e6
    by_cases e0 : r = 0
    · subst e0
      have HW : Hid (wk d = true) := wk_t (.inl HR.out)
      go_wp2
      go_ret
      exact ⟨by rw [HW.out]; rfl, rfl⟩
    · have t0 : (r == 0) = false := by simpa using e0
      have HW : Hid (wk d = false) := wk_f (by rw [HR.out]; exact e0) (by rw [HR.out]; exact e6)
      go_wp2
      go_ret
      exact ⟨by rw [HW.out]; rfl, rfl⟩

/-- The zero calendar. -/
structure Cal (w : World) (c : Nat) : Prop where
  first : w.cell? ⟨c, 0, none⟩ = some (.int .i32 0)
  closed : w.cell? ⟨c, 1, none⟩ = some (.slice none 0 0)

set_option maxRecDepth 100000 in
set_option maxHeartbeats 400000 in
theorem sess_any (c : Nat) (d : Int) (w : World) (hC : Cal w c) (h1 : -2147483648 ≤ d) (h2 : d ≤ 2147483647) :
    Calls Yba.prog 8 #[.pointer (some ⟨c, 0, none⟩), .int .i32 d] w fun e w' => e = .returned (.bool (!wk d)) ∧ w' = w := by
  obtain ⟨c0, c1⟩ := hC
  go_enter Yba.func8, Yba.ntmps8
  go_wp2_with fail
  refine (wk9_any d w h1 h2).mono ?_
  rintro e w' ⟨rfl, rfl⟩
  cases hk : wk d with
  | true =>
    have HW : Hid (wk d = true) := hk
    clear hk
    go_wp2
    go_ret
    exact ⟨by rw [HW.out]; rfl, rfl⟩
  | false =>
    have HW : Hid (wk d = false) := hk
    clear hk
    by_cases hd : d < 0
    · go_wp2
      go_ret
      exact ⟨by rw [HW.out]; rfl, rfl⟩
    · have t1 : (0 : Int) ≤ d := by omega
      go_wp2
      go_ret
      exact ⟨by rw [HW.out]; rfl, rfl⟩

/-- The first session on or after d. -/
structure Next (d r : Int) : Prop where
  le : d ≤ r
  lt : r ≤ d + 2
  no : wk r = false
  rest : ∀ ds to, rest ds d to = rest ds r to

set_option maxRecDepth 100000 in
set_option maxHeartbeats 400000 in
theorem next_any (c : Nat) (d : Int) (w : World) (hC : Cal w c) (h1 : -2000000000 ≤ d) (h2 : d ≤ 2000000000) :
    Calls Yba.prog 7 #[.pointer (some ⟨c, 0, none⟩), .int .i32 d] w fun e w' => ∃ r, e = .returned (.int .i32 r) ∧ Next d r ∧ w' = w := by
  have HC : Hid (Cal w c) := hC
  clear hC
  go_enter Yba.func7, Yba.ntmps7
  go_wp2
  go_loopg [1] 3 (fun gh v wr => ∃ (k : Nat) (x : Int), gh = 3 - k ∧ k ≤ 2 ∧ x = d + k ∧ v = .int .i32 x ∧ wr = w ∧ (∀ j : Nat, j < k → wk (d + j) = true) ∧ (∀ ds to, rest ds d to = rest ds x to))
  case atStart => exact ⟨0, d, rfl, by omega, by simp, rfl, rfl, fun j hj => by omega, fun _ _ => rfl⟩
  case round =>
    obtain ⟨k, x, hg, hk, hx, rfl, rfl, hall, hrest⟩ := hrel
    have HG : Hid (gk = 3 - k) := hg
    have HX : Hid (x = d + k) := hx
    have HALL : Hid (∀ j : Nat, j < k → wk (d + j) = true) := hall
    have HREST : Hid (∀ ds to, rest ds d to = rest ds x to) := hrest
    have hb1 : d ≤ x := by omega
    have hb2 : x ≤ d + 2 := by omega
    clear hg hx hall hrest
    cases hwk : wk x with
    | false =>
      have HW : Hid (wk x = false) := hwk
      clear hwk
      go_wp2_with fail
      refine (sess_any c x _ HC.out (by omega) (by omega)).mono ?_
      rintro e w' ⟨rfl, rfl⟩
      rw [HW.out]
      go_wp2
      go_ret
      exact ⟨x, rfl, ⟨hb1, hb2, HW.out, HREST.out⟩, rfl⟩
    | true =>
      have HW : Hid (wk x = true) := hwk
      clear hwk
      have hk2 : k < 2 := by
        rcases Nat.lt_or_ge k 2 with h | h
        · exact h
        · have e : k = 2 := by omega
          have e0 := HALL.out 0 (by omega)
          have e1 := HALL.out 1 (by omega)
          have e2 := HW.out
          rw [HX.out, e] at e2
          have := wk_three d (by simpa using e0) (by simpa using e1)
          rw [show d + 1 + 1 = d + ((2 : Nat) : Int) from by omega, e2] at this
          cases this
      go_wp2_with fail
      refine (sess_any c x _ HC.out (by omega) (by omega)).mono ?_
      rintro e w' ⟨rfl, rfl⟩
      rw [HW.out]
      go_wp2
      go_roundg (3 - (k + 1))
      case measure => rw [HG.out]; omega
      case rel =>
        refine ⟨k + 1, x + 1, rfl, by omega, by rw [HX.out]; omega, by go_num, rfl, fun j hj => ?_, fun ds to => by rw [HREST.out, rest_out (.inl HW.out)]⟩
        rcases Nat.lt_or_ge j k with h | h
        · exact HALL.out j h
        · rw [show j = k from by omega, ← HX.out]; exact HW.out
end Go.Proofs.Ybulkctmm.MW
