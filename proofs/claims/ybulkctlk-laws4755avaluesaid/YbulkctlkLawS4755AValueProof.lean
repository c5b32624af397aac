import Derived.Test.YbulkctlkAFloat
import Derived.Test.YbulkctlkABuild
import Derived.OpenShut
import Derived.ShutString
import Derived.ChangeOld
namespace Go.Proofs.Ybulkctlk.AV
open Go.ChangeShapes Go.WideShapes Go.ChangeAt Go.RowKit Go.Proofs.Ybulkctlk.AF
set_option linter.unusedVariables false

theorem quo_run (z : Int) (z1 : -2147483648 ≤ z) (z2 : z ≤ 2147483647) (w : World) : (binOp .quo 25 (.float .f64 (floatOfInt .f64 z)) (.float .f64 4652007308841189376)).run Yba.prog w = .ok (.float .f64 (qb z)) w :=
  run_float_arith (P := Yba.prog) w .quo 25 .f64 (floatOfInt .f64 z) 4652007308841189376 (qb z) (qb_eq z z1 z2)
theorem sub_run (l f : Int) (h1 : -2147483648 ≤ l) (h2 : l ≤ 2147483647) (h3 : -2147483648 ≤ f) (h4 : f ≤ 2147483647) (w : World) : (binOp .sub 25 (.float .f64 (qb l)) (.float .f64 (qb f))).run Yba.prog w = .ok (.float .f64 (sb l f)) w :=
  run_float_arith (P := Yba.prog) w .sub 25 .f64 (qb l) (qb f) (sb l f) (sb_eq l f h1 h2 h3 h4)
theorem rate_run (n : Nat) (l f : Int) (hn : 0 < n) (hn2 : n ≤ 1024) (h1 : -2147483648 ≤ l) (h2 : l ≤ 2147483647) (h3 : -2147483648 ≤ f) (h4 : f ≤ 2147483647) (hne : l ≠ f) (w : World) : (binOp .quo 25 (.float .f64 (floatOfInt .f64 n)) (.float .f64 (sb l f))).run Yba.prog w = .ok (.float .f64 (rb n l f)) w :=
  run_float_arith (P := Yba.prog) w .quo 25 .f64 (floatOfInt .f64 n) (sb l f) (rb n l f) (rb_spec n l f hn hn2 h1 h2 h3 h4 hne).1

/-- '(*Trace).seconds(i)'. -/
theorem seconds_any (b g n i : Nat) (z : Int) (w : World) (hi : i < n) (hn : n ≤ 1024) (h1 : w.cell? ⟨b, 1, none⟩ = some (.slice (some ⟨g, 0, none⟩) n n)) (h2 : w.cell? ⟨g, i, none⟩ = some (.int .i64 z)) (z1 : -2147483648 ≤ z) (z2 : z ≤ 2147483647) :
    Calls Yba.prog 17 #[.pointer (some ⟨b, 0, none⟩), .int .i64 i] w fun e w' => e = .returned (.float .f64 (qb z)) ∧ w' = w := by
  have hq := quo_run z z1 z2
  go_enter Yba.func17, Yba.ntmps17
  go_wp2
  go_ret
  exact ⟨rfl, rfl⟩

theorem rate_none (b : Nat) (tsk : Option Addr) (w : World) (h0 : w.cell? ⟨b, 0, none⟩ = some (.slice tsk 0 0)) :
    Calls Yba.prog 10 #[.pointer (some ⟨b, 0, none⟩)] w fun e w' => e = .returned (.tuple #[.float .f64 0, .bool false]) ∧ w' = w := by
  go_enter Yba.func10, Yba.ntmps10
  go_wp2
  go_ret2
  exact ⟨rfl, rfl⟩

theorem rate_some (b g n : Nat) (tsk : Option Addr) (l f : Int) (w : World) (hn0 : 0 < n) (hn : n ≤ 1024) (h0 : w.cell? ⟨b, 0, none⟩ = some (.slice tsk n n)) (h1 : w.cell? ⟨b, 1, none⟩ = some (.slice (some ⟨g, 0, none⟩) n n))
    (hf : w.cell? ⟨g, 0, none⟩ = some (.int .i64 f)) (hl : w.cell? ⟨g, n - 1, none⟩ = some (.int .i64 l)) (l1 : -2147483648 ≤ l) (l2 : l ≤ 2147483647) (f1 : -2147483648 ≤ f) (f2 : f ≤ 2147483647) :
    Calls Yba.prog 10 #[.pointer (some ⟨b, 0, none⟩)] w fun e w' => e = .returned (.tuple (if l = f then #[.float .f64 0, .bool false] else #[.float .f64 (rb n l f), .bool true])) ∧ w' = w := by
  have hs := sub_run l f l1 l2 f1 f2
  have hnz : ((n : Int) == 0) = false := by simp; omega
  go_enter Yba.func10, Yba.ntmps10
  go_wp2_with fail
  rw [show ((n : Int) - 1) = ((n - 1 : Nat) : Int) from by omega]
  refine (seconds_any b g n (n - 1) l _ (by omega) hn h1 hl l1 l2).mono ?_
  rintro e w' ⟨rfl, rfl⟩
  go_wp2_with fail
  refine (seconds_any b g n 0 f _ (by omega) hn h1 hf f1 f2).mono ?_
  rintro e w' ⟨rfl, rfl⟩
  by_cases hlf : l = f
  · subst hlf
    have e0 := (sb_same l l1 l2).2
    rw [e0] at hs
    have o0 : (FloatKind.f64.format.order 0 0 == some .eq) = true := by decide
    go_wp2
    go_ret2
    simp
  · have e0 : (FloatKind.f64.format.order (sb l f) 0 == some .eq) = false := sb_ne l f l1 l2 f1 f2 hlf
    have hr := rate_run n l f hn0 hn l1 l2 f1 f2 hlf
    go_wp2
    go_ret2
    simp

theorem own : ownKnob Yba.prog.godebug = none := by kernel_rfl
theorem laidOut : laidOutB Yba.prog = true := by kernel_rfl

theorem bounds32 {zs : List Int} (h : ∀ n ∈ zs, (Lit.int .i32 n).wf = true) (i : Nat) (hi : i < zs.length) : -2147483648 ≤ zs.getD i 0 ∧ zs.getD i 0 ≤ 2147483647 := by
  have hw : (Lit.int .i32 (zs.getD i 0)).wf = true := by
    apply h
    rw [List.getD_eq_getElem?_getD, List.getElem?_eq_getElem hi]
    exact List.getElem_mem _
  simpa [Lit.wf, IntKind.min, IntKind.max, IntKind.bits, IntKind.signed] using hw

set_option maxHeartbeats 400000 in
theorem walk (a0 : Option Addr) (len0 cap0 : Nat) (z0 : List Int) (w : World) (w0 : IsRow .i32 w a0 len0 cap0 z0) :
    Calls Yba.prog 3 #[.slice a0 len0 cap0] w fun e w' => e = .returned (.bool true) ∧ Below w.heap.size w w' := by
  by_cases hbig : 1024 < len0
  · go_enter Yba.func3, Yba.ntmps3
    go_wp2
    go_ret
    exact ⟨rfl, Below.refl _ _⟩
  have hlen : len0 ≤ 1024 := by omega
  by_cases hz : len0 = 0
  · subst hz
    have o0 : (FloatKind.f64.format.order 0 0 == some .eq) = true := by decide
    go_enter Yba.func3, Yba.ntmps3
    go_wp2_with fail
    refine (build_any a0 0 cap0 z0 _ w0 hlen).mono ?_
    rintro e w1 ⟨g, b, tsk, rfl, c0, c1, cs, hb⟩
    go_wp2_with fail
    refine (rate_none b tsk _ c0).mono ?_
    rintro e w2 ⟨rfl, rfl⟩
    go_wp2
    go_ret
    exact ⟨rfl, hb⟩
  obtain ⟨b0, off, rfl, hbB, hzl, hc, hwf⟩ := isRow_open w0 (by omega)
  obtain ⟨f1, f2⟩ := bounds32 hwf 0 (by omega)
  obtain ⟨l1, l2⟩ := bounds32 hwf (len0 - 1) (by omega)
  have hnz : ((len0 : Int) == 0) = false := by simp; omega
  have hcf := hc 0 (by omega)
  have hcl := hc (len0 - 1) (by omega)
  obtain ⟨f, hf⟩ : ∃ f, z0.getD 0 0 = f := ⟨_, rfl⟩
  obtain ⟨l, hl⟩ : ∃ l, z0.getD (len0 - 1) 0 = l := ⟨_, rfl⟩
  rw [hf] at f1 f2 hcf
  rw [hl] at l1 l2 hcl
  go_enter Yba.func3, Yba.ntmps3
  go_wp2_with fail
  refine (build_any _ len0 cap0 z0 _ w0 hlen).mono ?_
  rintro e w1 ⟨g, b, tsk, rfl, c0, c1, cs, hb⟩
  have cf := cs 0 (by omega)
  have cl := cs (len0 - 1) (by omega)
  rw [hf] at cf
  rw [hl] at cl
  go_wp2_with fail
  refine (rate_some b g len0 tsk l f _ (by omega) hlen c0 c1 cf cl l1 l2 f1 f2).mono ?_
  rintro e w2 ⟨rfl, rfl⟩
  have hcf' : w2.cell? ⟨b0, off, none⟩ = some (.int .i32 f) := (hb.cell (by exact hbB)).trans hcf
  have hcl' : w2.cell? ⟨b0, off + (len0 - 1), none⟩ = some (.int .i32 l) := (hb.cell (by exact hbB)).trans hcl
  clear hf hl hc cs hcf hcl c0 c1 cf cl
  by_cases hlf : l = f
  · subst hlf
    rw [if_pos rfl]
    have o0 : (FloatKind.f64.format.order 0 0 == some .eq) = true := by decide
    go_wp2
    go_ret
    exact ⟨rfl, hb⟩
  · rw [if_neg hlf]
    obtain ⟨hd, ho, hz'⟩ := rb_spec len0 l f (by omega) hlen l1 l2 f1 f2 hlf
    have hr := rate_run len0 l f (by omega) hlen l1 l2 f1 f2 hlf
    have hql := quo_run l l1 l2
    have hqf := quo_run f f1 f2
    have hs := sub_run l f l1 l2 f1 f2
    have hfl : (f == l) = false := by simp; omega
    have ho' : (FloatKind.f64.format.order (rb len0 l f) (rb len0 l f) != some .eq) = false := by
      show (Ieee.double.order _ _ != _) = _
      rw [ho]; rfl
    clear hd ho
    by_cases hlt : l < f
    · rw [if_pos hlt] at hz'
      have hz2 : (FloatKind.f64.format.order (rb len0 l f) 0 == some .lt) = true := by
        show (Ieee.double.order _ _ == _) = _
        rw [hz']; rfl
      clear hz'
      go_wp2
      go_ret
      exact ⟨rfl, hb⟩
    · rw [if_neg hlt] at hz'
      have hz2 : (FloatKind.f64.format.order (rb len0 l f) 0 == some .gt) = true := by
        show (Ieee.double.order _ _ == _) = _
        rw [hz']; rfl
      clear hz'
      have hlt' : f < l := by omega
      go_wp2
      go_ret
      exact ⟨rfl, hb⟩

/-! ### THE ROW's STEP: WRITTEN OUT: LEAVE IT -/
set_option maxRecDepth 100000 in
theorem lifted (os : Os) (started : os.Started) (H : Type) (enc : TypeId × Value → H) :
    ReturnsInHanded {} Yba.checked os 3 .any (Rows.lawS4755AValueSpec.pre6 enc Yba.prog Yba.f3 Rows.lawS4755AValueRow.domain false) (Rows.lawS4755AValueSpec.post enc Yba.prog Yba.f3 false true false false) := by
  refine returnsInHanded_of_change (C := Yba.checked) own started (by kernel_rfl) Yba.func3
    (ChangeSpec.witness6 (enc := enc) (C := Yba.checked) false ⟨#[], #[.slice none 0 0], []⟩ 8 (by kernel_rfl) (by kernel_rfl) (by kernel_rfl) (by kernel_rfl)) ?_
  intro W base args ds gs before hval0 hW hcnd _
  have hval : ∀ (j : Nat) t v, Yba.f3.params[j]? = some t → args[j]? = some v → Value.okWide Yba.prog W .any base t v := hval0
  have hW' := hW
  obtain ⟨p, q, hA0, hV, rfl, hfz, hnd⟩ := hW
  have hA : DataW.TrodAll enc Yba.prog W 0 (fun _ => true) true Yba.f3.params.toList args.toList ds p := hA0
  rw [Yba.params3] at hA hval
  obtain ⟨v0, vs0, d0, ds0, p0, q0, hargs, rfl, rfl, h0, r0⟩ := trodAll_cons hA
  obtain ⟨rfl, rfl, rfl⟩ := trodAll_nil r0
  obtain rfl : args = #[v0] := by cases args; simp_all
  obtain ⟨rfl, rfl⟩ := trodVars_none hV
  obtain ⟨a0, len0, cap0, rfl⟩ := okWide_slice Yba.underlying22 (hval 0 22 v0 rfl rfl)
  have k0 := h0
  have lt0 : ∀ x ∈ p0, x.block < W.heap.size := by obtain ⟨m, hm⟩ := k0; exact DataW.trod_lt m _ _ _ hm
  obtain ⟨z0, w0⟩ : ∃ zs, IsRow .i32 W a0 len0 cap0 zs := by
    obtain ⟨fuel, hf⟩ := h0
    rcases open_ints Yba.underlying22 Yba.underlying21 (by kernel_rfl) hf with ⟨hcs, _⟩ | ⟨x, l, c, zs, hcs, _, hl, hm, hz, _, hcell, hwz⟩
    · simp [Value.cells] at hcs
      obtain ⟨rfl, rfl, rfl⟩ := hcs
      exact ⟨[], .inl ⟨rfl, rfl, rfl, rfl⟩⟩
    · simp [Value.cells] at hcs
      obtain ⟨rfl, rfl, rfl⟩ := hcs
      exact ⟨zs, .inr ⟨_, rfl, hl, hm, by simpa using hz, hcell, hwz⟩⟩
  clear hA0 hval0
  refine (walk a0 len0 cap0 z0 W w0).mono fun e W' ⟨he, bel⟩ => ?_
  subst he
  exact ⟨_, rfl, _, _, _, [], _, [], hW', trodAll_mk1 (shut_bool Yba.underlying4 _), (trodAll_cons_mk (Below.trod laidOut (by kernel_rfl) (of_decide_eq_true (by kernel_rfl)) k0 bel lt0) trodAll_mk0), rfl, bel.frame _, fun h => by cases h⟩

theorem over : Rows.lawS4755AValueRow.holds Yba.pinned (OpenSpec.ofChange Rows.lawS4755AValueSpec) :=
  OpenClaim.holds_of_wide 3 Yba.f3 rfl rfl rfl rfl rfl rfl rfl ⟨rfl, rfl, rfl, rfl, rfl⟩ rfl rfl rfl rfl rfl (by kernel_rfl) Yba.func3 (by kernel_rfl)
    (of_decide_eq_true (by kernel_rfl)) (by unfold Func.isWrapper; first | (rw [if_pos (by decide +kernel)]; kernel_rfl) | (rw [if_neg (by decide +kernel)]; exact ⟨rfl, rfl⟩))
    (fun os started H enc _ => lifted os started H enc)

end Go.Proofs.Ybulkctlk.AV
namespace Go.Proofs.Ybulkctlk
/-- THE STATEMENT -/
theorem lawS4755AValue_proved : Rows.LawS4755AValueSaid := AV.over
end Go.Proofs.Ybulkctlk
