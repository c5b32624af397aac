/- THE WALK OF 'LawS4756AModel' (3). -/
import Derived.Test.YbulkctlyFmtParse
import Derived.Deep.DeepCutAuto
namespace Go.Proofs.YbulkctlyFmt.FV
open Go.ChangeShapes Go.WideShapes Go.ChangeAt Go.RowKit Go.Proofs.YbulkctlyFmt.FP Go.Extern.Stop Go.Stop Go.Extern
set_option linter.unusedVariables false

/-- 's[n:]', its address a letter. -/
theorem wpList_slice_from {ops : Array Oper} {rest : List Oper} {o : Oper} {a : Act} {Q : Exit → Act → World → Prop} (w : World) (hgd : o.guard = none) (x lo : Operand) (hop : o.op = Op.slice 22 x (some lo) none none)
    (b off len cap n : Nat) (hx : a.eval x = .slice (some ⟨b, off, none⟩) len cap) (hlo : a.eval lo = .int .i64 (n : Int)) (hn : n ≤ len) (hlc : len ≤ cap)
    (h : ∀ ra, (n < cap → ra = some ⟨b, off + n, none⟩) → wpList Ybaf.prog ops Q rest (a.put o.dst (.slice ra (len - n) (cap - n))) w) : wpList Ybaf.prog ops Q (o :: rest) a w := by
  refine wpList_plain hgd fun K hK => ?_
  have hi5 : (Ybaf.prog.info? 5).map (fun i => (i.zero, i.size, i.bytes)) = some (some (.int .u8 0), 1, 1) := by kernel_rfl
  obtain ⟨i0, hi, hz0, hz1, hz2⟩ := info_parts hi5
  have hr : (Instr.sliceAt 22 (.slice (some ⟨b, off, none⟩) len cap) (some (.int .i64 (n : Int))) none none).run Ybaf.prog w = .ok (.slice (if cap = n then some ⟨b, off, none⟩ else (some (⟨b, off, none⟩ : Addr)).map (·.add (n * 1))) (len - n) (cap - n)) w := by
    have e1 : (0 : Int) ≤ (n : Int) := by omega
    have e2 : (n : Int) ≤ (len : Int) := by omega
    simp [Instr.sliceAt, Instr.slice, run_underlying Ybaf.underlying22, Instr.sliceBounds, Instr.sliceBound, asIntOf, hn, sizeOf, typeInfo, hi, hz1]
  unfold Oper.wp execOp
  simp only [hop, hx, hlo, Option.map_some, Option.map_none, hr, Sem.run_bind, Result.andThen_ok, Sem.run_pure]
  refine hK _ _ (h _ fun hlt => ?_)
  rw [if_neg (by omega), Nat.mul_one, add_plain]


theorem neq_err (p : Addr) (w : World) : (binOp .neq 26 (.iface 45 (.pointer (some p))) .nilIface).run Ybaf.prog w = .ok (.bool true) w := run_neq_held_nil _ _ _ _ Ybaf.underlying26
theorem neq_noerr (w : World) : (binOp .neq 26 .nilIface .nilIface).run Ybaf.prog w = .ok (.bool false) w := run_neq_nil_nil _ _ Ybaf.underlying26

theorem dec_none_step {upto : Int} {l : List Nat} {acc : List (Nat × Nat)} (h : dec l = none) : FP.step upto l acc = none := step_none1 (by unfold cut; rw [h])
theorem dec_big_step {upto : Int} {l : List Nat} {acc : List (Nat × Nat)} {f n : Nat} (h : dec l = some (f, n)) (h2 : 4611686018427387904 < f) : FP.step upto l acc = none := step_none1 (by
  unfold cut; rw [h]; simp only
  rw [if_pos (by rw [show (2 : Nat) ^ 62 = 4611686018427387904 from by decide]; exact h2)])
theorem cut_of {l : List Nat} {f n : Nat} (h : dec l = some (f, n)) (h2 : f ≤ 4611686018427387904) : cut l = some (f, n) := by
  unfold cut; rw [h]; simp only
  rw [if_neg (by rw [show (2 : Nat) ^ 62 = 4611686018427387904 from by decide]; omega)]
theorem cut_no {l : List Nat} (h : dec l = none) : cut l = none := by unfold cut; rw [h]
theorem cut_big {l : List Nat} {f n : Nat} (h : dec l = some (f, n)) (h2 : 4611686018427387904 < f) : cut l = none := by
  unfold cut; rw [h]; simp only
  rw [if_pos (by rw [show (2 : Nat) ^ 62 = 4611686018427387904 from by decide]; exact h2)]

set_option maxRecDepth 100000 in
set_option maxHeartbeats 1000000 in
theorem model_any (F : Interp) (a0 : Option Addr) (len0 cap0 : Nat) (l0 : List Nat) (upto : Int) (w : World) (hF : F.answers w.tape) (d0 : Dat w a0 len0 l0) (hc0 : len0 ≤ cap0) (hm0 : cap0 ≤ maxLen)
    (hu1 : -9223372036854775808 ≤ upto) (hu2 : upto ≤ 9223372036854775807) :
    Calls Ybaf.prog 3 #[.slice a0 len0 cap0, .int .i64 upto] w fun e w' => e = .returned (.bool true) ∧ Below w.heap.size w w' := by
  obtain ⟨i0, hi, hz0, hz1, hz2⟩ := info_parts info33
  by_cases hbig : 4096 < len0
  · have t : (4096 : Int) < (len0 : Int) := by omega
    go_enter Ybaf.func3, Ybaf.ntmps3
    go_wp2
    go_ret
    exact ⟨rfl, Below.refl _ _⟩
  have tbig : ¬ (4096 : Int) < (len0 : Int) := by omega
  have hB0 : ∀ b off, a0 = some ⟨b, off, none⟩ → 0 < len0 → b < w.heap.size := fun b off e hp => by
    obtain ⟨b', off', e', hc⟩ := d0.cells hp
    rw [e] at e'; cases e'
    exact block_lt_of_cell (hc 0 hp)
  have HB0 : Hid (∀ b off, a0 = some ⟨b, off, none⟩ → 0 < len0 → b < w.heap.size) := hB0
  have HD0 : Hid (Dat w a0 len0 l0) := d0
  have HF : Hid (F.answers w.tape) := hF
  clear hB0 d0 hF
  obtain ⟨R, hR⟩ : ∃ R, parse upto len0 l0 [] = R := ⟨_, rfl⟩
  have HR : Hid (parse upto len0 l0 [] = R) := hR
  clear hR
  go_enter Ybaf.func3, Ybaf.ntmps3
  go_wp2_with fail
  refine (parse_any F a0 len0 cap0 l0 upto w HF.out HD0.out (by omega) hc0 hm0 hu1 hu2).mono ?_
  rintro e w1 ⟨hres, hb1⟩
  rw [HR.out] at hres
  have HRES : Hid (PRes w.heap.size R e w1) := hres
  have HBW : Hid (Below w.heap.size w w1) := hb1
  clear hres hb1
  obtain ⟨vg, ve, rfl⟩ : ∃ vg ve, e = .returned (.tuple #[vg, ve]) := by
    cases hh : R with
    | none => obtain ⟨p, hp⟩ := HRES.out.no hh; exact ⟨_, _, hp⟩
    | some acc => obtain ⟨v, hv, _⟩ := HRES.out.yes acc hh; exact ⟨_, _, hv⟩
  have HSZ : Hid (w.heap.size ≤ w1.heap.size) := HBW.out.size
  have HD1 : Hid (Dat w1 a0 len0 l0) := HD0.out.below HBW.out HB0.out
  have HB1 : Hid (∀ b off, a0 = some ⟨b, off, none⟩ → 0 < len0 → b < w1.heap.size) := fun b off e hp => Nat.lt_of_lt_of_le (HB0.out b off e hp) HSZ.out
  have HM0 : Hid (cap0 ≤ maxLen) := hm0
  clear hm0 HD0 HB0
  go_wp2
  go_loopg [7, 8, 9] len0 (fun gh sv okv dv wr => ∃ (a : Option Addr) (len cap : Nat) (l : List Nat) (acc : List (Nat × Nat)) (k : Nat), gh = len ∧ okv = .bool true ∧ dv = .slice a len cap ∧ Dat wr a len l ∧ (∀ b off, a = some ⟨b, off, none⟩ → 0 < len → b < w1.heap.size) ∧
      len ≤ cap ∧ cap ≤ maxLen ∧ acc.length * 2 + len ≤ len0 ∧ Got w1.heap.size wr sv acc ∧ Below w1.heap.size w1 wr ∧ len ≤ k ∧ parse upto k l acc = R ∧ (∀ x ∈ acc, x.1 ≤ 4611686018427387904 ∧ x.2 ≤ 4611686018427387904))
  case atStart => exact ⟨a0, len0, cap0, l0, [], len0, rfl, rfl, rfl, HD1.out, HB1.out, hc0, HM0.out, by simp, ⟨World.ownsRow_nil _ _ _ _, fun _ => rfl⟩, Below.refl _ _, Nat.le_refl _, HR.out, by simp⟩
  case round =>
    obtain ⟨a, len, cap, l, acc, k, hg, rfl, rfl, d, hB, hc, hm, hsz, hGot, hbr, hk, hP, hall⟩ := hrel
    obtain ⟨sa, sc, rfl, hsa1, hsa2⟩ := hGot.form
    have HALL : Hid (∀ x ∈ acc, x.1 ≤ 4611686018427387904 ∧ x.2 ≤ 4611686018427387904) := hall
    clear hall
    obtain ⟨N, hN⟩ : ∃ N, acc.length = N := ⟨_, rfl⟩
    rw [hN] at hsz hGot
    rw [hN]
    have HN0 : Hid (acc.length = N) := hN
    clear hN
    have HG : Hid (gk = len) := hg
    have HD : Hid (Dat wr a len l) := d
    have HB : Hid (∀ b off, a = some ⟨b, off, none⟩ → 0 < len → b < w1.heap.size) := hB
    have HGOT : Hid (Got w1.heap.size wr (.slice sa N sc) acc) := hGot
    have HP : Hid (parse upto k l acc = R) := hP
    have HS1 : Hid (acc ≠ [] → ∃ g, sa = some ⟨g, 0, none⟩) := hsa1
    have HS2 : Hid (acc = [] → sa = none) := hsa2
    have HM : Hid (cap ≤ maxLen) := hm
    have HBR : Hid (Below w1.heap.size w1 wr) := hbr
    have hbw : Below w.heap.size w wr := HBW.out.trans (hbr.mono HSZ.out)
    clear hg d hB hGot hP hsa1 hsa2 hm HR HD1 HB1 hbr
    have HNO : Hid (R = none → vg = .slice none 0 0 ∧ ∃ p, ve = .iface 45 (.pointer (some p))) := fun h => by
      obtain ⟨p, hp⟩ := HRES.out.no h
      injection hp with hp
      injection hp with hp
      simp only [Array.mk.injEq, List.cons.injEq, and_true] at hp
      exact ⟨hp.1, p, hp.2⟩
    have hn := fun w => Lib.run_eql_slice_nil (P := Ybaf.prog) w 24 33 none 0 0 0 0 Ybaf.underlying24
    have hne := neq_err
    by_cases hlen : len = 0
    · have t0 : ¬ (0 : Int) < (len : Int) := by omega
      have hRs : R = some acc := by
        have e : l = [] := List.eq_nil_of_length_eq_zero (by rw [HD.out.len_eq]; exact hlen)
        have := HP.out
        rw [e] at this
        cases k <;> exact this.symm
      obtain ⟨vg', hvg, hG1⟩ := HRES.out.yes acc hRs
      injection hvg with hvg
      injection hvg with hvg
      simp only [Array.mk.injEq, List.cons.injEq, and_true] at hvg
      obtain ⟨rfl, rfl⟩ := hvg
      have hnn := neq_noerr
      clear hRs hlen HRES HNO hne
      cases N with
      | zero =>
        have e : acc = [] := List.eq_nil_of_length_eq_zero HN0.out
        have e2 := hG1.nil e
        subst e2
        clear hG1 e
        go_wp2
        go_ret
        exact ⟨rfl, hbw⟩
      | succ m0 =>
        have hne' : acc ≠ [] := fun e => by have := HN0.out; rw [e] at this; simp at this
        obtain ⟨ga, gc, rfl, hga, _⟩ := hG1.form
        obtain ⟨g1, rfl⟩ := hga hne'
        obtain ⟨g2, rfl⟩ := HS1.out hne'
        have hgl : g1 < w1.heap.size := block_lt_of_cell (hG1.cells 0 (by rw [HN0.out]; omega)).1
        have HG1 : Hid (∀ i, i < m0 + 1 → wr.cell? ⟨g1, i * 2, none⟩ = some (.int .i64 ((acc.getD i (0, 0)).1 : Nat)) ∧ wr.cell? ⟨g1, i * 2 + 1, none⟩ = some (.int .i64 ((acc.getD i (0, 0)).2 : Nat))) := fun i hi => by
          have := hG1.cells i (by rw [HN0.out]; exact hi)
          exact ⟨(HBR.out.cell (by exact hgl)).trans this.1, (HBR.out.cell (by exact hgl)).trans this.2⟩
        have HG2 : Hid (∀ i, i < m0 + 1 → wr.cell? ⟨g2, i * 2, none⟩ = some (.int .i64 ((acc.getD i (0, 0)).1 : Nat)) ∧ wr.cell? ⟨g2, i * 2 + 1, none⟩ = some (.int .i64 ((acc.getD i (0, 0)).2 : Nat))) := fun i hi => by
          have h := HGOT.out
          rw [← HN0.out] at h
          exact h.cells i (by rw [HN0.out]; exact hi)
        rw [HN0.out]
        clear hG1 hga hgl hne'
        have z1 : ((m0 : Int) + 1 == 0) = false := by simp; omega
        go_wp2
        go_loopg [14] (m0 + 1) (fun gh iv wx => ∃ i q : Nat, gh = m0 + 1 - i ∧ i ≤ m0 + 1 ∧ iv = .int .i64 i ∧ wx = wr.drewN q)
        case atStart => exact ⟨0, 0, rfl, by omega, rfl, rfl⟩
        case round =>
          obtain ⟨i, q, hg, hil, rfl, rfl⟩ := hrel
          have HGK : Hid (gk = m0 + 1 - i) := hg
          clear hg
          by_cases hi' : i < m0 + 1
          · have ti : (i : Int) < (m0 : Int) + 1 := by omega
            have ti0 : (0 : Int) ≤ (i : Int) := by omega
            obtain ⟨c1, c2⟩ := HG1.out i hi'
            obtain ⟨c3, c4⟩ := HG2.out i hi'
            obtain ⟨x, hx⟩ : ∃ x, (acc.getD i (0, 0)).1 = x := ⟨_, rfl⟩
            obtain ⟨y, hy⟩ : ∃ y, (acc.getD i (0, 0)).2 = y := ⟨_, rfl⟩
            rw [hx] at c1 c3
            rw [hy] at c2 c4
            clear hx hy
            go_wp2
            go_quiet (fail)
            go_wp2
            go_roundg (m0 + 1 - (i + 1))
            case measure => rw [HGK.out]; omega
            case rel => exact ⟨i + 1, _, rfl, by omega, by go_num, rfl⟩
          · have ti : ¬ (i : Int) < (m0 : Int) + 1 := by omega
            go_wp2
            go_ret
            exact ⟨rfl, below_drewN hbw q⟩
    · have t0 : (0 : Int) < (len : Int) := by omega
      obtain ⟨b, off, hab, _⟩ := HD.out.cells (by omega)
      subst hab
      have HRN : Hid (FP.step upto l acc = none → vg = .slice none 0 0 ∧ ∃ p, ve = .iface 45 (.pointer (some p))) := fun hs => HNO.out (by
        have hl := HD.out.len_eq
        have hP := HP.out
        cases k with
        | zero => omega
        | succ k =>
          cases l with
          | nil => simp at hl; omega
          | cons y l => simp only [parse, hs] at hP; exact hP.symm)
      cases hdec : dec l with
      | none =>
        obtain ⟨rfl, p, rfl⟩ := HRN.out (step_none1 (cut_no hdec))
        have HC : Hid (dec l = none) := hdec
        clear hdec
        go_wp2_with fail
        refine (dec_any _ len cap l wr HD.out (by omega)).mono ?_
        rintro e w' ⟨rfl, rfl⟩
        rw [HC.out]
        unfold ret6
        go_wp2
        go_ret
        exact ⟨rfl, hbw⟩
      | some r =>
        obtain ⟨f, n⟩ := r
        have hnb := dec_bound hdec
        rw [HD.out.len_eq] at hnb
        obtain ⟨hn0, hn1⟩ := hnb
        have HC : Hid (dec l = some (f, n)) := hdec
        clear hdec
        by_cases hf : 4611686018427387904 < f
        · obtain ⟨rfl, p, rfl⟩ := HRN.out (step_none1 (cut_big HC.out hf))
          have t1 : (4611686018427387904 : Int) < (f : Int) := by omega
          have t2 : ¬ (n : Int) < 0 := by omega
          go_wp2_with fail
          refine (dec_any _ len cap l wr HD.out (by omega)).mono ?_
          rintro e w' ⟨rfl, rfl⟩
          rw [HC.out]
          unfold ret6
          go_wp2
          go_ret
          exact ⟨rfl, hbw⟩
        have hf62 : f ≤ 4611686018427387904 := by omega
        have t1 : ¬ (4611686018427387904 : Int) < (f : Int) := by omega
        have t2 : ¬ (n : Int) < 0 := by omega
        have HC1 : Hid (cut l = some (f, n)) := cut_of HC.out hf62
        clear hf
        go_wp2_with fail
        refine (dec_any _ len cap l wr HD.out (by omega)).mono ?_
        rintro e w' ⟨rfl, rfl⟩
        rw [HC.out]
        unfold ret6
        go_wp2_with (refine wpList_slice_from _ rfl (.tmp 39) (.tmp 40) rfl b off len cap n rfl rfl hn1 hc ?_)
        intro ra hra
        have HRA : Hid (n < cap → ra = some ⟨b, off + n, none⟩) := hra
        clear hra
        have HD2 : Hid (Dat w' ra (len - n) (l.drop n)) := HD.out.drop n b off rfl hn1 ra (fun hp => HRA.out (by omega))
        cases hdec2 : dec (l.drop n) with
        | none =>
          obtain ⟨rfl, p, rfl⟩ := HRN.out (step_none2 HC1.out (cut_no hdec2))
          have HC2 : Hid (dec (l.drop n) = none) := hdec2
          clear hdec2
          go_wp2_with fail
          refine (dec_any _ (len - n) (cap - n) (l.drop n) w' HD2.out (by omega)).mono ?_
          rintro e w2 ⟨rfl, rfl⟩
          rw [HC2.out]
          unfold ret6
          go_wp2
          go_ret
          exact ⟨rfl, hbw⟩
        | some r2 =>
          obtain ⟨g, m⟩ := r2
          have hmb := dec_bound hdec2
          rw [List.length_drop, HD.out.len_eq] at hmb
          obtain ⟨hm0, hm1⟩ := hmb
          have HC2 : Hid (dec (l.drop n) = some (g, m)) := hdec2
          clear hdec2
          by_cases hg62' : 4611686018427387904 < g
          · obtain ⟨rfl, p, rfl⟩ := HRN.out (step_none2 HC1.out (cut_big HC2.out hg62'))
            have t3 : (4611686018427387904 : Int) < (g : Int) := by omega
            have t4 : ¬ (m : Int) < 0 := by omega
            go_wp2_with fail
            refine (dec_any _ (len - n) (cap - n) (l.drop n) w' HD2.out (by omega)).mono ?_
            rintro e w2 ⟨rfl, rfl⟩
            rw [HC2.out]
            unfold ret6
            go_wp2
            go_ret
            exact ⟨rfl, hbw⟩
          have hg62 : g ≤ 4611686018427387904 := by omega
          have t3 : ¬ (4611686018427387904 : Int) < (g : Int) := by omega
          have t4 : ¬ (m : Int) < 0 := by omega
          have HSB : Hid (FP.step upto l acc = if bad upto acc f g = true then none else some ((l.drop n).drop m, acc ++ [(f, g)])) := step_both HC1.out (cut_of HC2.out hg62)
          clear hg62'
          have hra2 := HRA.out (by omega)
          subst hra2
          go_wp2_with fail
          refine (dec_any _ (len - n) (cap - n) (l.drop n) w' HD2.out (by omega)).mono ?_
          rintro e w2 ⟨rfl, rfl⟩
          rw [HC2.out]
          unfold ret6
          go_wp2_with (refine wpList_slice_from _ rfl (.tmp 53) (.tmp 54) rfl b (off + n) (len - n) (cap - n) m rfl rfl hm1 (by omega) ?_)
          intro ra hra
          have HRA2 : Hid (m < cap - n → ra = some ⟨b, off + n + m, none⟩) := hra
          clear hra
          have HD3 : Hid (Dat w2 ra (len - n - m) ((l.drop n).drop m)) := HD2.out.drop m b (off + n) rfl hm1 ra (fun hp => HRA2.out (by omega))
          have HB3 : Hid (∀ b' off', ra = some ⟨b', off', none⟩ → 0 < len - n - m → b' < w1.heap.size) := fun b' off' e hp => by
            rw [HRA2.out (by omega)] at e
            cases e
            exact HB.out b off rfl (by omega)
          have HMM : Hid (cap - n - m ≤ maxLen) := by have := HM.out; exact Nat.le_trans (by omega) this
          by_cases hbad3 : f < 1 ∨ g < f ∨ upto ≤ (g : Int)
          · have hb : bad upto acc f g = true := by
              unfold bad
              rcases hbad3 with h | h | h
              · simp [h]
              · simp [h]
              · simp [h]
            obtain ⟨rfl, p, rfl⟩ := HRN.out (by rw [HSB.out, if_pos hb])
            clear hb
            have hcase : (f : Int) < 1 ∨ (¬ (f : Int) < 1 ∧ (g : Int) < (f : Int)) ∨ (¬ (f : Int) < 1 ∧ ¬ (g : Int) < (f : Int) ∧ upto ≤ 0) ∨ (¬ (f : Int) < 1 ∧ ¬ (g : Int) < (f : Int) ∧ ¬ upto ≤ 0 ∧ upto ≤ (g : Int)) := by omega
            clear hbad3
            rcases hcase with h1 | ⟨h1, h2⟩ | ⟨h1, h2, h3⟩ | ⟨h1, h2, h3, h4⟩
            · go_wp2
              go_ret
              exact ⟨rfl, hbw⟩
            · go_wp2
              go_ret
              exact ⟨rfl, hbw⟩
            · go_wp2
              go_ret
              exact ⟨rfl, hbw⟩
            · go_wp2
              go_ret
              exact ⟨rfl, hbw⟩
          · have h1 : ¬ (f : Int) < 1 := by omega
            have h2 : ¬ (g : Int) < (f : Int) := by omega
            have h3 : ¬ upto ≤ 0 := by omega
            have h4 : ¬ upto ≤ (g : Int) := by omega
            have hbad0 : bad upto acc f g = (match last? acc with | none => false | some p => decide (f ≤ p + 1)) := by
              have e1 : decide (f < 1) = false := decide_eq_false (by omega)
              have e2 : decide (g < f) = false := decide_eq_false (by omega)
              have e3 : decide (upto ≤ (g : Int)) = false := decide_eq_false (by omega)
              unfold bad
              rw [e1, e2, e3]; rfl
            have HBAD : Hid (bad upto acc f g = (match last? acc with | none => false | some p => decide (f ≤ p + 1))) := hbad0
            clear hbad3 hbad0
            have HRS : Hid (bad upto acc f g = false → ∃ k', len - n - m ≤ k' ∧ parse upto k' ((l.drop n).drop m) (acc ++ [(f, g)]) = R) := fun hb => by
              have hl := HD.out.len_eq
              have hP := HP.out
              have hs := HSB.out
              rw [hb] at hs
              simp only [Bool.false_eq_true, if_false] at hs
              cases k with
              | zero => omega
              | succ k =>
                cases l with
                | nil => simp at hl; omega
                | cons y l =>
                  simp only [parse, hs] at hP
                  exact ⟨k, by omega, hP⟩
            have HOWN : Hid (∀ o, (w2.alloc o).ownsRow w1.heap.size 33 2 (.slice sa N sc) N (spans acc)) := fun o => by
              have := HGOT.out.own
              rw [HN0.out] at this
              exact this.alloc o
            have hws := HBR.out.size
            cases N with
            | zero =>
              have hacc : acc = [] := List.eq_nil_of_length_eq_zero HN0.out
              have HBF : Hid (bad upto acc f g = false) := by
                have := HBAD.out
                rw [hacc] at this ⊢
                exact this
              clear hacc
              go_wp2_with (at_builtin; refine wpList_append_own _ rfl _ _ 23 rfl w1.heap.size 33 i0 _ 2 16 Ybaf.underlying23 hi hz0 hz1 hz2 rfl (by decide) _ 0 (spans acc) rfl (by exact HOWN.out _) ⟨w2.heap.size, 0, none⟩ 1 1 [.int .i64 f, .int .i64 g] rfl rfl (by exact World.news_of_block (cs := #[.int .i64 f, .int .i64 g]) (t := 33) (fr := (0, 0)) (heap_alloc_new _ _)) (by simp [Value.oneCell']) (by unfold maxLen; omega) (by omega) (by simp; omega) ?_)
              intro v' w3 hown' hgrow' _
              have HGN : Hid (Got w1.heap.size w3 v' (acc ++ [(f, g)])) := got_push HN0.out hown'
              have hb1 : Below w1.heap.size w1 w3 := (HBR.out.alloc hws _).grown hgrow' (by simp; omega) (fun k' hk' => ((HOWN.out (.cells #[] 33)).lt k' hk').1)
              have hbw1 : Below w1.heap.size w2 w3 := ((Below.refl _ w2).alloc hws _).grown hgrow' (by simp; omega) (fun k' hk' => ((HOWN.out (.cells #[] 33)).lt k' hk').1)
              have HDD : Hid (Dat w3 ra (len - n - m) ((l.drop n).drop m)) := HD3.out.below hbw1 HB3.out
              clear hown' hgrow' hbw1
              go_wp2
              go_roundg (len - n - m)
              case measure => rw [HG.out]; omega
              case rel =>
                obtain ⟨k', hk', hP'⟩ := HRS.out HBF.out
                exact ⟨ra, len - n - m, cap - n - m, _, acc ++ [(f, g)], k', rfl, rfl, rfl, HDD.out, HB3.out, by omega, HMM.out, by rw [List.length_append, HN0.out]; simp; omega, HGN.out, hb1, hk', hP', fun x hx => by
                  rcases List.mem_append.1 hx with hx | hx
                  · exact HALL.out x hx
                  · simp at hx; subst hx; exact ⟨hf62, hg62⟩⟩
            | succ m0 =>
              obtain ⟨hlast, hmem⟩ := last_of HN0.out
              have hne' : acc ≠ [] := fun e => by have := HN0.out; rw [e] at this; simp at this
              obtain ⟨gs, rfl⟩ := HS1.out hne'
              have hG2 := HGOT.out
              rw [← HN0.out] at hG2
              have hcl := (hG2.cells m0 (by rw [HN0.out]; omega)).2
              have hp62 := (HALL.out _ hmem).2
              obtain ⟨p, hp⟩ : ∃ p, (acc.getD m0 (0, 0)).2 = p := ⟨_, rfl⟩
              rw [hp] at hlast hcl hp62
              have HBD : Hid (bad upto acc f g = decide (f ≤ p + 1)) := by
                have := HBAD.out
                rw [hlast] at this; exact this
              have j1 : (0 : Int) ≤ (m0 : Int) := by omega
              have j2 : (m0 : Int) < (m0 : Int) + 1 := by omega
              clear hG2 hne' hmem hp hlast
              by_cases hfp : f ≤ p + 1
              · have h5 : (f : Int) ≤ (p : Int) + 1 := by omega
                obtain ⟨rfl, p', rfl⟩ := HRN.out (by rw [HSB.out, HBD.out, if_pos (decide_eq_true hfp)])
                go_wp2
                go_ret
                exact ⟨rfl, hbw⟩
              · have h5 : ¬ (f : Int) ≤ (p : Int) + 1 := by omega
                have HBF : Hid (bad upto acc f g = false) := by
                  have := HBD.out
                  rw [decide_eq_false hfp] at this; exact this
                go_wp2_with (at_builtin; refine wpList_append_own _ rfl _ _ 23 rfl w1.heap.size 33 i0 _ 2 16 Ybaf.underlying23 hi hz0 hz1 hz2 rfl (by decide) _ (m0 + 1) (spans acc) rfl (by exact HOWN.out _) ⟨w2.heap.size, 0, none⟩ 1 1 [.int .i64 f, .int .i64 g] rfl rfl (by exact World.news_of_block (cs := #[.int .i64 f, .int .i64 g]) (t := 33) (fr := (0, 0)) (heap_alloc_new _ _)) (by simp [Value.oneCell']) (by unfold maxLen; omega) (by omega) (by simp; omega) ?_)
                intro v' w3 hown' hgrow' _
                have HGN : Hid (Got w1.heap.size w3 v' (acc ++ [(f, g)])) := got_push HN0.out hown'
                have hb1 : Below w1.heap.size w1 w3 := (HBR.out.alloc hws _).grown hgrow' (by simp; omega) (fun k' hk' => ((HOWN.out (.cells #[] 33)).lt k' hk').1)
                have hbw1 : Below w1.heap.size w2 w3 := ((Below.refl _ w2).alloc hws _).grown hgrow' (by simp; omega) (fun k' hk' => ((HOWN.out (.cells #[] 33)).lt k' hk').1)
                have HDD : Hid (Dat w3 ra (len - n - m) ((l.drop n).drop m)) := HD3.out.below hbw1 HB3.out
                clear hown' hgrow' hbw1
                go_wp2
                go_roundg (len - n - m)
                case measure => rw [HG.out]; omega
                case rel =>
                  obtain ⟨k', hk', hP'⟩ := HRS.out HBF.out
                  exact ⟨ra, len - n - m, cap - n - m, _, acc ++ [(f, g)], k', rfl, rfl, rfl, HDD.out, HB3.out, by omega, HMM.out, by rw [List.length_append, HN0.out]; simp; omega, HGN.out, hb1, hk', hP', fun x hx => by
                    rcases List.mem_append.1 hx with hx | hx
                    · exact HALL.out x hx
                    · simp at hx; subst hx; exact ⟨hf62, hg62⟩⟩
end Go.Proofs.YbulkctlyFmt.FV
