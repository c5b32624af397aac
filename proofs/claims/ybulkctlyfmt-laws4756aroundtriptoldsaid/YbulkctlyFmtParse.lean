/- THE CONTRACT OF 'parseSegments' (5). -/
import Derived.Test.YbulkctlyFmtErrorf
import Derived.Deep.AppendLies
namespace Go.Proofs.YbulkctlyFmt.FV
open Go.ChangeShapes Go.WideShapes Go.ChangeAt Go.RowKit Go.Proofs.YbulkctlyFmt.FP Go.Extern.Stop Go.Stop Go.Extern
set_option linter.unusedVariables false

theorem info33 : (Ybaf.prog.info? 33).map (fun i => (i.zero, i.size, i.bytes)) = some (some (.agg #[.int .i64 0, .int .i64 0]), 2, 16) := by kernel_rfl

/-! ### The step, by cuts -/
theorem cut_dec {l : List Nat} {f n : Nat} (h : cut l = some (f, n)) : dec l = some (f, n) ∧ ¬ 2 ^ 62 < f := by
  unfold cut at h
  cases hd : dec l with
  | none => rw [hd] at h; cases h
  | some r =>
    rw [hd] at h
    simp only at h
    by_cases h2 : 2 ^ 62 < r.1
    · rw [if_pos h2] at h; cases h
    · rw [if_neg h2] at h; cases h; exact ⟨rfl, h2⟩
theorem cut_bad {l : List Nat} (h : cut l = none) : dec l = none ∨ ∃ r, dec l = some r ∧ 2 ^ 62 < r.1 := by
  unfold cut at h
  cases hd : dec l with
  | none => exact .inl rfl
  | some r =>
    rw [hd] at h
    simp only at h
    by_cases h2 : 2 ^ 62 < r.1
    · exact .inr ⟨r, rfl, h2⟩
    · rw [if_neg h2] at h; cases h
theorem step_none1 {upto : Int} {l : List Nat} {acc : List (Nat × Nat)} (h : cut l = none) : FP.step upto l acc = none := by
  unfold FP.step
  rcases cut_bad h with hd | ⟨⟨f, n⟩, hd, h2⟩
  · rw [hd]
  · rw [hd]; simp only; rw [if_pos h2]
theorem step_none2 {upto : Int} {l : List Nat} {acc : List (Nat × Nat)} {f n : Nat} (h : cut l = some (f, n)) (h2 : cut (l.drop n) = none) : FP.step upto l acc = none := by
  obtain ⟨hd, hf⟩ := cut_dec h
  unfold FP.step
  rw [hd]; simp only; rw [if_neg hf]
  rcases cut_bad h2 with hd2 | ⟨⟨g, m⟩, hd2, h3⟩
  · rw [hd2]
  · rw [hd2]; simp only; rw [if_pos h3]
theorem step_both {upto : Int} {l : List Nat} {acc : List (Nat × Nat)} {f n g m : Nat} (h : cut l = some (f, n)) (h2 : cut (l.drop n) = some (g, m)) : FP.step upto l acc = if bad upto acc f g = true then none else some ((l.drop n).drop m, acc ++ [(f, g)]) := by
  obtain ⟨hd, hf⟩ := cut_dec h
  obtain ⟨hd2, hg⟩ := cut_dec h2
  unfold FP.step
  rw [hd]; simp only; rw [if_neg hf, hd2]; simp only; rw [if_neg hg]

/-- The spans, as cells. -/
def spans (acc : List (Nat × Nat)) : List Value := acc.flatMap fun p => [.int .i64 p.1, .int .i64 p.2]
theorem spans_snoc (acc : List (Nat × Nat)) (f g : Nat) : spans (acc ++ [(f, g)]) = spans acc ++ [.int .i64 f, .int .i64 g] := by simp [spans]
theorem spans_len (acc : List (Nat × Nat)) : (spans acc).length = acc.length * 2 := by
  induction acc with
  | nil => rfl
  | cons p l ih => simp [spans] at ih ⊢; omega
theorem spans_get (acc : List (Nat × Nat)) (i : Nat) (h : i < acc.length) : (spans acc)[i * 2]? = some (.int .i64 ((acc.getD i (0, 0)).1 : Nat)) ∧ (spans acc)[i * 2 + 1]? = some (.int .i64 ((acc.getD i (0, 0)).2 : Nat)) := by
  induction acc generalizing i with
  | nil => simp at h
  | cons p l ih =>
    cases i with
    | zero => simp [spans]
    | succ i =>
      have := ih i (by simpa using h)
      have e : spans (p :: l) = .int .i64 p.1 :: .int .i64 p.2 :: spans l := rfl
      rw [e, show (i + 1) * 2 = i * 2 + 1 + 1 from by omega]
      simpa using this

/-- What is gathered so far: a slice of the call's own. -/
structure Got (base : Nat) (w : World) (v : Value) (acc : List (Nat × Nat)) : Prop where
  own : w.ownsRow base 33 2 v acc.length (spans acc)
  nil : acc = [] → v = .slice none 0 0

theorem Got.form {base : Nat} {w : World} {v : Value} {acc : List (Nat × Nat)} (h : Got base w v acc) : ∃ sa sc, v = .slice sa acc.length sc ∧ (acc ≠ [] → ∃ g, sa = some ⟨g, 0, none⟩) ∧ (acc = [] → sa = none) := by
  by_cases e : acc = []
  · refine ⟨none, 0, by rw [h.nil e, e]; rfl, fun h' => absurd e h', fun _ => rfl⟩
  · obtain ⟨g, cap, hv, _⟩ := h.own.form (by cases acc; exact absurd rfl e; simp)
    exact ⟨_, cap, hv, fun _ => ⟨g, rfl⟩, fun h' => absurd h' e⟩

theorem Got.cells {base : Nat} {w : World} {g cap : Nat} {acc : List (Nat × Nat)} (h : Got base w (.slice (some ⟨g, 0, none⟩) acc.length cap) acc) (i : Nat) (hi : i < acc.length) :
    w.cell? ⟨g, i * 2, none⟩ = some (.int .i64 ((acc.getD i (0, 0)).1 : Nat)) ∧ w.cell? ⟨g, i * 2 + 1, none⟩ = some (.int .i64 ((acc.getD i (0, 0)).2 : Nat)) := by
  have := spans_get acc i hi
  rw [h.own.cellAt (i * 2) (by omega), h.own.cellAt (i * 2 + 1) (by omega)]
  exact this

theorem Dat.below {w w' : World} {a : Option Addr} {len base : Nat} {l : List Nat} (d : Dat w a len l) (hb : Below base w w') (hblk : ∀ b off, a = some ⟨b, off, none⟩ → 0 < len → b < base) : Dat w' a len l := by
  refine ⟨d.len_eq, d.byte, fun hp => ?_⟩
  obtain ⟨b, off, ha, hc⟩ := d.cells hp
  exact ⟨b, off, ha, fun i hi => (hb.cell (by exact hblk b off ha hp)).trans (hc i hi)⟩
theorem Dat.drew {w : World} {a : Option Addr} {len q : Nat} {l : List Nat} (d : Dat w a len l) : Dat (w.drewN q) a len l := ⟨d.len_eq, d.byte, d.cells⟩

/-- The list as the operand's numbers. -/
theorem Dat.src {w : World} {b off len : Nat} {l : List Nat} (d : Dat w (some ⟨b, off, none⟩) len l) (hp : 0 < len) : ∀ j v, ((l.map fun (n : Nat) => (n : Int)).map (Value.int .u8))[j]? = some v → w.cell? ((⟨b, off, none⟩ : Addr).add j) = some v := by
  intro j v hj
  have hl := d.len_eq
  obtain ⟨b', off', e, hc⟩ := d.cells hp
  cases e
  have hjl : j < l.length := by
    rcases Nat.lt_or_ge j l.length with h | h
    · exact h
    · rw [List.getElem?_eq_none (by simpa using h)] at hj; cases hj
  rw [add_plain, hc j (by omega), ← hj]
  simp [List.getElem?_eq_getElem hjl, List.getD_eq_getElem?_getD]

theorem err_path (F : Interp) (W : World) (b off len cap : Nat) (l : List Nat) (upto : Int) (hF : F.answers W.tape) (d : Dat W (some ⟨b, off, none⟩) len l) (hp : 0 < len) :
    Calls Ybaf.prog 9 #[.string ⟨#[110, 111, 116, 32, 97, 32, 115, 101, 116, 32, 111, 102, 32, 115, 101, 103, 109, 101, 110, 116, 115, 32, 98, 101, 102, 111, 114, 101, 32, 115, 101, 103, 109, 101, 110, 116, 32, 37, 100, 58, 32, 37, 120]⟩, .slice (some ⟨W.heap.size, 0, none⟩) 2 2]
      (W.alloc (.cells #[.iface 3 (.int .i64 upto), .iface 22 (.slice (some ⟨b, off, none⟩) len cap)] 20)) fun e w' => (∃ p, e = .returned (.iface 45 (.pointer (some p)))) ∧ Below W.heap.size W w' := by
  have hl : (l.map fun (n : Nat) => (n : Int)).length = len := by rw [List.length_map]; exact d.len_eq
  obtain ⟨b', off', e, hc⟩ := d.cells hp
  cases e
  have hbl : b < W.heap.size := block_lt_of_cell (hc 0 hp)
  have hb1 : Below W.heap.size W (W.alloc (.cells #[.iface 3 (.int .i64 upto), .iface 22 (.slice (some ⟨b, off, none⟩) len cap)] 20)) := (Below.refl _ _).alloc (Nat.le_refl _) _
  have d1 := d.below hb1 (fun b' off' e _ => by cases e; exact hbl)
  refine (errorf_any F W.heap.size upto ⟨b, off, none⟩ cap (l.map fun (n : Nat) => (n : Int)) (W.alloc (.cells #[.iface 3 (.int .i64 upto), .iface 22 (.slice (some ⟨b, off, none⟩) len cap)] 20)) hF (by simp) (by rw [hl]; simp) (d1.src hp)).mono ?_
  rintro e w' ⟨he, hb⟩
  exact ⟨he, hb1.trans (hb.mono (by simp))⟩

/-- What parseSegments gives. -/
structure PRes (base : Nat) (R : Option (List (Nat × Nat))) (e : Ending) (w' : World) : Prop where
  no : R = none → ∃ p, e = .returned (.tuple #[.slice none 0 0, .iface 45 (.pointer (some p))])
  yes : ∀ acc, R = some acc → ∃ v, e = .returned (.tuple #[v, .nilIface]) ∧ Got base w' v acc

theorem PRes.none {base : Nat} {R : Option (List (Nat × Nat))} {e : Ending} {w' : World} {p : Addr} (h : R = none) (he : e = .returned (.tuple #[.slice none 0 0, .iface 45 (.pointer (some p))])) : PRes base R e w' := by
  refine ⟨fun _ => ⟨p, he⟩, fun acc h2 => ?_⟩
  rw [h] at h2; cases h2
theorem PRes.some {base : Nat} {R : Option (List (Nat × Nat))} {e : Ending} {w' : World} {v : Value} {acc : List (Nat × Nat)} (h : R = some acc) (he : e = .returned (.tuple #[v, .nilIface])) (hg : Got base w' v acc) : PRes base R e w' := by
  refine ⟨fun h2 => ?_, fun acc' h2 => ?_⟩
  · rw [h] at h2; cases h2
  · rw [h] at h2; cases h2; exact ⟨v, he, hg⟩

theorem got_push {base N : Nat} {w1 : World} {v' : Value} {acc : List (Nat × Nat)} {f g : Nat} (hN : acc.length = N) (ho : w1.ownsRow base 33 2 v' (N + 1) (spans acc ++ [.int .i64 f, .int .i64 g])) : Got base w1 v' (acc ++ [(f, g)]) := by
  refine ⟨?_, fun h => by simp at h⟩
  rw [List.length_append, List.length_singleton, spans_snoc, hN]; exact ho

theorem last_of {acc : List (Nat × Nat)} {m : Nat} (h : acc.length = m + 1) : last? acc = some (acc.getD m (0, 0)).2 ∧ acc.getD m (0, 0) ∈ acc := by
  have hm : m < acc.length := by omega
  have e : acc.getD m (0, 0) = acc[m] := by rw [List.getD_eq_getElem?_getD, List.getElem?_eq_getElem hm]; rfl
  refine ⟨?_, by rw [e]; exact List.getElem_mem _⟩
  unfold last?
  rw [List.getLast?_eq_getElem?, h, Nat.add_sub_cancel, List.getElem?_eq_getElem hm, e]; rfl

set_option maxRecDepth 100000 in
set_option maxHeartbeats 1000000 in
theorem parse_any (F : Interp) (a0 : Option Addr) (len0 cap0 : Nat) (l0 : List Nat) (upto : Int) (w : World) (hF : F.answers w.tape) (d0 : Dat w a0 len0 l0) (hl0 : len0 ≤ 100000) (hc0 : len0 ≤ cap0) (hm0 : cap0 ≤ maxLen)
    (hu1 : -9223372036854775808 ≤ upto) (hu2 : upto ≤ 9223372036854775807) :
    Calls Ybaf.prog 5 #[.slice a0 len0 cap0, .int .i64 upto] w fun e w' => PRes w.heap.size (parse upto len0 l0 []) e w' ∧ Below w.heap.size w w' := by
  obtain ⟨i0, hi, hz0, hz1, hz2⟩ := info_parts info33
  obtain ⟨R, hR⟩ : ∃ R, parse upto len0 l0 [] = R := ⟨_, rfl⟩
  rw [hR]
  have HR : Hid (parse upto len0 l0 [] = R) := hR
  clear hR
  have hB0 : ∀ b off, a0 = some ⟨b, off, none⟩ → 0 < len0 → b < w.heap.size := fun b off e hp => by
    obtain ⟨b', off', e', hc⟩ := d0.cells hp
    rw [e] at e'; cases e'
    exact block_lt_of_cell (hc 0 hp)
  have HB0 : Hid (∀ b off, a0 = some ⟨b, off, none⟩ → 0 < len0 → b < w.heap.size) := hB0
  clear hB0
  go_enter Ybaf.func5, Ybaf.ntmps5
  go_wp2
  go_loopg [0, 6] len0 (fun gh dv sv wr => ∃ (a : Option Addr) (len cap : Nat) (l : List Nat) (acc : List (Nat × Nat)) (k : Nat), gh = len ∧ dv = .slice a len cap ∧ Dat wr a len l ∧ (∀ b off, a = some ⟨b, off, none⟩ → 0 < len → b < w.heap.size) ∧
      len ≤ cap ∧ cap ≤ maxLen ∧ acc.length * 2 + len ≤ len0 ∧ Got w.heap.size wr sv acc ∧ Below w.heap.size w wr ∧ len ≤ k ∧ parse upto k l acc = R ∧ (∀ x ∈ acc, x.1 ≤ 4611686018427387904 ∧ x.2 ≤ 4611686018427387904))
  case atStart => exact ⟨a0, len0, cap0, l0, [], len0, rfl, rfl, d0, HB0.out, hc0, hm0, by simp, ⟨World.ownsRow_nil _ _ _ _, fun _ => rfl⟩, Below.refl _ _, Nat.le_refl _, HR.out, by simp⟩
  case round =>
    obtain ⟨a, len, cap, l, acc, k, hg, rfl, d, hB, hc, hm, hsz, hGot, hbr, hk, hP, hall⟩ := hrel
    obtain ⟨sa, sc, rfl, hsa1, hsa2⟩ := hGot.form
    have HALL : Hid (∀ x ∈ acc, x.1 ≤ 4611686018427387904 ∧ x.2 ≤ 4611686018427387904) := hall
    clear hall
    obtain ⟨N, hN⟩ : ∃ N, acc.length = N := ⟨_, rfl⟩
    rw [hN] at hsz hGot
    rw [hN]
    have HN0 : Hid (acc.length = N) := hN
    clear hN
    have HG : Hid (gk = len) := hg
    have HD : Hid (Dat wr a len l) := d
    have HB : Hid (∀ b off, a = some ⟨b, off, none⟩ → 0 < len → b < w.heap.size) := hB
    have HGOT : Hid (Got w.heap.size wr (.slice sa N sc) acc) := hGot
    have HP : Hid (parse upto k l acc = R) := hP
    have HS1 : Hid (acc ≠ [] → ∃ g, sa = some ⟨g, 0, none⟩) := hsa1
    have HS2 : Hid (acc = [] → sa = none) := hsa2
    have HM : Hid (cap ≤ maxLen) := hm
    clear hg d hB hGot hP hsa1 hsa2 hm d0 HB0 HR
    by_cases hlen : len = 0
    · have t0 : ¬ (0 : Int) < (len : Int) := by omega
      have hRs : Hid (R = some acc) := by
        have e : l = [] := List.eq_nil_of_length_eq_zero (by rw [HD.out.len_eq]; exact hlen)
        have := HP.out
        rw [e] at this
        cases k <;> exact this.symm
      clear hlen
      go_wp2
      go_ret2
      exact ⟨PRes.some hRs.out rfl HGOT.out, hbr⟩
    · have t0 : (0 : Int) < (len : Int) := by omega
      obtain ⟨b, off, hab, _⟩ := HD.out.cells (by omega)
      subst hab
      have HRN : Hid (FP.step upto l acc = none → R = none) := fun hs => by
        have hl := HD.out.len_eq
        have hP := HP.out
        cases k with
        | zero => omega
        | succ k =>
          cases l with
          | nil => simp at hl; omega
          | cons y l => simp only [parse, hs] at hP; exact hP.symm
      cases hcut : cut l with
      | none =>
        have HN : Hid (R = none) := HRN.out (step_none1 hcut)
        have HC : Hid (cut l = none) := hcut
        clear hcut
        go_wp2_with fail
        refine (cut_none _ len cap l wr HD.out (by omega) HC.out).mono ?_
        rintro e w' ⟨rfl, rfl⟩
        go_wp2_with fail
        refine (err_path F w' b off len cap l upto (by rw [hbr.tape]; exact hF) HD.out (by omega)).mono ?_
        rintro e w2 ⟨⟨p, rfl⟩, hb2⟩
        go_wp2
        go_ret2
        exact ⟨PRes.none HN.out rfl, hbr.trans (hb2.mono hbr.size)⟩
      | some r =>
        obtain ⟨f, n⟩ := r
        have hfd := cut_dec hcut
        have hf62 : f ≤ 4611686018427387904 := by
          have h2 := hfd.2
          have e : (2 : Nat) ^ 62 = 4611686018427387904 := by decide
          rw [e] at h2; omega
        have hnb := dec_bound hfd.1
        rw [HD.out.len_eq] at hnb
        have HC : Hid (cut l = some (f, n)) := hcut
        clear hcut hfd
        cases hcut2 : cut (l.drop n) with
        | none =>
          have HN : Hid (R = none) := HRN.out (step_none2 HC.out hcut2)
          have HC2 : Hid (cut (l.drop n) = none) := hcut2
          clear hcut2
          go_wp2_with fail
          refine (cut_some _ len cap l f n wr HD.out (by omega) hc HM.out HC.out).mono ?_
          rintro e w' ⟨ra, rc, q, rfl, rfl, hd1, hd2, hd3, hd4⟩
          go_wp2_with fail
          refine (cut_none _ (len - n) rc (l.drop n) (wr.drewN q) hd1.drew (by omega) HC2.out).mono ?_
          rintro e w' ⟨rfl, rfl⟩
          clear hd1 hd2 hd3 hd4
          go_wp2_with fail
          refine (err_path F (wr.drewN q) b off len cap l upto (by show F.answers wr.tape; rw [hbr.tape]; exact hF) HD.out.drew (by omega)).mono ?_
          rintro e w2 ⟨⟨p, rfl⟩, hb2⟩
          go_wp2
          go_ret2
          exact ⟨PRes.none HN.out rfl, (below_drewN hbr q).trans (hb2.mono hbr.size)⟩
        | some r2 =>
          obtain ⟨g, m⟩ := r2
          have hgd := cut_dec hcut2
          have hg62 : g ≤ 4611686018427387904 := by
            have h2 := hgd.2
            have e : (2 : Nat) ^ 62 = 4611686018427387904 := by decide
            rw [e] at h2; omega
          have hmb := dec_bound hgd.1
          rw [List.length_drop, HD.out.len_eq] at hmb
          have HC2 : Hid (cut (l.drop n) = some (g, m)) := hcut2
          have HSB : Hid (FP.step upto l acc = if bad upto acc f g = true then none else some ((l.drop n).drop m, acc ++ [(f, g)])) := step_both HC.out hcut2
          clear hcut2 hgd
          go_wp2_with fail
          refine (cut_some _ len cap l f n wr HD.out (by omega) hc HM.out HC.out).mono ?_
          rintro e w' ⟨ra, rc, q, rfl, rfl, hd1, hd2, hd3, hd4⟩
          go_wp2_with fail
          refine (cut_some _ (len - n) rc (l.drop n) g m (wr.drewN q) hd1.drew (by omega) hd2 hd3 HC2.out).mono ?_
          rintro e w' ⟨ra2, rc2, q2, rfl, rfl, he1, he2, he3, he4⟩
          have HE1 : Hid (Dat wr ra2 (len - n - m) ((l.drop n).drop m)) := ⟨he1.len_eq, he1.byte, he1.cells⟩
          have HE3 : Hid (rc2 ≤ maxLen) := he3
          have HE4 : Hid (∀ b' off', ra2 = some ⟨b', off', none⟩ → 0 < len - n - m → b' < w.heap.size) := fun b' off' e hp => by
            have e1 := hd4 b off rfl (by omega)
            have e2 := he4 b (off + n) e1 hp
            rw [e2] at e
            cases e
            exact HB.out b off rfl (by omega)
          clear hd1 hd2 hd3 he1 he3 hd4 he4
          rw [World.drewN_drewN]
          obtain ⟨Q, hQ⟩ : ∃ Q, q + q2 = Q := ⟨_, rfl⟩
          rw [hQ]
          clear hQ
          by_cases hbad3 : f < 1 ∨ g < f ∨ upto ≤ (g : Int)
          · have hb : bad upto acc f g = true := by
              unfold bad
              rcases hbad3 with h | h | h
              · simp [h]
              · simp [h]
              · simp [h]
            have HN : Hid (R = none) := HRN.out (by rw [HSB.out, if_pos hb])
            clear hb
            have hcase : (f : Int) < 1 ∨ (¬ (f : Int) < 1 ∧ (g : Int) < (f : Int)) ∨ (¬ (f : Int) < 1 ∧ ¬ (g : Int) < (f : Int) ∧ upto ≤ (g : Int)) := by omega
            clear hbad3
            rcases hcase with h1 | ⟨h1, h2⟩ | ⟨h1, h2, h3⟩
            all_goals
              go_wp2_with fail
              refine (err_path F (wr.drewN Q) b off len cap l upto (by show F.answers wr.tape; rw [hbr.tape]; exact hF) HD.out.drew (by omega)).mono ?_
              rintro e w2 ⟨⟨p, rfl⟩, hb2⟩
              go_wp2
              go_ret2
              exact ⟨PRes.none HN.out rfl, (below_drewN hbr Q).trans (hb2.mono hbr.size)⟩
          · have h1 : ¬ (f : Int) < 1 := by omega
            have h2 : ¬ (g : Int) < (f : Int) := by omega
            have h3 : ¬ upto ≤ (g : Int) := by omega
            have hbad0 : bad upto acc f g = (match last? acc with | none => false | some p => decide (f ≤ p + 1)) := by
              have e1 : decide (f < 1) = false := decide_eq_false (by omega)
              have e2 : decide (g < f) = false := decide_eq_false (by omega)
              have e3 : decide (upto ≤ (g : Int)) = false := decide_eq_false (by omega)
              unfold bad
              rw [e1, e2, e3]; rfl
            have HBAD : Hid (bad upto acc f g = (match last? acc with | none => false | some p => decide (f ≤ p + 1))) := hbad0
            clear hbad3 hbad0
            have HRS : Hid (bad upto acc f g = false → ∃ k', len - n - m ≤ k' ∧ parse upto k' ((l.drop n).drop m) (acc ++ [(f, g)]) = R) := fun hb => by
              have hl := HD.out.len_eq
              have hP := HP.out
              have hs := HSB.out
              rw [hb] at hs
              simp only [Bool.false_eq_true, if_false] at hs
              cases k with
              | zero => omega
              | succ k =>
                cases l with
                | nil => simp at hl; omega
                | cons y l =>
                  simp only [parse, hs] at hP
                  exact ⟨k, by omega, hP⟩
            have HOWN : Hid (∀ o, ((wr.drewN Q).alloc o).ownsRow w.heap.size 33 2 (.slice sa N sc) N (spans acc)) := fun o => by
              have := HGOT.out.own
              rw [HN0.out] at this
              have h2 : (wr.drewN Q).ownsRow w.heap.size 33 2 (.slice sa N sc) N (spans acc) := this
              exact h2.alloc o
            have hws := hbr.size
            cases N with
            | zero =>
              have hacc : acc = [] := List.eq_nil_of_length_eq_zero HN0.out
              have HACC : Hid (acc = []) := hacc
              have HBF : Hid (bad upto acc f g = false) := by
                have := HBAD.out
                rw [hacc] at this ⊢
                exact this
              clear hacc
              go_wp2_with (at_builtin; refine wpList_append_own _ rfl _ _ 24 rfl w.heap.size 33 i0 _ 2 16 Ybaf.underlying24 hi hz0 hz1 hz2 rfl (by decide) _ 0 (spans acc) rfl (by exact HOWN.out _) ⟨wr.heap.size, 0, none⟩ 1 1 [.int .i64 f, .int .i64 g] rfl rfl (by exact World.news_of_block (cs := #[.int .i64 f, .int .i64 g]) (t := 33) (fr := (0, 0)) (heap_alloc_new _ _)) (by simp [Value.oneCell']) (by unfold maxLen; omega) (by omega) (by simp; omega) ?_)
              intro v' w1 hown' hgrow' _
              have HGN : Hid (Got w.heap.size w1 v' (acc ++ [(f, g)])) := got_push HN0.out hown'
              have hb1 : Below w.heap.size w w1 := ((below_drewN hbr Q).alloc (by simp; omega) _).grown hgrow' (by simp; omega) (fun k' hk' => ((HOWN.out (.cells #[] 33)).lt k' hk').1)
              have hbw1 : Below w.heap.size wr w1 := ((below_drewN (Below.refl _ wr) Q).alloc (by simp; omega) _).grown hgrow' (by simp; omega) (fun k' hk' => ((HOWN.out (.cells #[] 33)).lt k' hk').1)
              have HDD : Hid (Dat w1 ra2 (len - n - m) ((l.drop n).drop m)) := HE1.out.below hbw1 HE4.out
              clear hown' hgrow' hbw1
              go_wp2
              go_roundg (len - n - m)
              case measure => rw [HG.out]; omega
              case rel =>
                obtain ⟨k', hk', hP'⟩ := HRS.out HBF.out
                exact ⟨ra2, len - n - m, rc2, _, acc ++ [(f, g)], k', rfl, rfl, HDD.out, HE4.out, he2, HE3.out, by rw [List.length_append, HN0.out]; simp; omega, HGN.out, hb1, hk', hP', fun x hx => by
                  rcases List.mem_append.1 hx with hx | hx
                  · exact HALL.out x hx
                  · simp at hx; subst hx; exact ⟨hf62, hg62⟩⟩
            | succ m0 =>
              obtain ⟨hlast, hmem⟩ := last_of HN0.out
              have hne : acc ≠ [] := fun e => by have := HN0.out; rw [e] at this; simp at this
              obtain ⟨gs, rfl⟩ := HS1.out hne
              have hG2 := HGOT.out
              rw [← HN0.out] at hG2
              have hcl := (hG2.cells m0 (by rw [HN0.out]; omega)).2
              have hp62 := (HALL.out _ hmem).2
              obtain ⟨p, hp⟩ : ∃ p, (acc.getD m0 (0, 0)).2 = p := ⟨_, rfl⟩
              rw [hp] at hlast hcl hp62
              have HBD : Hid (bad upto acc f g = decide (f ≤ p + 1)) := by
                have := HBAD.out
                rw [hlast] at this; exact this
              have j1 : (0 : Int) ≤ (m0 : Int) := by omega
              have j2 : (m0 : Int) < (m0 : Int) + 1 := by omega
              clear hG2 hne hmem hp hlast
              by_cases hfp : f ≤ p + 1
              · have h4 : (f : Int) ≤ (p : Int) + 1 := by omega
                have HN : Hid (R = none) := HRN.out (by rw [HSB.out, HBD.out, if_pos (decide_eq_true hfp)])
                go_wp2_with fail
                refine (err_path F (wr.drewN Q) b off len cap l upto (by show F.answers wr.tape; rw [hbr.tape]; exact hF) HD.out.drew (by omega)).mono ?_
                rintro e w2 ⟨⟨p', rfl⟩, hb2⟩
                go_wp2
                go_ret2
                exact ⟨PRes.none HN.out rfl, (below_drewN hbr Q).trans (hb2.mono hbr.size)⟩
              · have h4 : ¬ (f : Int) ≤ (p : Int) + 1 := by omega
                have HBF : Hid (bad upto acc f g = false) := by
                  have := HBD.out
                  rw [decide_eq_false hfp] at this; exact this
                go_wp2_with (at_builtin; refine wpList_append_own _ rfl _ _ 24 rfl w.heap.size 33 i0 _ 2 16 Ybaf.underlying24 hi hz0 hz1 hz2 rfl (by decide) _ (m0 + 1) (spans acc) rfl (by exact HOWN.out _) ⟨wr.heap.size, 0, none⟩ 1 1 [.int .i64 f, .int .i64 g] rfl rfl (by exact World.news_of_block (cs := #[.int .i64 f, .int .i64 g]) (t := 33) (fr := (0, 0)) (heap_alloc_new _ _)) (by simp [Value.oneCell']) (by unfold maxLen; omega) (by omega) (by simp; omega) ?_)
                intro v' w1 hown' hgrow' _
                have HGN : Hid (Got w.heap.size w1 v' (acc ++ [(f, g)])) := got_push HN0.out hown'
                have hb1 : Below w.heap.size w w1 := ((below_drewN hbr Q).alloc (by simp; omega) _).grown hgrow' (by simp; omega) (fun k' hk' => ((HOWN.out (.cells #[] 33)).lt k' hk').1)
                have hbw1 : Below w.heap.size wr w1 := ((below_drewN (Below.refl _ wr) Q).alloc (by simp; omega) _).grown hgrow' (by simp; omega) (fun k' hk' => ((HOWN.out (.cells #[] 33)).lt k' hk').1)
                have HDD : Hid (Dat w1 ra2 (len - n - m) ((l.drop n).drop m)) := HE1.out.below hbw1 HE4.out
                clear hown' hgrow' hbw1
                go_wp2
                go_roundg (len - n - m)
                case measure => rw [HG.out]; omega
                case rel =>
                  obtain ⟨k', hk', hP'⟩ := HRS.out HBF.out
                  exact ⟨ra2, len - n - m, rc2, _, acc ++ [(f, g)], k', rfl, rfl, HDD.out, HE4.out, he2, HE3.out, by rw [List.length_append, HN0.out]; simp; omega, HGN.out, hb1, hk', hP', fun x hx => by
                    rcases List.mem_append.1 hx with hx | hx
                    · exact HALL.out x hx
                    · simp at hx; subst hx; exact ⟨hf62, hg62⟩⟩
end Go.Proofs.YbulkctlyFmt.FV
