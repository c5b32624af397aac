/- THE WALK OF 'LawS4756ARoundTrip' (4). -/
import Derived.Test.YbulkctlyFmtPut
import Derived.Test.YbulkctlyFmtModel
namespace Go.Proofs.YbulkctlyFmt.FV
open Go.ChangeShapes Go.WideShapes Go.ChangeAt Go.RowKit Go.Proofs.YbulkctlyFmt.FP Go.Extern.Stop Go.Stop Go.Extern
set_option linter.unusedVariables false

theorem row_apart {w : World} {B n m : Nat} {v v' : Value} {xs ys : List Value} (h : w.ownsRow B 33 2 v n xs) (h' : w.ownsRow B 5 1 v' m ys) : v.ownBlock = none ∨ v.ownBlock ≠ v'.ownBlock := by
  rcases h.2 with ⟨rfl, _⟩ | ⟨g, cap, cur, rfl, _, hg, _⟩
  · exact .inl rfl
  · right
    rcases h'.2 with ⟨rfl, _⟩ | ⟨g', cap', cur', rfl, _, hg', _⟩
    · simp [Value.ownBlock]
    · intro e
      simp [Value.ownBlock] at e
      subst e
      rw [hg] at hg'
      simp at hg'
theorem row_apart' {w : World} {B n m : Nat} {v v' : Value} {xs ys : List Value} (h : w.ownsRow B 33 2 v n xs) (h' : w.ownsRow B 5 1 v' m ys) : v'.ownBlock = none ∨ v'.ownBlock ≠ v.ownBlock := by
  rcases h'.2 with ⟨rfl, _⟩ | ⟨g, cap, cur, rfl, _, hg, _⟩
  · exact .inl rfl
  · right
    rcases h.2 with ⟨rfl, _⟩ | ⟨g', cap', cur', rfl, _, hg', _⟩
    · simp [Value.ownBlock]
    · intro e
      simp [Value.ownBlock] at e
      subst e
      rw [hg] at hg'
      simp at hg'
theorem Got.kept {base : Nat} {w w' : World} {v : Value} {acc : List (Nat × Nat)} {row : Option Nat} (h : Got base w v acc) (hg : w.grownBy w' row) (hne : v.ownBlock = none ∨ v.ownBlock ≠ row) : Got base w' v acc := ⟨h.own.kept hg hne, h.nil⟩

theorem dat_row {w : World} {B m : Nat} {v : Value} {l : List Nat} (h : w.ownsRow B 5 1 v m (bytes l)) (hb : ∀ x ∈ l, x < 256) : ∃ a cap, v = .slice a m cap ∧ Dat w a m l ∧ m ≤ cap ∧ cap ≤ maxLen ∧ (∀ b off, a = some ⟨b, off, none⟩ → b < w.heap.size) := by
  have hl : l.length = m := by have := h.1; simpa [bytes] using this
  rcases h.2 with ⟨rfl, hm⟩ | ⟨g, cap, cur, rfl, hB, hg, h1, h2, h3, h4⟩
  · subst hm
    exact ⟨none, 0, rfl, ⟨hl, hb, fun hp => by omega⟩, Nat.le_refl _, Nat.zero_le _, fun b off e => by cases e⟩
  · refine ⟨_, cap, rfl, ⟨hl, hb, fun hp => ⟨g, 0, rfl, fun i hi => ?_⟩⟩, h1, h2, fun b off e => ?_⟩
    · have := h.cellAt i (by omega)
      rw [Nat.zero_add, this]
      simp [bytes, List.getElem?_eq_getElem (show i < l.length by omega), List.getD_eq_getElem?_getD]
    · cases e
      exact (Array.getElem?_eq_some_iff.1 hg).1

set_option maxRecDepth 100000 in
set_option maxHeartbeats 1000000 in
theorem trip_any (F : Interp) (a0 : Option Addr) (len0 cap0 : Nat) (l0 : List Nat) (a1 : Option Addr) (len1 cap1 : Nat) (l1 : List Nat) (d : Int) (w : World) (hF : F.answers w.tape) (d0 : Dat w a0 len0 l0) (d1 : Dat w a1 len1 l1) (hm1 : len1 ≤ maxLen)
    (hu1 : -128 ≤ d) (hu2 : d ≤ 127) :
    Calls Ybaf.prog 4 #[.slice a0 len0 cap0, .slice a1 len1 cap1, .int .i8 d] w fun e w' => e = .returned (.bool true) ∧ Below w.heap.size w w' := by
  obtain ⟨i0, hi, hz0, hz1, hz2⟩ := info_parts info33
  by_cases hbig : 1024 < len0
  · have t : (1024 : Int) < (len0 : Int) := by omega
    go_enter Ybaf.func4, Ybaf.ntmps4
    go_wp2
    go_ret
    exact ⟨rfl, Below.refl _ _⟩
  have tbig : ¬ (1024 : Int) < (len0 : Int) := by omega
  have hB0 : ∀ b off, a0 = some ⟨b, off, none⟩ → 0 < len0 → b < w.heap.size := fun b off e hp => by
    obtain ⟨b', off', e', hc⟩ := d0.cells hp
    rw [e] at e'; cases e'
    exact block_lt_of_cell (hc 0 hp)
  have hB1 : ∀ b off, a1 = some ⟨b, off, none⟩ → 0 < len1 → b < w.heap.size := fun b off e hp => by
    obtain ⟨b', off', e', hc⟩ := d1.cells hp
    rw [e] at e'; cases e'
    exact block_lt_of_cell (hc 0 hp)
  have HB0 : Hid (∀ b off, a0 = some ⟨b, off, none⟩ → 0 < len0 → b < w.heap.size) := hB0
  have HB1 : Hid (∀ b off, a1 = some ⟨b, off, none⟩ → 0 < len1 → b < w.heap.size) := hB1
  have HD0 : Hid (Dat w a0 len0 l0) := d0
  have HD1 : Hid (Dat w a1 len1 l1) := d1
  have HF : Hid (F.answers w.tape) := hF
  have HM1 : Hid (len1 ≤ maxLen) := hm1
  clear hB0 hB1 d0 d1 hF hm1
  go_enter Ybaf.func4, Ybaf.ntmps4
  go_wp2
  go_loopg [7, 8, 9, 10] len0 (fun gh sv ev pv iv wr => ∃ (i P : Nat) (acc : List (Nat × Nat)), gh = len0 - i ∧ i ≤ len0 ∧ iv = .int .i64 i ∧ pv = .int .i64 ((P : Int) - 1) ∧ P ≤ 512 * i ∧ acc.length = i ∧ Fine acc P ∧ Got w.heap.size wr sv acc ∧
      wr.ownsRow w.heap.size 5 1 ev (encs acc).length (bytes (encs acc)) ∧ Below w.heap.size w wr)
  case atStart => exact ⟨0, 0, [], rfl, by omega, rfl, rfl, by omega, rfl, Fine.nil, ⟨World.ownsRow_nil _ _ _ _, fun _ => rfl⟩, World.ownsRow_nil _ _ _ _, Below.refl _ _⟩
  case round =>
    obtain ⟨i, P, acc, hg, hil, rfl, rfl, hP, hacc, hfine, hGot, hEnc, hbr⟩ := hrel
    have HG : Hid (gk = len0 - i) := hg
    have HACC : Hid (acc.length = i) := hacc
    have HFINE : Hid (Fine acc P) := hfine
    have HGOT : Hid (Got w.heap.size wr u7 acc) := hGot
    have HENC : Hid (wr.ownsRow w.heap.size 5 1 u8 (encs acc).length (bytes (encs acc))) := hEnc
    have HBR : Hid (Below w.heap.size w wr) := hbr
    clear hg hacc hfine hGot hEnc hbr
    by_cases hi' : i < len0
    · have ti : (i : Int) < (len0 : Int) := by omega
      have ti0 : (0 : Int) ≤ (i : Int) := by omega
      obtain ⟨b0, off0, rfl, hc0⟩ := (HD0.out.below HBR.out HB0.out).cells (by omega)
      have cx := hc0 i hi'
      have hgb := HD0.out.getD_lt i hi'
      obtain ⟨x, hx⟩ : ∃ x, l0.getD i 0 = x := ⟨_, rfl⟩
      rw [hx] at cx hgb
      clear hx hc0
      obtain ⟨sa, sc, rfl, _, _⟩ := HGOT.out.form
      rw [HACC.out]
      have HOWN0 : Hid (wr.ownsRow w.heap.size 33 2 (.slice sa i sc) i (spans acc)) := by
        have := HGOT.out.own
        rw [HACC.out] at this; exact this
      have HOWN : Hid (∀ o, (wr.alloc o).ownsRow w.heap.size 33 2 (.slice sa i sc) i (spans acc)) := fun o => HOWN0.out.alloc o
      have hws := HBR.out.size
      have hel := (encs_len acc).2
      rw [HACC.out] at hel
      by_cases hi1 : i < len1
      · have tj : (i : Int) < (len1 : Int) := by omega
        obtain ⟨b1, off1, rfl, hc1⟩ := (HD1.out.below HBR.out HB1.out).cells (by omega)
        have cy := hc1 i hi1
        have hgb1 := HD1.out.getD_lt i hi1
        obtain ⟨y, hy⟩ : ∃ y, l1.getD i 0 = y := ⟨_, rfl⟩
        rw [hy] at cy hgb1
        clear hy hc1
        have eF : (P : Int) - 1 + 2 + (x : Int) = ((P + 1 + x : Nat) : Int) := by omega
        have eG : (P : Int) - 1 + 2 + (x : Int) + (y : Int) = ((P + 1 + x + y : Nat) : Int) := by omega
        have HEF : Hid ((P : Int) - 1 + 2 + (x : Int) = ((P + 1 + x : Nat) : Int)) := eF
        have HEG : Hid ((P : Int) - 1 + 2 + (x : Int) + (y : Int) = ((P + 1 + x + y : Nat) : Int)) := eG
        clear eF eG
        go_wp2_with (at_builtin; refine wpList_append_own _ rfl _ _ 23 rfl w.heap.size 33 i0 _ 2 16 Ybaf.underlying23 hi hz0 hz1 hz2 rfl (by decide) _ i (spans acc) rfl (by exact HOWN.out _) ⟨wr.heap.size, 0, none⟩ 1 1 [.int .i64 ((P : Int) - 1 + 2 + (x : Int)), .int .i64 ((P : Int) - 1 + 2 + (x : Int) + (y : Int))] rfl rfl (by exact World.news_of_block (cs := #[.int .i64 ((P : Int) - 1 + 2 + (x : Int)), .int .i64 ((P : Int) - 1 + 2 + (x : Int) + (y : Int))]) (t := 33) (fr := (0, 0)) (heap_alloc_new _ _)) (by simp [Value.oneCell']) (by unfold maxLen; omega) (by omega) (by simp; omega) ?_)
        intro v' w1 hown' hgrow' _
        rw [HEG.out, HEF.out] at hown'
        have hgn : Got w.heap.size w1 v' (acc ++ [(P + 1 + x, P + 1 + x + y)]) := got_push HACC.out hown'
        have hga : wr.grownBy w1 (Value.slice sa i sc).ownBlock := (World.grownBy_alloc wr _ _).trans hgrow'
        have hen : w1.ownsRow w.heap.size 5 1 u8 (encs acc).length (bytes (encs acc)) := HENC.out.kept hga (row_apart' HOWN0.out HENC.out)
        have hb1 : Below w.heap.size w w1 := HBR.out.grown hga hws (fun k' hk' => (HOWN0.out.lt k' hk').1)
        have HGN : Hid (Got w.heap.size w1 v' (acc ++ [(P + 1 + x, P + 1 + x + y)])) := hgn
        have HEN : Hid (w1.ownsRow w.heap.size 5 1 u8 (encs acc).length (bytes (encs acc))) := hen
        have HB1' : Hid (Below w.heap.size w w1) := hb1
        have hw1 : w.heap.size ≤ w1.heap.size := hb1.size
        clear hown' hgrow' hga hgn hen hb1 cx cy HOWN HOWN0
        go_wp2_with fail
        refine (put_any w.heap.size (encs acc).length (P + 1 + x) (by omega) _ (by omega) u8 (bytes (encs acc)) w1 HEN.out hw1 (by omega)).mono ?_
        rintro e w2 ⟨v2, rfl, ho2, hg2, hm2⟩
        have HGN2 : Hid (Got w.heap.size w2 v' (acc ++ [(P + 1 + x, P + 1 + x + y)])) := HGN.out.kept hg2 (row_apart HGN.out.own HEN.out)
        have HO2 : Hid (w2.ownsRow w.heap.size 5 1 v2 ((encs acc).length + (enc 2 (P + 1 + x)).length) (bytes (encs acc) ++ bytes (enc 2 (P + 1 + x)))) := ho2
        have HB2 : Hid (Below w.heap.size w w2) := HB1'.out.grown hg2 hw1 (fun k' hk' => (HEN.out.lt k' hk').1)
        have hw2 : w.heap.size ≤ w2.heap.size := HB2.out.size
        have hl2 := (enc_len 2 (P + 1 + x)).2
        clear ho2 hg2 hm2
        go_wp2_with fail
        refine (put_any w.heap.size ((encs acc).length + (enc 2 (P + 1 + x)).length) (P + 1 + x + y) (by omega) _ (by omega) v2 (bytes (encs acc) ++ bytes (enc 2 (P + 1 + x))) w2 HO2.out hw2 (by omega)).mono ?_
        rintro e w3 ⟨v3, rfl, ho3, hg3, hm3⟩
        have HGN3 : Hid (Got w.heap.size w3 v' (acc ++ [(P + 1 + x, P + 1 + x + y)])) := HGN2.out.kept hg3 (row_apart HGN2.out.own HO2.out)
        have HO3 : Hid (w3.ownsRow w.heap.size 5 1 v3 (encs (acc ++ [(P + 1 + x, P + 1 + x + y)])).length (bytes (encs (acc ++ [(P + 1 + x, P + 1 + x + y)])))) := by
          rw [encs_snoc, bytes_append, bytes_append, List.length_append, List.length_append]; exact ho3
        have HB3 : Hid (Below w.heap.size w w3) := HB2.out.grown hg3 hw2 (fun k' hk' => (HO2.out.lt k' hk').1)
        clear ho3 hg3 hm3
        go_wp2
        go_roundg (len0 - (i + 1))
        case measure => rw [HG.out]; omega
        case rel => exact ⟨i + 1, P + 1 + x + y + 1, acc ++ [(P + 1 + x, P + 1 + x + y)], rfl, by omega, by go_num, by go_num, by omega, by rw [List.length_append, HACC.out]; rfl, HFINE.out.push _ _ (by omega) (by omega) (by omega), HGN3.out, HO3.out, HB3.out⟩
      · have tj : ¬ (i : Int) < (len1 : Int) := by omega
        have eF : (P : Int) - 1 + 2 + (x : Int) = ((P + 1 + x : Nat) : Int) := by omega
        have eG : (P : Int) - 1 + 2 + (x : Int) = ((P + 1 + x : Nat) : Int) := by omega
        have HEF : Hid ((P : Int) - 1 + 2 + (x : Int) = ((P + 1 + x : Nat) : Int)) := eF
        have HEG : Hid ((P : Int) - 1 + 2 + (x : Int) = ((P + 1 + x : Nat) : Int)) := eG
        clear eF eG
        go_wp2_with (at_builtin; refine wpList_append_own _ rfl _ _ 23 rfl w.heap.size 33 i0 _ 2 16 Ybaf.underlying23 hi hz0 hz1 hz2 rfl (by decide) _ i (spans acc) rfl (by exact HOWN.out _) ⟨wr.heap.size, 0, none⟩ 1 1 [.int .i64 ((P : Int) - 1 + 2 + (x : Int)), .int .i64 ((P : Int) - 1 + 2 + (x : Int))] rfl rfl (by exact World.news_of_block (cs := #[.int .i64 ((P : Int) - 1 + 2 + (x : Int)), .int .i64 ((P : Int) - 1 + 2 + (x : Int))]) (t := 33) (fr := (0, 0)) (heap_alloc_new _ _)) (by simp [Value.oneCell']) (by unfold maxLen; omega) (by omega) (by simp; omega) ?_)
        intro v' w1 hown' hgrow' _
        rw [HEF.out] at hown'
        have hgn : Got w.heap.size w1 v' (acc ++ [(P + 1 + x, P + 1 + x)]) := got_push HACC.out hown'
        have hga : wr.grownBy w1 (Value.slice sa i sc).ownBlock := (World.grownBy_alloc wr _ _).trans hgrow'
        have hen : w1.ownsRow w.heap.size 5 1 u8 (encs acc).length (bytes (encs acc)) := HENC.out.kept hga (row_apart' HOWN0.out HENC.out)
        have hb1 : Below w.heap.size w w1 := HBR.out.grown hga hws (fun k' hk' => (HOWN0.out.lt k' hk').1)
        have HGN : Hid (Got w.heap.size w1 v' (acc ++ [(P + 1 + x, P + 1 + x)])) := hgn
        have HEN : Hid (w1.ownsRow w.heap.size 5 1 u8 (encs acc).length (bytes (encs acc))) := hen
        have HB1' : Hid (Below w.heap.size w w1) := hb1
        have hw1 : w.heap.size ≤ w1.heap.size := hb1.size
        clear hown' hgrow' hga hgn hen hb1 cx HOWN HOWN0
        go_wp2_with fail
        refine (put_any w.heap.size (encs acc).length (P + 1 + x) (by omega) _ (by omega) u8 (bytes (encs acc)) w1 HEN.out hw1 (by omega)).mono ?_
        rintro e w2 ⟨v2, rfl, ho2, hg2, hm2⟩
        have HGN2 : Hid (Got w.heap.size w2 v' (acc ++ [(P + 1 + x, P + 1 + x)])) := HGN.out.kept hg2 (row_apart HGN.out.own HEN.out)
        have HO2 : Hid (w2.ownsRow w.heap.size 5 1 v2 ((encs acc).length + (enc 2 (P + 1 + x)).length) (bytes (encs acc) ++ bytes (enc 2 (P + 1 + x)))) := ho2
        have HB2 : Hid (Below w.heap.size w w2) := HB1'.out.grown hg2 hw1 (fun k' hk' => (HEN.out.lt k' hk').1)
        have hw2 : w.heap.size ≤ w2.heap.size := HB2.out.size
        have hl2 := (enc_len 2 (P + 1 + x)).2
        clear ho2 hg2 hm2
        go_wp2_with fail
        refine (put_any w.heap.size ((encs acc).length + (enc 2 (P + 1 + x)).length) (P + 1 + x) (by omega) _ (by omega) v2 (bytes (encs acc) ++ bytes (enc 2 (P + 1 + x))) w2 HO2.out hw2 (by omega)).mono ?_
        rintro e w3 ⟨v3, rfl, ho3, hg3, hm3⟩
        have HGN3 : Hid (Got w.heap.size w3 v' (acc ++ [(P + 1 + x, P + 1 + x)])) := HGN2.out.kept hg3 (row_apart HGN2.out.own HO2.out)
        have HO3 : Hid (w3.ownsRow w.heap.size 5 1 v3 (encs (acc ++ [(P + 1 + x, P + 1 + x)])).length (bytes (encs (acc ++ [(P + 1 + x, P + 1 + x)])))) := by
          rw [encs_snoc, bytes_append, bytes_append, List.length_append, List.length_append]; exact ho3
        have HB3 : Hid (Below w.heap.size w w3) := HB2.out.grown hg3 hw2 (fun k' hk' => (HO2.out.lt k' hk').1)
        clear ho3 hg3 hm3
        go_wp2
        go_roundg (len0 - (i + 1))
        case measure => rw [HG.out]; omega
        case rel => exact ⟨i + 1, P + 1 + x + 1, acc ++ [(P + 1 + x, P + 1 + x)], rfl, by omega, by go_num, by go_num, by omega, by rw [List.length_append, HACC.out]; rfl, HFINE.out.push _ _ (by omega) (by omega) (by omega), HGN3.out, HO3.out, HB3.out⟩
    · have ti : ¬ (i : Int) < (len0 : Int) := by omega
      obtain ⟨ea, ec, rfl, hde, hce, hme, hbe⟩ := dat_row HENC.out (encs_byte acc HFINE.out.small)
      have HDE : Hid (Dat wr ea (encs acc).length (encs acc)) := hde
      have HME : Hid (ec ≤ maxLen) := hme
      clear hde hme hbe
      have hel := (encs_len acc).2
      rw [HACC.out] at hel
      by_cases hz : acc = []
      · have e1 := HGOT.out.nil hz
        subst e1
        have e2 : i = 0 := by rw [← HACC.out, hz]; rfl
        have HR : Hid (∀ U, parse U (encs acc).length (encs acc) [] = some []) := by rw [hz]; exact fun U => parse_nil _ _ _
        clear hz
        have hnn := neq_noerr
        have hn := fun w => Lib.run_eql_slice_nil (P := Ybaf.prog) w 24 33 none 0 0 0 0 Ybaf.underlying24
        subst e2
        go_wp2_with fail
        refine (parse_any F ea _ ec (encs acc) _ wr (by rw [HBR.out.tape]; exact HF.out) HDE.out (by omega) hce HME.out (by omega) (by omega)).mono ?_
        rintro e w1 ⟨hres, hb1⟩
        rw [HR.out] at hres
        obtain ⟨v, rfl, hg⟩ := hres.yes [] rfl
        have e3 := hg.nil rfl
        subst e3
        have HBB : Hid (Below w.heap.size w w1) := HBR.out.trans (hb1.mono HBR.out.size)
        clear hres hb1 hg
        go_wp2
        go_loopg [17] 0 (fun gh iv wx => iv = .int .i64 0 ∧ wx = w1)
        case atStart => exact ⟨rfl, rfl⟩
        case round =>
          obtain ⟨rfl, rfl⟩ := hrel
          go_wp2
          go_ret
          exact ⟨rfl, HBB.out⟩
      · obtain ⟨m0, hm0⟩ : ∃ m0, i = m0 + 1 := ⟨i - 1, by
          have := HACC.out
          cases acc with
          | nil => exact absurd rfl hz
          | cons p l => simp at this; omega⟩
        subst hm0
        have HZ : Hid (acc ≠ []) := hz
        clear hz
        obtain ⟨sa, sc, rfl, hsa, _⟩ := HGOT.out.form
        obtain ⟨g2, rfl⟩ := hsa HZ.out
        clear hsa
        rw [HACC.out]
        by_cases hd : d < 0
        · have HR : Hid (∀ U, U < (P : Int) → parse U (encs acc).length (encs acc) [] = none) := HFINE.out.parse_no HZ.out
          have hn := fun w => Lib.run_eql_slice_nil (P := Ybaf.prog) w 24 33 none 0 0 0 0 Ybaf.underlying24
          have hne := neq_err
          go_wp2_with fail
          refine (parse_any F ea _ ec (encs acc) _ wr (by rw [HBR.out.tape]; exact HF.out) HDE.out (by omega) hce HME.out (by omega) (by omega)).mono ?_
          rintro e w1 ⟨hres, hb1⟩
          rw [HR.out _ (by omega)] at hres
          obtain ⟨p, rfl⟩ := hres.no rfl
          have HBB : Hid (Below w.heap.size w w1) := HBR.out.trans (hb1.mono HBR.out.size)
          clear hres hb1
          go_wp2
          go_ret
          exact ⟨rfl, HBB.out⟩
        · have HR : Hid (∀ U, (P : Int) ≤ U → parse U (encs acc).length (encs acc) [] = some acc) := HFINE.out.parse_yes
          have hnn := neq_noerr
          go_wp2_with fail
          refine (parse_any F ea _ ec (encs acc) _ wr (by rw [HBR.out.tape]; exact HF.out) HDE.out (by omega) hce HME.out (by omega) (by omega)).mono ?_
          rintro e w1 ⟨hres, hb1⟩
          rw [HR.out _ (by omega)] at hres
          obtain ⟨v, rfl, hG1⟩ := hres.yes acc rfl
          have HBB : Hid (Below w.heap.size w w1) := HBR.out.trans (hb1.mono HBR.out.size)
          obtain ⟨ga, gc, rfl, hga, _⟩ := hG1.form
          obtain ⟨g1, rfl⟩ := hga HZ.out
          have hgl : g2 < wr.heap.size := block_lt_of_cell (HGOT.out.cells 0 (by rw [HACC.out]; omega)).1
          have HG1 : Hid (∀ i, i < m0 + 1 → w1.cell? ⟨g1, i * 2, none⟩ = some (.int .i64 ((acc.getD i (0, 0)).1 : Nat)) ∧ w1.cell? ⟨g1, i * 2 + 1, none⟩ = some (.int .i64 ((acc.getD i (0, 0)).2 : Nat))) := fun i hi => hG1.cells i (by rw [HACC.out]; exact hi)
          have HG2 : Hid (∀ i, i < m0 + 1 → w1.cell? ⟨g2, i * 2, none⟩ = some (.int .i64 ((acc.getD i (0, 0)).1 : Nat)) ∧ w1.cell? ⟨g2, i * 2 + 1, none⟩ = some (.int .i64 ((acc.getD i (0, 0)).2 : Nat))) := fun i hi => by
            have := HGOT.out.cells i (by rw [HACC.out]; exact hi)
            exact ⟨(hb1.cell (by exact hgl)).trans this.1, (hb1.cell (by exact hgl)).trans this.2⟩
          rw [HACC.out]
          clear hG1 hga hgl hres hb1
          go_wp2
          go_loopg [17] (m0 + 1) (fun gh iv wx => ∃ i q : Nat, gh = m0 + 1 - i ∧ i ≤ m0 + 1 ∧ iv = .int .i64 i ∧ wx = w1.drewN q)
          case atStart => exact ⟨0, 0, rfl, by omega, rfl, rfl⟩
          case round =>
            obtain ⟨i, q, hg, hil', rfl, rfl⟩ := hrel
            have HGK : Hid (gk = m0 + 1 - i) := hg
            clear hg
            by_cases hi'' : i < m0 + 1
            · have ti' : (i : Int) < (m0 : Int) + 1 := by omega
              have ti0 : (0 : Int) ≤ (i : Int) := by omega
              obtain ⟨c1, c2⟩ := HG1.out i hi''
              obtain ⟨c3, c4⟩ := HG2.out i hi''
              obtain ⟨x, hx⟩ : ∃ x, (acc.getD i (0, 0)).1 = x := ⟨_, rfl⟩
              obtain ⟨y, hy⟩ : ∃ y, (acc.getD i (0, 0)).2 = y := ⟨_, rfl⟩
              rw [hx] at c1 c3
              rw [hy] at c2 c4
              clear hx hy
              go_wp2
              go_quiet (fail)
              go_wp2
              go_roundg (m0 + 1 - (i + 1))
              case measure => rw [HGK.out]; omega
              case rel => exact ⟨i + 1, _, rfl, by omega, by go_num, rfl⟩
            · have ti' : ¬ (i : Int) < (m0 : Int) + 1 := by omega
              go_wp2
              go_ret
              exact ⟨rfl, below_drewN HBB.out q⟩
end Go.Proofs.YbulkctlyFmt.FV
