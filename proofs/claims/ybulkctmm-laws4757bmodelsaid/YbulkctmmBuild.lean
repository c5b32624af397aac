/- THE CONTRACTS OF 'zzs4757bbuild' (4), 'Missing' (5). -/
import Derived.Test.YbulkctmmCal
namespace Go.Proofs.Ybulkctmm.MW
open Go.ChangeShapes Go.WideShapes Go.ChangeAt Go.RowKit Go.Proofs.Ybulkctmm.MP
set_option linter.unusedVariables false

theorem info27 : (Yba.prog.info? 27).map (fun i => (i.zero, i.size, i.bytes)) = some (some (.int .i32 0), 1, 4) := by kernel_rfl

/-- A slice's bytes, as they lie. -/
structure Dat (w : World) (a : Option Addr) (len : Nat) (l : List Nat) : Prop where
  len_eq : l.length = len
  byte : ∀ x ∈ l, x < 256
  cells : 0 < len → ∃ b off, a = some ⟨b, off, none⟩ ∧ ∀ i, i < len → w.cell? ⟨b, off + i, none⟩ = some (.int .u8 ((l.getD i 0 : Nat) : Int))
theorem Dat.getD_lt {w : World} {a : Option Addr} {len : Nat} {l : List Nat} (d : Dat w a len l) (i : Nat) (hi : i < len) : l.getD i 0 < 256 := by
  have h := d.len_eq
  apply d.byte
  rw [List.getD_eq_getElem?_getD, List.getElem?_eq_getElem (by omega)]
  exact List.getElem_mem _
theorem Dat.lt {w : World} {a : Option Addr} {len : Nat} {l : List Nat} (d : Dat w a len l) : ∀ b off, a = some ⟨b, off, none⟩ → 0 < len → b < w.heap.size := fun b off e hp => by
  obtain ⟨b', off', e', hc⟩ := d.cells hp
  rw [e] at e'; cases e'
  exact block_lt_of_cell (hc 0 hp)
theorem Dat.below {w w' : World} {a : Option Addr} {len : Nat} {l : List Nat} (d : Dat w a len l) (hb : Below w.heap.size w w') : Dat w' a len l := by
  refine ⟨d.len_eq, d.byte, fun hp => ?_⟩
  obtain ⟨b, off, ha, hc⟩ := d.cells hp
  exact ⟨b, off, ha, fun i hi => (hb.cell (by exact d.lt b off ha hp)).trans (hc i hi)⟩

def ints (l : List Int) : List Value := l.map (Value.int .i32)
theorem ints_snoc (l : List Int) (x : Int) : ints (l ++ [x]) = ints l ++ [.int .i32 x] := by simp [ints]

/-- A row of dates of the call's own. -/
def Row (base : Nat) (w : World) (v : Value) (l : List Int) : Prop := w.ownsRow base 27 1 v l.length (ints l)
theorem Row.cell {base : Nat} {w : World} {g n cap : Nat} {l : List Int} (h : Row base w (.slice (some ⟨g, 0, none⟩) n cap) l) (i : Nat) (hi : i < l.length) : w.cell? ⟨g, i, none⟩ = some (.int .i32 (l.getD i 0)) := by
  have hn : n = l.length := by
    obtain ⟨g', cap', hv, _⟩ := World.ownsRow.form h (by omega)
    injection hv
  subst hn
  unfold Row at h
  rw [h.cellAt i (by omega)]
  simp [ints, List.getElem?_eq_getElem hi, List.getD_eq_getElem?_getD]

set_option maxRecDepth 100000 in
set_option maxHeartbeats 400000 in
theorem build_any (s : Int) (a : Option Addr) (len cap : Nat) (l : List Nat) (w : World) (d : Dat w a len l) (hl : len ≤ 1024) (h1 : -1048576 ≤ s) (h2 : s ≤ 1048576) :
    Calls Yba.prog 4 #[.int .i32 s, .slice a len cap] w fun e w' => ∃ v, e = .returned v ∧ Row w.heap.size w' v (sums s l) ∧ Below w.heap.size w w' := by
  obtain ⟨i0, hi, hz0, hz1, hz2⟩ := info_parts info27
  have HD : Hid (Dat w a len l) := d
  clear d
  go_enter Yba.func4, Yba.ntmps4
  go_wp2_with (at_make; refine wpList_make_own _ rfl _ _ 23 rfl w.heap.size 27 i0 _ 1 Yba.underlying23 hi hz0 hz1 .i64 .i64 _ len rfl rfl (by omega) ?c1 ?c2 ?c3 ?_)
  case c1 => rw [hz2]; omega
  case c2 => unfold maxLen; omega
  case c3 => exact Nat.le_refl _
  intro w1 hown hgrow
  have HB1 : Hid (Below w.heap.size w w1) := (Below.refl _ _).grown hgrow (Nat.le_refl _) (by simp)
  have HOWN0 : Hid (w1.ownsRow w.heap.size 27 1 (.slice (some ⟨w.heap.size, 0, none⟩) 0 len) 0 []) := hown
  clear hown hgrow
  go_wp2
  go_loopg [5, 6, 15] len (fun gh sv cv iv wr => ∃ k : Nat, gh = len - k ∧ k ≤ len ∧ iv = .int .i64 k ∧ cv = .int .i32 (cur s l k) ∧ wr.ownsRow w.heap.size 27 1 sv k (ints ((sums s l).take k)) ∧ Below w.heap.size w wr)
  case atStart => exact ⟨0, rfl, by omega, rfl, by cases l <;> rfl, by simpa [ints] using HOWN0.out, HB1.out⟩
  case round =>
    obtain ⟨k, hg, hk, rfl, rfl, hown, hbr⟩ := hrel
    have HG : Hid (gk = len - k) := hg
    have HOWN : Hid (∀ o, (wr.alloc o).ownsRow w.heap.size 27 1 u5 k (ints ((sums s l).take k))) := fun o => hown.alloc o
    have HOWN1 : Hid (wr.ownsRow w.heap.size 27 1 u5 k (ints ((sums s l).take k))) := hown
    have HBR : Hid (Below w.heap.size w wr) := hbr
    have hws := hbr.size
    clear hg hown hbr
    have hcb := cur_bound l s k HD.out.byte
    rw [HD.out.len_eq] at hcb
    by_cases hkl : k < len
    · have t1 : (k : Int) < (len : Int) := by omega
      have t0 : (0 : Int) ≤ (k : Int) := by omega
      obtain ⟨b, off, rfl, hc⟩ := (HD.out.below HBR.out).cells (by omega)
      have cx := hc k hkl
      have hxb := HD.out.getD_lt k hkl
      obtain ⟨hst1, hst2⟩ := sums_take l s k (by rw [HD.out.len_eq]; exact hkl)
      have hcb2 := cur_bound l s (k + 1) HD.out.byte
      rw [HD.out.len_eq] at hcb2
      obtain ⟨x, hx⟩ : ∃ x, l.getD k 0 = x := ⟨_, rfl⟩
      obtain ⟨c, hcc⟩ : ∃ c, cur s l k = c := ⟨_, rfl⟩
      rw [hx] at cx hxb hst2
      rw [hcc] at hcb hst2 ⊢
      rw [hst2] at hcb2 hst1
      have HST : Hid ((sums s l).take (k + 1) = (sums s l).take k ++ [c + (x : Int)]) := hst1
      have HCU : Hid (cur s l (k + 1) = c + (x : Int)) := hst2
      clear hc hx hcc hst1 hst2
      go_wp2_with (at_builtin; refine wpList_append_own _ rfl _ _ 23 rfl w.heap.size 27 i0 _ 1 4 Yba.underlying23 hi hz0 hz1 hz2 rfl (by decide) _ k (ints ((sums s l).take k)) rfl (by exact HOWN.out _) ⟨wr.heap.size, 0, none⟩ 1 1 [.int .i32 (c + (x : Int))] rfl rfl (by exact World.news_of_block (cs := #[.int .i32 (c + (x : Int))]) (t := 27) (fr := (0, 0)) (heap_alloc_new _ _)) (by simp [Value.oneCell']) (by unfold maxLen; omega) (by omega) (by simp; omega) ?_)
      intro v' w2 hown' hgrow' _
      have HOW : Hid (w2.ownsRow w.heap.size 27 1 v' (k + 1) (ints ((sums s l).take (k + 1)))) := by
        rw [HST.out, ints_snoc]; exact hown'
      have HB2 : Hid (Below w.heap.size w w2) := (HBR.out.alloc hws _).grown hgrow' (by simp; omega) (fun k' hk' => ((HOWN.out (.cells #[] 27)).lt k' hk').1)
      clear hown' hgrow'
      go_wp2
      go_roundg (len - (k + 1))
      case measure => rw [HG.out]; omega
      case rel => exact ⟨k + 1, rfl, by omega, by go_num, by rw [HCU.out], HOW.out, HB2.out⟩
    · have t1 : ¬ (k : Int) < (len : Int) := by omega
      have HR : Hid (Row w.heap.size wr u5 (sums s l)) := by
        have h := HOWN1.out
        have e : k = (sums s l).length := by rw [sums_len, HD.out.len_eq]; omega
        rw [e, List.take_length] at h
        exact h
      go_wp2
      go_ret
      exact ⟨_, rfl, HR.out, HBR.out⟩

/-- A row of dates, read. -/
structure Dts (w : World) (a : Option Addr) (ds : List Int) : Prop where
  cells : 0 < ds.length → ∃ g, a = some ⟨g, 0, none⟩ ∧ ∀ i, i < ds.length → w.cell? ⟨g, i, none⟩ = some (.int .i32 (ds.getD i 0))
theorem Row.dts {base : Nat} {w : World} {v : Value} {ds : List Int} (h : Row base w v ds) : ∃ a cap, v = .slice a ds.length cap ∧ Dts w a ds := by
  rcases h.2 with ⟨rfl, hn⟩ | ⟨g, cap, cur, rfl, _⟩
  · exact ⟨none, 0, by rw [hn], ⟨fun hp => by omega⟩⟩
  · exact ⟨_, cap, rfl, ⟨fun hp => ⟨g, rfl, fun i hi => h.cell i hi⟩⟩⟩
theorem Dts.below {w w' : World} {a : Option Addr} {ds : List Int} (h : Dts w a ds) (hb : Below w.heap.size w w') : Dts w' a ds := by
  refine ⟨fun hp => ?_⟩
  obtain ⟨g, ha, hc⟩ := h.cells hp
  exact ⟨g, ha, fun i hi => (hb.cell (by show g < _; exact block_lt_of_cell (hc 0 hp))).trans (hc i hi)⟩
theorem Cal.below {w w' : World} {c : Nat} (h : Cal w c) (hb : Below w.heap.size w w') : Cal w' c :=
  ⟨(hb.cell (by exact block_lt_of_cell h.first)).trans h.first, (hb.cell (by show c < _; exact block_lt_of_cell h.first)).trans h.closed⟩

/-- What is gathered: a row of the call's own, nil while it is empty. -/
structure Acc (base : Nat) (w : World) (v : Value) (acc : List Int) : Prop where
  row : Row base w v acc
  nil : acc = [] → v = .slice none 0 0
theorem acc_push {base : Nat} {w1 : World} {v' : Value} {acc : List Int} {N : Nat} {d : Int} (hN : acc.length = N) (h : w1.ownsRow base 27 1 v' (N + 1) (ints acc ++ [.int .i32 d])) : Acc base w1 v' (acc ++ [d]) := by
  refine ⟨?_, fun e => by simp at e⟩
  unfold Row
  rw [List.length_append, List.length_singleton, ints_snoc, hN]; exact h
theorem rest_len (ds : List Int) (d to : Int) : (rest ds d to).length ≤ (to + 1 - d).toNat := mis_len ds _ d

set_option maxRecDepth 100000 in
set_option maxHeartbeats 400000 in
theorem missing_any (a : Option Addr) (cap : Nat) (ds : List Int) (c : Nat) (fr to : Int) (w : World) (hD : Dts w a ds) (hs : ds.Pairwise (· ≤ ·)) (hl : ds.length ≤ 1024) (hC : Cal w c)
    (f1 : -1048576 ≤ fr) (f2 : fr ≤ 1048576) (t1 : -1048576 ≤ to) (t2 : to ≤ 1048576) (h4 : to - fr ≤ 4000) :
    Calls Yba.prog 5 #[.slice a ds.length cap, .pointer (some ⟨c, 0, none⟩), .int .i32 fr, .int .i32 to] w fun e w' => ∃ v, e = .returned v ∧ Acc w.heap.size w' v (rest ds fr to) ∧ Below w.heap.size w w' := by
  obtain ⟨i0, hi, hz0, hz1, hz2⟩ := info_parts info27
  obtain ⟨L, hL⟩ : ∃ L, ds.length = L := ⟨_, rfl⟩
  rw [hL] at hl ⊢
  have HL : Hid (ds.length = L) := hL
  have HD : Hid (Dts w a ds) := hD
  have HS : Hid (ds.Pairwise (· ≤ ·)) := hs
  have HC : Hid (Cal w c) := hC
  clear hD hs hC hL
  obtain ⟨T, hT⟩ : ∃ T, rest ds fr to = T := ⟨_, rfl⟩
  rw [hT]
  have hTl := rest_len ds fr to
  rw [hT] at hTl
  have hTl2 : T.length ≤ 4001 := by omega
  have HT : Hid (rest ds fr to = T) := hT
  clear hT hTl
  go_enter Yba.func5, Yba.ntmps5
  go_wp2_with fail
  refine (next_any c fr w HC.out (by omega) (by omega)).mono ?_
  rintro e w' ⟨r, rfl, hnx, rfl⟩
  have hr1 := hnx.le
  have hr2 := hnx.lt
  have HNX : Hid (Next fr r) := hnx
  clear hnx
  go_wp2
  go_loopg [9, 10, 11] (to + 4 - r).toNat (fun gh sv iv dv wr => ∃ (i : Nat) (d : Int) (acc : List Int), gh = (to + 4 - d).toNat ∧ iv = .int .i64 i ∧ dv = .int .i32 d ∧ i ≤ L ∧ -1048576 ≤ d ∧ d ≤ 1048580 ∧ (∀ j, j < i → ds.getD j 0 < d) ∧ wk d = false ∧
      acc ++ rest ds d to = T ∧ Acc w'.heap.size wr sv acc ∧ Below w'.heap.size w' wr)
  case atStart => exact ⟨0, r, [], rfl, rfl, rfl, by omega, by omega, by omega, fun j hj => by omega, HNX.out.no, by rw [List.nil_append, ← HNX.out.rest]; exact HT.out, ⟨World.ownsRow_nil _ _ _ _, fun _ => rfl⟩, Below.refl _ _⟩
  case round =>
    obtain ⟨i, d, acc, hg, rfl, rfl, hiL, hd1, hd2, hlt, hwk, hacc, hA, hbr⟩ := hrel
    have HG : Hid (gk = (to + 4 - d).toNat) := hg
    have HLT : Hid (∀ j, j < i → ds.getD j 0 < d) := hlt
    have HWK : Hid (wk d = false) := hwk
    have HACC : Hid (acc ++ rest ds d to = T) := hacc
    have HA : Hid (Acc w'.heap.size wr u9 acc) := hA
    have HBR : Hid (Below w'.heap.size w' wr) := hbr
    have hws := hbr.size
    have hal : acc.length ≤ 4001 := by
      have := congrArg List.length hacc
      rw [List.length_append] at this; omega
    obtain ⟨N, hN⟩ : ∃ N, acc.length = N := ⟨_, rfl⟩
    rw [hN] at hal
    have HN : Hid (acc.length = N) := hN
    clear hg hlt hwk hacc hA hbr hN
    by_cases hdt : d ≤ to
    · go_wp2
      go_loopg [10] (L - i) (fun gh iv wx => ∃ k : Nat, gh = L - k ∧ k ≤ L ∧ iv = .int .i64 k ∧ (∀ j, j < k → ds.getD j 0 < d) ∧ wx = wr)
      case atStart => exact ⟨i, rfl, hiL, rfl, HLT.out, rfl⟩
      case round =>
        obtain ⟨k, hg2, hkL, rfl, hlt2, hwx⟩ := hrel
        subst hwx
        have HG2 : Hid (gk = L - k) := hg2
        have HLT2 : Hid (∀ j, j < k → ds.getD j 0 < d) := hlt2
        clear hg2 hlt2
        by_cases hk : k < L
        · have tk : (k : Int) < (L : Int) := by omega
          have tk0 : (0 : Int) ≤ (k : Int) := by omega
          have tne : ((k : Int) == (L : Int)) = false := by simp; omega
          obtain ⟨g, rfl, hc⟩ := (HD.out.below HBR.out).cells (by rw [HL.out]; omega)
          have cx := hc k (by rw [HL.out]; exact hk)
          obtain ⟨x, hx⟩ : ∃ x, ds.getD k 0 = x := ⟨_, rfl⟩
          rw [hx] at cx
          have HX : Hid (ds.getD k 0 = x) := hx
          clear hc hx
          by_cases hxd : x < d
          · go_wp2
            go_roundg (L - (k + 1))
            case measure => rw [HG2.out]; omega
            case rel => exact ⟨k + 1, rfl, by omega, by go_num, fun j hj => by
              rcases Nat.lt_or_ge j k with h | h
              · exact HLT2.out j h
              · rw [show j = k from by omega, HX.out]; exact hxd, rfl⟩
          · by_cases hxe : x = d
            · subst hxe
              have HIN : Hid (x ∈ ds) := (mem_at HS.out HLT2.out (by rw [HL.out]; exact hk) (by rw [HX.out]; omega)).2 HX.out
              go_wp2_with fail
              refine (next_any c (x + 1) _ (HC.out.below HBR.out) (by omega) (by omega)).mono ?_
              rintro e w4 ⟨r2, rfl, hnx2, rfl⟩
              have hq1 := hnx2.le
              have hq2 := hnx2.lt
              have HNX2 : Hid (Next (x + 1) r2) := hnx2
              clear hnx2
              go_wp2
              go_roundg (to + 4 - r2).toNat
              case measure => rw [HG.out]; omega
              case rel => exact ⟨k, r2, acc, rfl, rfl, rfl, hkL, by omega, by omega, fun j hj => by have := HLT2.out j hj; omega, HNX2.out.no, by rw [← HNX2.out.rest]; (rw [← rest_out (.inr HIN.out)]; exact HACC.out), HA.out, HBR.out⟩
            · have txe : (x == d) = false := by simpa using hxe
              have HNIN : Hid (d ∉ ds) := fun hm => hxe (by rw [← HX.out]; exact (mem_at HS.out HLT2.out (by rw [HL.out]; exact hk) (by rw [HX.out]; omega)).1 hm)
              have HACC2 : Hid (acc ++ [d] ++ rest ds (d + 1) to = T) := by
                have := HACC.out
                rw [rest_in hdt HWK.out HNIN.out] at this
                rw [List.append_assoc]; exact this
              have HOWN : Hid (∀ o, (wr.alloc o).ownsRow w'.heap.size 27 1 u9 N (ints acc)) := fun o => by
                have := HA.out.row
                unfold Row at this
                rw [HN.out] at this
                exact this.alloc o
              go_wp2_with (at_builtin; refine wpList_append_own _ rfl _ _ 23 rfl w'.heap.size 27 i0 _ 1 4 Yba.underlying23 hi hz0 hz1 hz2 rfl (by decide) _ N (ints acc) rfl (by exact HOWN.out _) ⟨wr.heap.size, 0, none⟩ 1 1 [.int .i32 d] rfl rfl (by exact World.news_of_block (cs := #[.int .i32 d]) (t := 27) (fr := (0, 0)) (heap_alloc_new _ _)) (by simp [Value.oneCell']) (by unfold maxLen; omega) (by omega) (by simp; omega) ?_)
              intro v' w3 hown' hgrow' _
              have HA3 : Hid (Acc w'.heap.size w3 v' (acc ++ [d])) := acc_push HN.out hown'
              have HB3 : Hid (Below w'.heap.size w' w3) := (HBR.out.alloc hws _).grown hgrow' (by simp; omega) (fun k' hk' => ((HOWN.out (.cells #[] 27)).lt k' hk').1)
              clear hown' hgrow'
              go_wp2_with fail
              refine (next_any c (d + 1) _ (HC.out.below HB3.out) (by omega) (by omega)).mono ?_
              rintro e w4 ⟨r2, rfl, hnx2, rfl⟩
              have hq1 := hnx2.le
              have hq2 := hnx2.lt
              have HNX2 : Hid (Next (d + 1) r2) := hnx2
              clear hnx2
              go_wp2
              go_roundg (to + 4 - r2).toNat
              case measure => rw [HG.out]; omega
              case rel => exact ⟨k, r2, acc ++ [d], rfl, rfl, rfl, hkL, by omega, by omega, fun j hj => by have := HLT2.out j hj; omega, HNX2.out.no, by rw [← HNX2.out.rest]; exact HACC2.out, HA3.out, HB3.out⟩
        · have ek : k = L := by omega
          subst ek
          have tk : ¬ (k : Int) < (k : Int) := by omega
          have HNIN : Hid (d ∉ ds) := mem_end (fun j hj => HLT2.out j (by rw [HL.out] at hj; exact hj))
          have HACC2 : Hid (acc ++ [d] ++ rest ds (d + 1) to = T) := by
            have := HACC.out
            rw [rest_in hdt HWK.out HNIN.out] at this
            rw [List.append_assoc]; exact this
          have HOWN : Hid (∀ o, (wr.alloc o).ownsRow w'.heap.size 27 1 u9 N (ints acc)) := fun o => by
            have := HA.out.row
            unfold Row at this
            rw [HN.out] at this
            exact this.alloc o
          go_wp2_with (at_builtin; refine wpList_append_own _ rfl _ _ 23 rfl w'.heap.size 27 i0 _ 1 4 Yba.underlying23 hi hz0 hz1 hz2 rfl (by decide) _ N (ints acc) rfl (by exact HOWN.out _) ⟨wr.heap.size, 0, none⟩ 1 1 [.int .i32 d] rfl rfl (by exact World.news_of_block (cs := #[.int .i32 d]) (t := 27) (fr := (0, 0)) (heap_alloc_new _ _)) (by simp [Value.oneCell']) (by unfold maxLen; omega) (by omega) (by simp; omega) ?_)
          intro v' w3 hown' hgrow' _
          have HA3 : Hid (Acc w'.heap.size w3 v' (acc ++ [d])) := acc_push HN.out hown'
          have HB3 : Hid (Below w'.heap.size w' w3) := (HBR.out.alloc hws _).grown hgrow' (by simp; omega) (fun k' hk' => ((HOWN.out (.cells #[] 27)).lt k' hk').1)
          clear hown' hgrow'
          go_wp2_with fail
          refine (next_any c (d + 1) _ (HC.out.below HB3.out) (by omega) (by omega)).mono ?_
          rintro e w4 ⟨r2, rfl, hnx2, rfl⟩
          have hq1 := hnx2.le
          have hq2 := hnx2.lt
          have HNX2 : Hid (Next (d + 1) r2) := hnx2
          clear hnx2
          go_wp2
          go_roundg (to + 4 - r2).toNat
          case measure => rw [HG.out]; omega
          case rel => exact ⟨k, r2, acc ++ [d], rfl, rfl, rfl, hkL, by omega, by omega, fun j hj => by have := HLT2.out j hj; omega, HNX2.out.no, by rw [← HNX2.out.rest]; exact HACC2.out, HA3.out, HB3.out⟩
    · have tdt : ¬ d ≤ to := hdt
      have HR : Hid (acc = T) := by
        have := HACC.out
        rw [rest_end (by omega), List.append_nil] at this; exact this
      go_wp2
      go_ret
      exact ⟨_, rfl, by rw [← HR.out]; exact HA.out, HBR.out⟩
end Go.Proofs.Ybulkctmm.MW
