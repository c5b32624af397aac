/- THE WALK OF 'LawS4757BModel' (3). -/
import Derived.Test.YbulkctmmBuild
namespace Go.Proofs.Ybulkctmm.MW
open Go.ChangeShapes Go.WideShapes Go.ChangeAt Go.RowKit Go.Proofs.Ybulkctmm.MP
set_option linter.unusedVariables false

theorem Acc.form {base : Nat} {w : World} {v : Value} {acc : List Int} (h : Acc base w v acc) : ∃ a cap, v = .slice a acc.length cap ∧ Dts w a acc := h.row.dts

set_option maxRecDepth 100000 in
set_option maxHeartbeats 1000000 in
theorem law_any (s fr to : Int) (a : Option Addr) (len cap : Nat) (l : List Nat) (w : World) (hD : Dat w a len l)
    (hs1 : -2147483648 ≤ s) (hs2 : s ≤ 2147483647) (hf1 : -2147483648 ≤ fr) (hf2 : fr ≤ 2147483647) (ht1 : -2147483648 ≤ to) (ht2 : to ≤ 2147483647) :
    Calls Yba.prog 3 #[.int .i32 s, .int .i32 fr, .int .i32 to, .slice a len cap] w fun e w' => e = .returned (.bool true) ∧ Below w.heap.size w w' := by
  obtain ⟨i0, hi, hz0, hz1, hz2⟩ := info_parts info27
  have HD : Hid (Dat w a len l) := hD
  clear hD
  by_cases hbig : 1024 < len
  · have t : (1024 : Int) < (len : Int) := by omega
    go_enter Yba.func3, Yba.ntmps3
    go_wp2
    go_ret
    exact ⟨rfl, Below.refl _ _⟩
  have tbig : ¬ (1024 : Int) < (len : Int) := by omega
  by_cases c1 : s < -1048576
  · go_enter Yba.func3, Yba.ntmps3
    go_wp2
    go_ret
    exact ⟨rfl, Below.refl _ _⟩
  by_cases c2 : 1048576 < s
  · go_enter Yba.func3, Yba.ntmps3
    go_wp2
    go_ret
    exact ⟨rfl, Below.refl _ _⟩
  by_cases c3 : fr < -1048576
  · go_enter Yba.func3, Yba.ntmps3
    go_wp2
    go_ret
    exact ⟨rfl, Below.refl _ _⟩
  by_cases c4 : 1048576 < fr
  · go_enter Yba.func3, Yba.ntmps3
    go_wp2
    go_ret
    exact ⟨rfl, Below.refl _ _⟩
  by_cases c5 : to < -1048576
  · go_enter Yba.func3, Yba.ntmps3
    go_wp2
    go_ret
    exact ⟨rfl, Below.refl _ _⟩
  by_cases c6 : 1048576 < to
  · go_enter Yba.func3, Yba.ntmps3
    go_wp2
    go_ret
    exact ⟨rfl, Below.refl _ _⟩
  by_cases c7 : 4000 < to - fr
  · go_enter Yba.func3, Yba.ntmps3
    go_wp2
    go_ret
    exact ⟨rfl, Below.refl _ _⟩
  obtain ⟨ds, hds⟩ : ∃ ds, sums s l = ds := ⟨_, rfl⟩
  have hsl : ds.length = len := by rw [← hds, sums_len, HD.out.len_eq]
  have HSO : Hid (ds.Pairwise (· ≤ ·)) := by rw [← hds]; exact sums_sorted l s
  have HDS : Hid (sums s l = ds) := hds
  have HSL : Hid (ds.length = len) := hsl
  clear hds hsl
  go_enter Yba.func3, Yba.ntmps3
  go_wp2_with fail
  refine (build_any s a len cap l w HD.out (by omega) (by omega) (by omega)).mono ?_
  rintro e w1 ⟨v1, rfl, hrow1, hb1⟩
  rw [HDS.out] at hrow1
  obtain ⟨a1, cap1, rfl, hdts1⟩ := hrow1.dts
  have HT1 : Hid (Dts w1 a1 ds) := hdts1
  have HB1 : Hid (Below w.heap.size w w1) := hb1
  rw [HSL.out]
  clear hrow1 hdts1 hb1
  go_wp2_with fail
  obtain ⟨o, ho⟩ : ∃ o, Obj.cells #[Value.int IntKind.i32 0, Value.slice none 0 0, Value.int IntKind.i32 0, Value.int IntKind.i32 0] 30 = o := ⟨_, rfl⟩
  have hcal : Cal (w1.alloc (Obj.cells #[Value.int IntKind.i32 0, Value.slice none 0 0, Value.int IntKind.i32 0, Value.int IntKind.i32 0] 30)) w1.heap.size := ⟨by simp, by simp⟩
  rw [ho] at hcal ⊢
  have hb2 : Below w1.heap.size w1 (w1.alloc o) := (Below.refl _ _).alloc (Nat.le_refl _) _
  have hm := missing_any a1 cap1 ds w1.heap.size fr to (w1.alloc o) (HT1.out.below hb2) HSO.out (by rw [HSL.out]; omega) hcal (by omega) (by omega) (by omega) (by omega) (by omega)
  rw [HSL.out] at hm
  clear ho hcal
  refine hm.mono ?_
  clear hm
  rintro e w2 ⟨vg, rfl, hgot, hb3⟩
  obtain ⟨T, hT⟩ : ∃ T, rest ds fr to = T := ⟨_, rfl⟩
  have hTl := rest_len ds fr to
  rw [hT] at hgot hTl
  have hTl2 : T.length ≤ 4001 := by omega
  have HT : Hid (rest ds fr to = T) := hT
  have HGOT : Hid (Acc (w1.alloc o).heap.size w2 vg T) := hgot
  have HB12 : Hid (Below w1.heap.size w1 w2) := hb2.trans (hb3.mono hb2.size)
  have HB2 : Hid (Below w.heap.size w w2) := HB1.out.trans (HB12.out.mono HB1.out.size)
  clear hgot hb2 hb3 hT hTl
  go_wp2
  go_loopg [11, 12] (to + 1 - fr).toNat (fun gh sv dv wr => ∃ (d : Int) (acc : List Int), gh = (to + 1 - d).toNat ∧ dv = .int .i32 d ∧ -1048576 ≤ d ∧ d ≤ 1048577 ∧ acc ++ rest ds d to = T ∧ Acc w2.heap.size wr sv acc ∧ Below w2.heap.size w2 wr)
  case atStart => exact ⟨fr, [], rfl, rfl, by omega, by omega, by rw [List.nil_append]; exact HT.out, ⟨World.ownsRow_nil _ _ _ _, fun _ => rfl⟩, Below.refl _ _⟩
  case round =>
    obtain ⟨d, acc, hg, rfl, hd1, hd2, hacc, hA, hbr⟩ := hrel
    have HG : Hid (gk = (to + 1 - d).toNat) := hg
    have HACC : Hid (acc ++ rest ds d to = T) := hacc
    have HA : Hid (Acc w2.heap.size wr u11 acc) := hA
    have HBR : Hid (Below w2.heap.size w2 wr) := hbr
    have hws := hbr.size
    have hal : acc.length ≤ 4001 := by
      have := congrArg List.length hacc
      rw [List.length_append] at this; omega
    obtain ⟨N, hN⟩ : ∃ N, acc.length = N := ⟨_, rfl⟩
    rw [hN] at hal
    have HN : Hid (acc.length = N) := hN
    clear hg hacc hA hbr hN
    have HB1R : Hid (Below w1.heap.size w1 wr) := HB12.out.trans (HBR.out.mono HB12.out.size)
    by_cases hdt : d ≤ to
    · cases hwk : wk d with
      | true =>
        have HWK : Hid (wk d = true) := hwk
        clear hwk
        go_wp2_with fail
        refine (wk6_any d wr (by omega) (by omega)).mono ?_
        rintro e w' ⟨rfl, hw'⟩
        subst hw'
        rw [HWK.out]
        go_wp2
        go_roundg (to + 1 - (d + 1)).toNat
        case measure => rw [HG.out]; omega
        case rel => exact ⟨d + 1, acc, rfl, by go_num, by omega, by omega, by rw [← rest_out (.inl HWK.out)]; exact HACC.out, HA.out, HBR.out⟩
      | false =>
        have HWK : Hid (wk d = false) := hwk
        clear hwk
        go_wp2_with fail
        refine (wk6_any d wr (by omega) (by omega)).mono ?_
        rintro e w' ⟨rfl, hw'⟩
        subst hw'
        rw [HWK.out]
        go_wp2
        go_loopg [13, 69] len (fun gh fv iv wx => ∃ k : Nat, gh = len - k ∧ k ≤ len ∧ fv = .bool false ∧ iv = .int .i64 k ∧ (∀ j, j < k → ds.getD j 0 ≠ d) ∧ wx = w')
        case atStart => exact ⟨0, rfl, by omega, rfl, rfl, fun j hj => by omega, rfl⟩
        case round =>
          obtain ⟨k, hg2, hkL, rfl, rfl, hne, hwx⟩ := hrel
          subst hwx
          have HG2 : Hid (gk = len - k) := hg2
          have HNE : Hid (∀ j, j < k → ds.getD j 0 ≠ d) := hne
          clear hg2 hne
          by_cases hk : k < len
          · have tk : (k : Int) < (len : Int) := by omega
            have tk0 : (0 : Int) ≤ (k : Int) := by omega
            obtain ⟨g, rfl, hc⟩ := (HT1.out.below HB1R.out).cells (by rw [HSL.out]; omega)
            have cx := hc k (by rw [HSL.out]; exact hk)
            obtain ⟨x, hx⟩ : ∃ x, ds.getD k 0 = x := ⟨_, rfl⟩
            rw [hx] at cx
            have HX : Hid (ds.getD k 0 = x) := hx
            clear hc hx
            by_cases hxe : x = d
            · subst hxe
              have HIN : Hid (x ∈ ds) := by
                have hkl : k < ds.length := by rw [HSL.out]; exact hk
                have e := HX.out
                rw [List.getD_eq_getElem?_getD, List.getElem?_eq_getElem hkl] at e
                simp at e
                rw [← e]; exact List.getElem_mem _
              go_wp2
              go_roundg (to + 1 - (x + 1)).toNat
              case measure => rw [HG.out]; omega
              case rel => exact ⟨x + 1, acc, rfl, by go_num, by omega, by omega, by rw [← rest_out (.inr HIN.out)]; exact HACC.out, HA.out, HBR.out⟩
            · have txe : (x == d) = false := by simpa using hxe
              go_wp2
              go_roundg (len - (k + 1))
              case measure => rw [HG2.out]; omega
              case rel => exact ⟨k + 1, rfl, by omega, rfl, by go_num, fun j hj => by
                rcases Nat.lt_or_ge j k with h | h
                · exact HNE.out j h
                · rw [show j = k from by omega, HX.out]; exact hxe, rfl⟩
          · have tk : ¬ (k : Int) < (len : Int) := by omega
            have HNIN : Hid (d ∉ ds) := fun hm => by
              obtain ⟨j, hj, e⟩ := List.mem_iff_getElem.1 hm
              have := HNE.out j (by rw [HSL.out] at hj; omega)
              rw [List.getD_eq_getElem?_getD, List.getElem?_eq_getElem hj] at this
              exact this e
            have HACC2 : Hid (acc ++ [d] ++ rest ds (d + 1) to = T) := by
              have := HACC.out
              rw [rest_in hdt HWK.out HNIN.out] at this
              rw [List.append_assoc]; exact this
            have HOWN : Hid (∀ o, (wr.alloc o).ownsRow w2.heap.size 27 1 u11 N (ints acc)) := fun o => by
              have := HA.out.row
              unfold Row at this
              rw [HN.out] at this
              exact this.alloc o
            go_wp2_with (at_builtin; refine wpList_append_own _ rfl _ _ 23 rfl w2.heap.size 27 i0 _ 1 4 Yba.underlying23 hi hz0 hz1 hz2 rfl (by decide) _ N (ints acc) rfl (by exact HOWN.out _) ⟨wr.heap.size, 0, none⟩ 1 1 [.int .i32 d] rfl rfl (by exact World.news_of_block (cs := #[.int .i32 d]) (t := 27) (fr := (0, 0)) (heap_alloc_new _ _)) (by simp [Value.oneCell']) (by unfold maxLen; omega) (by omega) (by simp; omega) ?_)
            intro v' w3 hown' hgrow' _
            have HA3 : Hid (Acc w2.heap.size w3 v' (acc ++ [d])) := acc_push HN.out hown'
            have HB3 : Hid (Below w2.heap.size w2 w3) := (HBR.out.alloc hws _).grown hgrow' (by simp; omega) (fun k' hk' => ((HOWN.out (.cells #[] 27)).lt k' hk').1)
            clear hown' hgrow'
            go_wp2
            go_roundg (to + 1 - (d + 1)).toNat
            case measure => rw [HG.out]; omega
            case rel => exact ⟨d + 1, acc ++ [d], rfl, by go_num, by omega, by omega, HACC2.out, HA3.out, HB3.out⟩
    · have hR : acc = T := by
        have := HACC.out
        rw [rest_end (by omega), List.append_nil] at this; exact this
      subst hR
      obtain ⟨ga, gc, rfl, hgd⟩ := HGOT.out.form
      obtain ⟨sa, sc, rfl, hsd⟩ := HA.out.form
      have HGN : Hid (acc = [] → Value.slice ga acc.length gc = .slice none 0 0) := HGOT.out.nil
      have HGD : Hid (Dts w2 ga acc) := hgd
      have HSD : Hid (Dts wr sa acc) := hsd
      have HBW : Hid (Below w.heap.size w wr) := HB2.out.trans (HBR.out.mono HB2.out.size)
      clear hgd hsd HA HGOT
      rw [HN.out]
      rw [HN.out] at HGN
      go_wp2_with fail
      refine (build_any s a len cap l wr (HD.out.below HBW.out) (by omega) (by omega) (by omega)).mono ?_
      rintro e w4 ⟨v4, rfl, hrow4, hb4⟩
      rw [HDS.out] at hrow4
      obtain ⟨a4, cap4, rfl, hdts4⟩ := hrow4.dts
      rw [HSL.out]
      have H4 : Hid (Dts w4 a4 ds) := hdts4
      have H1 : Hid (Dts w4 a1 ds) := HT1.out.below (HB1R.out.trans (hb4.mono HB1R.out.size))
      have HG4 : Hid (Dts w4 ga acc) := HGD.out.below (HBR.out.trans (hb4.mono HBR.out.size))
      have HS4 : Hid (Dts w4 sa acc) := HSD.out.below hb4
      have HBF : Hid (Below w.heap.size w w4) := HBW.out.trans (hb4.mono HBW.out.size)
      clear hrow4 hdts4 hb4
      go_wp2
      go_loopg [93] len (fun gh iv wx => ∃ k q : Nat, gh = len - k ∧ k ≤ len ∧ iv = .int .i64 k ∧ wx = w4.drewN q)
      case atStart => exact ⟨0, 0, rfl, by omega, rfl, rfl⟩
      case round =>
        obtain ⟨k, q, hg2, hkL, rfl, rfl⟩ := hrel
        have HG2 : Hid (gk = len - k) := hg2
        clear hg2
        by_cases hk : k < len
        · have tk : (k : Int) < (len : Int) := by omega
          have tk0 : (0 : Int) ≤ (k : Int) := by omega
          obtain ⟨g1, rfl, hc1⟩ := H1.out.cells (by rw [HSL.out]; omega)
          obtain ⟨g4, rfl, hc4⟩ := H4.out.cells (by rw [HSL.out]; omega)
          have cx := hc1 k (by rw [HSL.out]; exact hk)
          have cy := hc4 k (by rw [HSL.out]; exact hk)
          obtain ⟨x, hx⟩ : ∃ x, ds.getD k 0 = x := ⟨_, rfl⟩
          rw [hx] at cx cy
          clear hc1 hc4 hx
          go_wp2
          go_quiet (fail)
          go_wp2
          go_roundg (len - (k + 1))
          case measure => rw [HG2.out]; omega
          case rel => exact ⟨k + 1, _, rfl, by omega, by go_num, rfl⟩
        · have tk : ¬ (k : Int) < (len : Int) := by omega
          cases N with
          | zero =>
            have e : acc = [] := List.eq_nil_of_length_eq_zero HN.out
            have e2 := HGN.out e
            rw [e2]
            clear e e2
            have hn := fun w => Lib.run_eql_slice_nil (P := Yba.prog) w 23 27 none 0 0 0 0 Yba.underlying23
            go_wp2
            go_ret
            exact ⟨rfl, below_drewN HBF.out q⟩
          | succ m =>
            have tz : ((m : Int) + 1 == 0) = false := by simp; omega
            go_wp2
            go_loopg [118] (m + 1) (fun gh iv wx => ∃ k q : Nat, gh = m + 1 - k ∧ k ≤ m + 1 ∧ iv = .int .i64 k ∧ wx = w4.drewN q)
            case atStart => exact ⟨0, q, rfl, by omega, rfl, rfl⟩
            case round =>
              obtain ⟨k2, q2, hg3, hkm, rfl, rfl⟩ := hrel
              have HG3 : Hid (gk = m + 1 - k2) := hg3
              clear hg3
              by_cases hk2 : k2 < m + 1
              · have tk2 : (k2 : Int) < (m : Int) + 1 := by omega
                have tk20 : (0 : Int) ≤ (k2 : Int) := by omega
                obtain ⟨g1, rfl, hc1⟩ := HG4.out.cells (by rw [HN.out]; omega)
                obtain ⟨g4, rfl, hc4⟩ := HS4.out.cells (by rw [HN.out]; omega)
                have cx := hc1 k2 (by rw [HN.out]; exact hk2)
                have cy := hc4 k2 (by rw [HN.out]; exact hk2)
                obtain ⟨x, hx⟩ : ∃ x, acc.getD k2 0 = x := ⟨_, rfl⟩
                rw [hx] at cx cy
                clear hc1 hc4 hx
                go_wp2
                go_quiet (fail)
                go_wp2
                go_roundg (m + 1 - (k2 + 1))
                case measure => rw [HG3.out]; omega
                case rel => exact ⟨k2 + 1, _, rfl, by omega, by go_num, rfl⟩
              · have tk2 : ¬ (k2 : Int) < (m : Int) + 1 := by omega
                go_wp2
                go_ret
                exact ⟨rfl, below_drewN HBF.out q2⟩
end Go.Proofs.Ybulkctmm.MW
