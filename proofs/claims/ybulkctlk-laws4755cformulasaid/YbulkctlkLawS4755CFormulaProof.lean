import Derived.Test.YbulkctlkCTable
import Derived.Test.YbulkctlkCNumber
import Derived.WalkSpells
import Derived.Deep.DeepCutAuto
import Derived.OpenShut
import Derived.ShutString
import Derived.ChangeOld
namespace Go.Proofs.Ybulkctlk.CF
open Go.ChangeShapes Go.WideShapes Go.ChangeAt Go.RowKit Go.Proofs.Ybulkctlk.CP Go.Proofs.Ybulkctlk.CT
set_option linter.unusedVariables false

/-- Is part p in the mask? -/
def bitB (mm p : Nat) : Bool := mm / 2 ^ p % 2 == 1
/-- The parts below p that are in the mask. -/
def S (mm p : Nat) : List Nat := (List.range p).filter (bitB mm)
theorem S_succ (mm p : Nat) : S mm (p + 1) = S mm p ++ (if bitB mm p = true then [p] else []) := by
  unfold S; rw [List.range_succ, List.filter_append]
  by_cases h : bitB mm p = true <;> simp [h]
theorem S_len (mm p : Nat) : (S mm p).length ≤ p := by
  unfold S; have := List.length_filter_le (bitB mm) (List.range p); simpa using this
theorem S_lt (mm p : Nat) : ∀ q ∈ S mm p, q < p := fun q hq => by
  unfold S at hq; exact List.mem_range.1 (List.mem_filter.1 hq).1
theorem S_pre (mm : Nat) : ∀ (d p : Nat), ∃ t, S mm (p + d) = S mm p ++ t
  | 0, p => ⟨[], by simp⟩
  | d + 1, p => by
    obtain ⟨t, ht⟩ := S_pre mm d p
    exact ⟨t ++ _, by rw [← Nat.add_assoc, S_succ, ht, List.append_assoc]⟩
theorem S_at (mm k p : Nat) (hp : p < k) (hb : bitB mm p = true) : (S mm k).getD (S mm p).length 0 = p ∧ (S mm p).length < (S mm k).length := by
  obtain ⟨t, ht⟩ := S_pre mm (k - (p + 1)) (p + 1)
  rw [show p + 1 + (k - (p + 1)) = k from by omega, S_succ, if_pos hb] at ht
  rw [ht]
  constructor
  · simp [List.getD_eq_getElem?_getD]
  · simp
/-- As cells. -/
def vals (l : List Nat) : List Value := l.map fun (x : Nat) => .int .i64 (x : Int)
theorem vals_get (l : List Nat) (i : Nat) (h : i < l.length) : (vals l)[i]? = some (.int .i64 (l.getD i 0 : Nat)) := by
  unfold vals; rw [List.getElem?_map, List.getElem?_eq_getElem h, List.getD_eq_getElem?_getD, List.getElem?_eq_getElem h]; rfl

theorem mask_form (a1 : Int) (kk : Nat) : ∃ mm : Nat, bits BinOp.and IntKind.u32 a1 ((2 ^ kk - 1) % 4294967296) = (mm : Int) ∧ mm ≤ 4294967295 := by
  have h := wf_bits .and .u32 a1 ((2 ^ kk - 1) % 4294967296)
  have hb : 0 ≤ bits BinOp.and IntKind.u32 a1 ((2 ^ kk - 1) % 4294967296) ∧ bits BinOp.and IntKind.u32 a1 ((2 ^ kk - 1) % 4294967296) ≤ 4294967295 := by
    simpa [Lit.wf, IntKind.min, IntKind.max, IntKind.bits, IntKind.signed] using h
  exact ⟨(bits BinOp.and IntKind.u32 a1 ((2 ^ kk - 1) % 4294967296)).toNat, by omega, by omega⟩

theorem test_bit (mm p : Nat) (h : mm ≤ 4294967295) : (bits BinOp.and IntKind.u32 ((mm : Int) / 2 ^ p) 1 == 1) = bitB mm p := by
  have e : (mm : Int) / 2 ^ p = ((mm / 2 ^ p : Nat) : Int) := by rw [Int.natCast_ediv, Int.natCast_pow]; rfl
  have hle : mm / 2 ^ p ≤ mm := Nat.div_le_self _ _
  have h1 := u32_and_nat (mm / 2 ^ p) 1 (by omega) (by omega)
  rw [e]
  rw [show ((1 : Nat) : Int) = 1 from rfl] at h1
  rw [h1, Nat.and_one_is_mod]
  unfold bitB
  generalize mm / 2 ^ p % 2 = x
  rw [Bool.eq_iff_iff]
  simp; omega

set_option maxRecDepth 100000 in
set_option maxHeartbeats 1000000 in
theorem walk (a0 a1 a2 : Int) (w0 : (Lit.int .u8 a0).wf = true) (w1 : (Lit.int .u32 a1).wf = true) (w2 : (Lit.int .u8 a2).wf = true) (w : World) :
    Calls Yba.prog 8 #[.int .u8 a0, .int .u32 a1, .int .u8 a2] w fun e w' => e = .returned (.bool true) ∧ Below w.heap.size w w' := by
  obtain ⟨i0, hi, hz0, hz1, hz2⟩ := info_parts CT.info3
  have b0 : 0 ≤ a0 ∧ a0 ≤ 255 := by simpa [Lit.wf, IntKind.min, IntKind.max, IntKind.bits, IntKind.signed] using w0
  have b1 : 0 ≤ a1 ∧ a1 ≤ 4294967295 := by simpa [Lit.wf, IntKind.min, IntKind.max, IntKind.bits, IntKind.signed] using w1
  have b2 : 0 ≤ a2 ∧ a2 ≤ 255 := by simpa [Lit.wf, IntKind.min, IntKind.max, IntKind.bits, IntKind.signed] using w2
  obtain ⟨p0, q0⟩ := b0
  obtain ⟨p1, q1⟩ := b1
  obtain ⟨p2, q2⟩ := b2
  clear w0 w1 w2
  obtain ⟨kk, hkk⟩ : ∃ kk : Nat, a0 % 21 = (kk : Int) := ⟨(a0 % 21).toNat, by omega⟩
  have hk20 : kk ≤ 20 := by omega
  obtain ⟨mm, hmm, hm32⟩ := mask_form a1 kk
  go_enter Yba.func8, Yba.ntmps8
  go_wp2_with (at_make; refine wpList_make_own _ rfl _ _ 30 rfl w.heap.size 3 i0 _ 1 Yba.underlying30 hi hz0 hz1 .i64 .i64 _ kk rfl rfl (by omega) ?c1 ?c2 ?c3 ?_)
  case c1 => rw [hz2]; omega
  case c2 => unfold maxLen; omega
  case c3 => exact Nat.le_refl _
  intro w1 hown hgrow
  have hb1 : Below w.heap.size w w1 := (Below.refl _ _).grown hgrow (Nat.le_refl _) (by simp)
  clear hkk hmm
  go_wp2
  go_loopw [9, 10] (fun v i wr => ∃ p : Nat, p ≤ kk ∧ i = .int .i64 p ∧ v = .slice (some ⟨w.heap.size, 0, none⟩) (S mm p).length kk ∧
      wr.ownsRow w.heap.size 3 1 (.slice (some ⟨w.heap.size, 0, none⟩) (S mm p).length kk) (S mm p).length (vals (S mm p)) ∧ Below w.heap.size w wr) (fun _ i _ => kk - (intOf i).toNat)
  case atStart => exact ⟨0, by omega, rfl, rfl, hown, hb1⟩
  case round =>
    clear hown hgrow hb1
    obtain ⟨p, hp, rfl, rfl, hown, hbr⟩ := hrel
    by_cases hlt : p < kk
    · have hsl := S_len mm p
      have hss := S_succ mm p
      have htb := test_bit mm p hm32
      by_cases hbit : bitB mm p = true
      · rw [hbit] at htb
        rw [if_pos hbit] at hss
        have HS : Hid (S mm (p + 1) = S mm p ++ [p]) := hss
        have HO : Hid (wr.ownsRow w.heap.size 3 1 (.slice (some ⟨w.heap.size, 0, none⟩) (S mm p).length kk) (S mm p).length (vals (S mm p))) := hown
        clear hss hown hbit
        go_wp2_with (at_builtin; refine wpList_append_fits _ rfl _ _ 30 rfl w.heap.size 3 i0 1 Yba.underlying30 hi hz1 w.heap.size (S mm p).length kk (vals (S mm p)) rfl (HO.out.alloc _) ⟨wr.heap.size, 0, none⟩ 1 1 [.int .i64 (p : Int)] rfl rfl (cell_one_new _ _ _) (by simp [Value.oneCell']) (by omega) ?_)
        intro w2 hown2 hgrow2
        have hb2 : Below w.heap.size w w2 := (hbr.alloc hbr.size _).grown hgrow2 (by have := hbr.size; simp; omega) (by simp)
        clear HO hgrow2 hbr
        go_wp2
        go_roundw
        case rel =>
          refine ⟨p + 1, by omega, by go_num, ?_, ?_, hb2⟩
          · rw [HS.out]; simp
          · rw [HS.out]; simpa [vals] using hown2
        case measure => simp [intOf]; omega
      · have hbit' : bitB mm p = false := by simpa using hbit
        rw [hbit'] at htb
        rw [if_neg hbit, List.append_nil] at hss
        have HS : Hid (S mm (p + 1) = S mm p) := hss
        clear hss hbit hbit'
        go_wp2
        go_roundw
        case rel => exact ⟨p + 1, by omega, by go_num, by rw [HS.out], by rw [HS.out]; exact hown, hbr⟩
        case measure => simp [intOf]; omega
    · have hpe : p = kk := by omega
      subst hpe
      have hsz := S_len mm p
      have hmem := S_lt mm p
      have hset : ∀ i, i < (S mm p).length → wr.cell? ⟨w.heap.size, i, none⟩ = some (.int .i64 ((S mm p).getD i 0 : Nat)) := fun i hi => by
        rw [hown.cellAt i (by omega), vals_get _ _ hi]
      obtain ⟨L, hL⟩ : ∃ L, S mm p = L := ⟨_, rfl⟩
      rw [hL] at hset hmem hsz
      rw [hL]
      obtain ⟨n, hn⟩ : ∃ n, L.length = n := ⟨_, rfl⟩
      rw [hn] at hset hsz
      rw [hn]
      have hq1 : 0 ≤ a2 % ((p : Int) - (n : Int) + 1) := Int.emod_nonneg _ (by omega)
      have hq2 : a2 % ((p : Int) - (n : Int) + 1) < (p : Int) - (n : Int) + 1 := Int.emod_lt_of_pos _ (by omega)
      obtain ⟨m, hm⟩ : ∃ m : Nat, (n : Int) + a2 % ((p : Int) - (n : Int) + 1) = (m : Int) := ⟨((n : Int) + a2 % ((p : Int) - (n : Int) + 1)).toNat, by omega⟩
      have hmp : m ≤ p := by omega
      have hml : n ≤ m := by omega
      have HM : Hid (∀ q ∈ L, q < p) := hmem
      have HL : Hid (S mm p = L) := hL
      have hlt0 : w.heap.size < wr.heap.size := (hown.lt _ rfl).2
      have HSET : Hid (∀ i, i < n → wr.cell? ⟨w.heap.size, i, none⟩ = some (.int .i64 (L.getD i 0 : Nat))) := hset
      have HN : Hid (L.length = n) := hn
      clear hmem hset hL hown hn
      go_wp2_with fail
      refine (new_any p m wr hmp hk20).mono ?_
      rintro e w3 ⟨b, gB, capB, gF, capF, gs, parts, rfl, hI⟩
      have ht : Hid (Tab w3 b p m) := hI.tab
      have hb3 : Below w.heap.size w w3 := hbr.trans (hI.below.mono (by omega))
      have HSET3 : Hid (∀ i, i < n → w3.cell? ⟨w.heap.size, i, none⟩ = some (.int .i64 (L.getD i 0 : Nat))) := fun i hi => (hI.below.cell hlt0).trans (HSET.out i hi)
      clear hI HSET hbr hm hq1 hq2
      go_upto_if 62 with fail
      go_cut [14] (fun v wc => v = .int .i64 (F p n) ∧ wc = w3)
      case first =>
        by_cases hL0 : n = 0
        · have e0 : ¬ (0 : Int) < (n : Int) := by omega
          have HL0 : Hid (n = 0) := hL0
          clear hL0
          go_wp2
          go_meet
          case rel => exact ⟨by rw [HL0.out]; rfl, rfl⟩
        · have e0 : (0 : Int) < (n : Int) := by omega
          go_wp2
          rw [show decide (0 < n) = true from decide_eq_true (by omega)]
          go_loopg [14, 15] (n - 1) (fun g v i wx => wx = w3 ∧ ∃ s : Nat, 1 ≤ s ∧ s ≤ n ∧ g = n - s ∧ i = .int .i64 s ∧ v = .int .i64 (F p s))
          case atStart => exact ⟨rfl, 1, by omega, by omega, by omega, rfl, rfl⟩
          case round =>
            obtain ⟨hwx, s, hs1, hsn, hg, rfl, rfl⟩ := hrel
            have HG : Hid (gk = n - s) := hg
            subst hwx
            clear hg
            by_cases hlt : s < n
            · have hFs := F_le p hk20 s
              have hCs := C_le20 p s hk20
              have HF : Hid (F p (s + 1) = F p s + C p s) := by
                obtain ⟨s', rfl⟩ : ∃ s', s = s' + 1 := ⟨s - 1, by omega⟩
                exact F_two p s'
              go_wp2_with (go_at_call 16; refine (binom_any p s _ hk20).mono ?_; rintro e w' ⟨rfl, rfl⟩)
              go_roundg (n - (s + 1))
              case measure => rw [HG.out]; omega
              case rel => exact ⟨rfl, s + 1, by omega, by omega, rfl, by go_num, by rw [HF.out]; go_num⟩
            · have HE : Hid (s = n) := by
                have : s = n := by omega
                exact this
              go_wp2
              go_meet
              case rel => exact ⟨by rw [HE.out], rfl⟩
      case rest =>
        obtain ⟨rfl, rfl⟩ := hcut
        have hFn := F_le p hk20 n
        go_wp2
        go_loopg [14, 16] n (fun g v i wx => wx = wc ∧ ∃ j : Nat, j ≤ n ∧ g = n - j ∧ i = .int .i64 j ∧ v = .int .i64 ((F p n + rk 0 (L.take j) : Nat) : Int))
        case atStart => exact ⟨rfl, 0, by omega, by omega, rfl, by simp [rk]⟩
        case round =>
          obtain ⟨hwx, j, hj, hg, rfl, rfl⟩ := hrel
          have HG : Hid (gk = n - j) := hg
          subst hwx
          clear hg
          by_cases hlt : j < n
          · have hjl : j < L.length := by rw [HN.out]; exact hlt
            have cs := HSET3.out j hlt
            have hq20 : L.getD j 0 < p := HM.out _ (by rw [List.getD_eq_getElem?_getD, List.getElem?_eq_getElem hjl]; exact List.getElem_mem _)
            have hst := rk_step L j hjl
            have hrl := rk_le 0 (L.take j) (fun q hq => by have := HM.out q (List.mem_of_mem_take hq); omega)
            have htl : (L.take j).length ≤ 20 := by rw [List.length_take]; omega
            obtain ⟨q, hq⟩ : ∃ q, q = L.getD j 0 := ⟨_, rfl⟩
            rw [← hq] at cs hq20 hst
            have hCl := C_le20 q (j + 1) (by omega)
            have HS : Hid (rk 0 (L.take (j + 1)) = rk 0 (L.take j) + C q (j + 1)) := hst
            obtain ⟨R, hR⟩ : ∃ R, rk 0 (L.take j) = R := ⟨_, rfl⟩
            have hR2 : R ≤ 20971520 := by
              have : (L.take j).length * 1048576 ≤ 20 * 1048576 := Nat.mul_le_mul_right _ htl
              omega
            rw [hR]
            have HR : Hid (rk 0 (L.take j) = R) := hR
            clear hq hst hrl hR htl hjl
            go_wp2_with fail
            rw [show ((j : Int) + 1) = ((j + 1 : Nat) : Int) from by omega]
            refine (binom_any q (j + 1) _ (by omega)).mono ?_
            rintro e w' ⟨rfl, rfl⟩
            go_wp2
            go_roundg (n - (j + 1))
            case measure => rw [HG.out]; omega
            case rel => exact ⟨rfl, j + 1, by omega, rfl, by go_num, by rw [HS.out, HR.out]; go_num⟩
          · have hjn : j = n := by omega
            subst hjn
            have e : L.take j = L := by rw [List.take_of_length_le (by rw [HN.out]; exact Nat.le_refl _)]
            rw [e]
            clear e
            obtain ⟨V, hV⟩ : ∃ V : Int, ((F p j + rk 0 L : Nat) : Int) = V := ⟨_, rfl⟩
            rw [hV]
            have HV : Hid (((F p j + rk 0 L : Nat) : Int) = V) := hV
            clear hV
            go_wp2_with fail
            have hnum := number_any b p m w.heap.size p L _ hk20 hmp ht.out (by rw [HN.out]; exact hml) (fun q hq => Nat.le_of_lt (HM.out q hq)) (fun i hi => HSET3.out i (by rw [← HN.out]; exact hi))
            rw [HN.out, HV.out] at hnum
            refine hnum.mono ?_
            clear hnum
            rintro e w' ⟨rfl, rfl⟩
            have hVV : (V != V) = false := by simp
            go_wp2
            obtain ⟨wo, rfl⟩ : ∃ wo : World, wo = w' := ⟨_, rfl⟩
            clear hVV HG
            go_loopg [17, 18] p (fun g c i wx => wx = wo ∧ ∃ q : Nat, q ≤ p ∧ g = p - q ∧ i = .int .i64 q ∧ c = .int .i64 (S mm q).length)
            case atStart => exact ⟨rfl, 0, by omega, by omega, rfl, rfl⟩
            case round =>
              obtain ⟨hwx, q, hq, hg, rfl, rfl⟩ := hrel
              have HG : Hid (gk = p - q) := hg
              subst hwx
              clear hg
              have hcl : (S mm q).length ≤ q := S_len mm q
              by_cases hlt : q < p
              · have htb := test_bit mm q hm32
                have hss := S_succ mm q
                by_cases hbit : bitB mm q = true
                · obtain ⟨t1, t2⟩ := S_at mm p q hlt hbit
                  rw [HL.out] at t1 t2
                  rw [HN.out] at t2
                  have cs := HSET3.out _ t2
                  rw [t1] at cs
                  rw [hbit] at htb
                  rw [if_pos hbit] at hss
                  have hc1 : (S mm (q + 1)).length = (S mm q).length + 1 := by rw [hss]; simp
                  have HC : Hid ((S mm (q + 1)).length = (S mm q).length + 1) := hc1
                  clear hss hbit t1 hc1
                  obtain ⟨c, hc⟩ : ∃ c, (S mm q).length = c := ⟨_, rfl⟩
                  rw [hc] at cs t2 HC hcl
                  rw [hc]
                  clear hc
                  go_wp2
                  go_roundg (p - (q + 1))
                  case measure => rw [HG.out]; omega
                  case rel => exact ⟨rfl, q + 1, by omega, rfl, by go_num, by rw [HC.out]; go_num⟩
                · have hbit' : bitB mm q = false := by simpa using hbit
                  rw [hbit'] at htb
                  rw [if_neg hbit, List.append_nil] at hss
                  have HC : Hid ((S mm (q + 1)).length = (S mm q).length) := by rw [hss]; exact rfl
                  clear hss hbit hbit'
                  go_wp2
                  go_roundg (p - (q + 1))
                  case measure => rw [HG.out]; omega
                  case rel => exact ⟨rfl, q + 1, by omega, rfl, by go_num, by rw [HC.out]⟩
              · have hqe : q = p := by omega
                subst hqe
                rw [HL.out, HN.out]
                go_wp2
                go_ret
                exact ⟨rfl, hb3⟩

theorem own : ownKnob Yba.prog.godebug = none := by kernel_rfl

/-! ### THE ROW's STEP: WRITTEN OUT: LEAVE IT -/
set_option maxRecDepth 100000 in
theorem lifted (os : Os) (started : os.Started) (H : Type) (enc : TypeId × Value → H) :
    ReturnsInHanded {} Yba.checked os 8 .any (Rows.lawS4755CFormulaSpec.pre6 enc Yba.prog Yba.f8 Rows.lawS4755CFormulaRow.domain false) (Rows.lawS4755CFormulaSpec.post enc Yba.prog Yba.f8 false true false false) := by
  refine returnsInHanded_of_change (C := Yba.checked) own started (by kernel_rfl) Yba.func8
    (ChangeSpec.witness6 (enc := enc) (C := Yba.checked) false ⟨#[], #[.int .u8 0, .int .u32 0, .int .u8 0], []⟩ 8 (by kernel_rfl) (by kernel_rfl) (by kernel_rfl) (by kernel_rfl)) ?_
  intro W base args ds gs before hval0 hW hcnd _
  have hval : ∀ (j : Nat) t v, Yba.f8.params[j]? = some t → args[j]? = some v → Value.okWide Yba.prog W .any base t v := hval0
  have hW' := hW
  obtain ⟨p, q, hA0, hV, rfl, hfz, hnd⟩ := hW
  have hA : DataW.TrodAll enc Yba.prog W 0 (fun _ => true) true Yba.f8.params.toList args.toList ds p := hA0
  rw [Yba.params8] at hA hval
  obtain ⟨v0, vs0, d0, ds0, p0, q0, hargs, rfl, rfl, h0, r0⟩ := trodAll_cons hA
  obtain ⟨v1, vs1, d1, ds1, p1, q1, rfl, rfl, rfl, h1, r1⟩ := trodAll_cons r0
  obtain ⟨v2, vs2, d2, ds2, p2, q2, rfl, rfl, rfl, h2, r2⟩ := trodAll_cons r1
  obtain ⟨rfl, rfl, rfl⟩ := trodAll_nil r2
  obtain rfl : args = #[v0, v1, v2] := by cases args; simp_all
  obtain ⟨rfl, rfl⟩ := trodVars_none hV
  obtain ⟨a0, rfl, rfl, rfl, w0⟩ := open_int Yba.underlying5 (hval 0 5 v0 rfl rfl) h0
  obtain ⟨a1, rfl, rfl, rfl, w1⟩ := open_int Yba.underlying47 (hval 1 47 v1 rfl rfl) h1
  obtain ⟨a2, rfl, rfl, rfl, w2⟩ := open_int Yba.underlying5 (hval 2 5 v2 rfl rfl) h2
  clear hA0 hval0
  simp only [List.append_nil] at hW'
  refine (walk a0 a1 a2 w0 w1 w2 W).mono fun e W' ⟨he, bel⟩ => ?_
  subst he
  exact ⟨_, rfl, _, _, _, [], _, [], hW', trodAll_mk1 (shut_bool Yba.underlying4 _), (trodAll_cons_mk (shut_int Yba.underlying5 w0) (trodAll_cons_mk (shut_int Yba.underlying47 w1) (trodAll_cons_mk (shut_int Yba.underlying5 w2) trodAll_mk0))), rfl, bel.frame _, fun h => by cases h⟩

theorem over : Rows.lawS4755CFormulaRow.holds Yba.pinned (OpenSpec.ofChange Rows.lawS4755CFormulaSpec) :=
  OpenClaim.holds_of_wide 8 Yba.f8 rfl rfl rfl rfl rfl rfl rfl ⟨rfl, rfl, rfl, rfl, rfl⟩ rfl rfl rfl rfl rfl (by kernel_rfl) Yba.func8 (by kernel_rfl)
    (of_decide_eq_true (by kernel_rfl)) (by unfold Func.isWrapper; first | (rw [if_pos (by decide +kernel)]; kernel_rfl) | (rw [if_neg (by decide +kernel)]; exact ⟨rfl, rfl⟩))
    (fun os started H enc _ => lifted os started H enc)

end Go.Proofs.Ybulkctlk.CF
namespace Go.Proofs.Ybulkctlk
/-- THE STATEMENT -/
theorem lawS4755CFormula_proved : Rows.LawS4755CFormulaSaid := CF.over
end Go.Proofs.Ybulkctlk
