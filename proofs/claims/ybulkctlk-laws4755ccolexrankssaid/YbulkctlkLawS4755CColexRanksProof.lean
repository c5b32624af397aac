import Derived.Test.YbulkctlkCTable
import Derived.Test.YbulkctlkCNumber
import Derived.Test.YbulkctlkCColex
import Derived.WalkSpells
import Derived.Deep.LoopGhost
import Derived.OpenShut
import Derived.ShutString
import Derived.ChangeOld
namespace Go.Proofs.Ybulkctlk.CXL
open Go.ChangeShapes Go.WideShapes Go.ChangeAt Go.RowKit Go.Proofs.Ybulkctlk.CP Go.Proofs.Ybulkctlk.CT Go.Proofs.Ybulkctlk.CX
set_option linter.unusedVariables false

/-- As cells. -/
def vals (l : List Nat) : List Value := l.map fun (x : Nat) => .int .i64 (x : Int)
theorem vals_get (l : List Nat) (i : Nat) (h : i < l.length) : (vals l)[i]? = some (.int .i64 (l.getD i 0 : Nat)) := by
  unfold vals; rw [List.getElem?_map, List.getElem?_eq_getElem h, List.getD_eq_getElem?_getD, List.getElem?_eq_getElem h]; rfl

/-- 'set[:0]' owns nothing, its room is the same. -/
theorem owns_zero {w : World} {base e g n cap : Nat} {xs : List Value} (h : w.ownsRow base e 1 (.slice (some ⟨g, 0, none⟩) n cap) n xs) : w.ownsRow base e 1 (.slice (some ⟨g, 0, none⟩) 0 cap) 0 [] := by
  refine ⟨rfl, ?_⟩
  rcases h.2 with ⟨h', _⟩ | ⟨g', cap', cur, h', hb, hg, hnc, hcm, hcs, htake⟩
  · simp at h'
  · simp only [Value.slice.injEq, Option.some.injEq, Addr.mk.injEq, and_true, true_and] at h'
    obtain ⟨rfl, rfl⟩ := h'
    exact .inr ⟨_, _, cur, rfl, hb, hg, Nat.zero_le _, hcm, hcs, by simp⟩

theorem i64_and1 (n : Int) : bits .and .i64 n 1 = n % 2 := by
  have h1 : (BitVec.ofInt 64 1).toNat = 1 := by decide
  have key : (BitVec.ofInt 64 n &&& BitVec.ofInt 64 1).toNat = (n % ((2 ^ 64 : Nat) : Int)).toNat % 2 := by
    rw [BitVec.toNat_and, BitVec.toNat_ofInt, h1, Nat.and_one_is_mod]
  show IntKind.i64.wrap ((BitVec.ofInt 64 n &&& BitVec.ofInt 64 1).toNat : Nat) = n % 2
  rw [key, IntKind.wrap_i64]
  omega

theorem test_bit (mm p : Nat) : (bits BinOp.and IntKind.i64 ((mm : Int) / 2 ^ p) 1 == 1) = bitB mm p := by
  have e : (mm : Int) / 2 ^ p = ((mm / 2 ^ p : Nat) : Int) := by rw [Int.natCast_ediv, Int.natCast_pow]; rfl
  rw [e, i64_and1]
  unfold bitB
  generalize mm / 2 ^ p = x
  rw [Bool.eq_iff_iff]
  simp; omega

theorem pow_le (k : Nat) (h : k ≤ 12) : 2 ^ k ≤ 4096 := by
  have : 2 ^ k ≤ 2 ^ 12 := Nat.pow_le_pow_right (by omega) h
  exact this

set_option maxRecDepth 100000 in
set_option maxHeartbeats 2000000 in
theorem walk (a0 a1 : Int) (w0 : (Lit.int .u8 a0).wf = true) (w1 : (Lit.int .u8 a1).wf = true) (w : World) :
    Calls Yba.prog 7 #[.int .u8 a0, .int .u8 a1] w fun e w' => e = .returned (.bool true) ∧ Below w.heap.size w w' := by
  obtain ⟨i0, hi, hz0, hz1, hz2⟩ := info_parts CT.info3
  have b0 : 0 ≤ a0 ∧ a0 ≤ 255 := by simpa [Lit.wf, IntKind.min, IntKind.max, IntKind.bits, IntKind.signed] using w0
  have b1 : 0 ≤ a1 ∧ a1 ≤ 255 := by simpa [Lit.wf, IntKind.min, IntKind.max, IntKind.bits, IntKind.signed] using w1
  obtain ⟨p0, q0⟩ := b0
  obtain ⟨p1, q1⟩ := b1
  clear w0 w1
  obtain ⟨k, hk⟩ : ∃ k : Nat, a0 % 13 = (k : Int) := ⟨(a0 % 13).toNat, by omega⟩
  have hk12 : k ≤ 12 := by omega
  have hm1 : 0 ≤ a1 % ((k : Int) + 1) := Int.emod_nonneg _ (by omega)
  have hm2 : a1 % ((k : Int) + 1) < (k : Int) + 1 := Int.emod_lt_of_pos _ (by omega)
  obtain ⟨m, hm⟩ : ∃ m : Nat, a1 % ((k : Int) + 1) = (m : Int) := ⟨(a1 % ((k : Int) + 1)).toNat, by omega⟩
  have hmk : m ≤ k := by omega
  go_enter Yba.func7, Yba.ntmps7
  go_wp2_with fail
  refine (new_any k m w hmk (by omega)).mono ?_
  rintro e w3 ⟨b, gB, capB, gF, capF, gs, parts, rfl, hI⟩
  have ht : Hid (Tab w3 b k m) := hI.tab
  have hb3 : Below w.heap.size w w3 := hI.below
  clear hI hm1 hm2
  go_wp2_with fail
  clear hk hm
  have hb4 : Below w3.heap.size w3 (w3.alloc (.cells #[] 3)) := (Below.refl _ _).alloc (Nat.le_refl _) _
  refine (number_any b k m w3.heap.size 0 [] _ (by omega) hmk (ht.out.below hb4) (by simp) (by simp) (by simp)).mono ?_
  rintro e w4 ⟨rfl, rfl⟩
  have e0 : (((F k ([] : List Nat).length + rk 0 [] : Nat) : Int)) = 0 := rfl
  rw [e0]
  obtain ⟨w4, hw4⟩ : ∃ w4, w3.alloc (.cells #[] 3) = w4 := ⟨_, rfl⟩
  rw [hw4] at hb4
  have ht4 : Hid (Tab w4 b k m) := ht.out.below hb4
  have hb5 : Below w.heap.size w w4 := hb3.trans (hb4.mono hb3.size)
  rw [hw4]
  clear hw4 e0 ht hb3 hb4
  go_wp2_with (at_make; refine wpList_make_own _ rfl _ _ 30 rfl w4.heap.size 3 i0 _ 1 Yba.underlying30 hi hz0 hz1 .i64 .i64 _ k rfl rfl (by omega) ?c1 ?c2 ?c3 ?_)
  case c1 => rw [hz2]; omega
  case c2 => unfold maxLen; omega
  case c3 => exact Nat.le_refl _
  intro w5 hown hgrow
  have hb6 : Below w4.heap.size w4 w5 := (Below.refl _ _).grown hgrow (Nat.le_refl _) (by simp)
  clear hgrow
  obtain ⟨T, hTd⟩ : ∃ T, T = 2 ^ k := ⟨_, rfl⟩
  have hT : T ≤ 4096 := by rw [hTd]; exact pow_le k hk12
  have hTw : wrap64 ((2 : Int) ^ k) = (T : Int) := by
    have e : (2 : Int) ^ k = (T : Int) := by rw [hTd, Int.natCast_pow]; rfl
    rw [e]; unfold wrap64; omega
  have HT : Hid (T = 2 ^ k) := hTd
  have HTW : Hid (wrap64 ((2 : Int) ^ k) = (T : Int)) := hTw
  clear hTd hTw
  go_wp2
  go_loopg [8, 9, 10] m (fun g v st i wr => ∃ (s ℓ : Nat) (xs : List Value), 1 ≤ s ∧ s ≤ m + 1 ∧ g = m + 1 - s ∧ i = .int .i64 s ∧ v = .int .i64 (F k s) ∧ st = .slice (some ⟨w4.heap.size, 0, none⟩) ℓ k ∧
      wr.ownsRow w4.heap.size 3 1 (.slice (some ⟨w4.heap.size, 0, none⟩) ℓ k) ℓ xs ∧ Below w4.heap.size w4 wr)
  case atStart => exact ⟨1, 0, [], by omega, by omega, by omega, rfl, rfl, rfl, hown, hb6⟩
  case round =>
    clear hown hb6
    obtain ⟨s, ℓ, xs, hs1, hsm, hg, rfl, rfl, rfl, hown, hbr⟩ := hrel
    have HG : Hid (gk = m + 1 - s) := hg
    clear hg
    by_cases hlt : s ≤ m
    · go_wp2
      have hFs := F_le k (by omega) s
      go_loopg [8, 9, 11] (T) (fun g v st i wr => ∃ (M ℓ V : Nat) (xs : List Value), M ≤ T ∧ g = T - M ∧ i = .int .i64 M ∧ V = F k s + cnt k s M ∧ v = .int .i64 V ∧ st = .slice (some ⟨w4.heap.size, 0, none⟩) ℓ k ∧
          wr.ownsRow w4.heap.size 3 1 (.slice (some ⟨w4.heap.size, 0, none⟩) ℓ k) ℓ xs ∧ Below w4.heap.size w4 wr)
      case atStart => exact ⟨0, ℓ, F k s, xs, by omega, by omega, rfl, rfl, rfl, rfl, hown, hbr⟩
      case round =>
        clear hown hbr
        obtain ⟨M, ℓ2, V, ys, hM, hg, rfl, hV, rfl, rfl, hown, hbr⟩ := hrel
        have HG2 : Hid (gk = T - M) := hg
        have HV : Hid (V = F k s + cnt k s M) := hV
        have hcM := cnt_le k s M
        have hVb : V ≤ 1 + s * 1048576 + M := by omega
        clear hg hV hcM
        by_cases hlt2 : M < T
        · have hTw := HTW.out
          go_wp2
          have how0 := owns_zero hown
          rw [hTw]
          clear hTw
          go_loopg [9, 12] k (fun g st i wr => ∃ p : Nat, p ≤ k ∧ g = k - p ∧ i = .int .i64 p ∧ st = .slice (some ⟨w4.heap.size, 0, none⟩) (S M p).length k ∧
              wr.ownsRow w4.heap.size 3 1 (.slice (some ⟨w4.heap.size, 0, none⟩) (S M p).length k) (S M p).length (vals (S M p)) ∧ Below w4.heap.size w4 wr)
          case atStart => exact ⟨0, by omega, by omega, rfl, rfl, how0, hbr⟩
          case round =>
            clear how0 hown hbr
            obtain ⟨p, hp, hg, rfl, rfl, hown, hbr⟩ := hrel
            have HG3 : Hid (gk = k - p) := hg
            clear hg
            by_cases hlt3 : p < k
            · have hsl := S_len M p
              have hss := S_succ M p
              have htb := test_bit M p
              by_cases hbit : bitB M p = true
              · rw [hbit] at htb
                rw [if_pos hbit] at hss
                have HS : Hid (S M (p + 1) = S M p ++ [p]) := hss
                have HO : Hid (wr.ownsRow w4.heap.size 3 1 (.slice (some ⟨w4.heap.size, 0, none⟩) (S M p).length k) (S M p).length (vals (S M p))) := hown
                clear hss hown hbit
                go_wp2_with (at_builtin; refine wpList_append_fits _ rfl _ _ 30 rfl w4.heap.size 3 i0 1 Yba.underlying30 hi hz1 w4.heap.size (S M p).length k (vals (S M p)) rfl (HO.out.alloc _) ⟨wr.heap.size, 0, none⟩ 1 1 [.int .i64 (p : Int)] rfl rfl (cell_one_new _ _ _) (by simp [Value.oneCell']) (by omega) ?_)
                intro w2 hown2 hgrow2
                have hb2 : Below w4.heap.size w4 w2 := (hbr.alloc hbr.size _).grown hgrow2 (by have := hbr.size; simp; omega) (by simp)
                clear HO hgrow2 hbr
                go_wp2
                go_roundg (k - (p + 1))
                case measure => rw [HG3.out]; omega
                case rel =>
                  refine ⟨p + 1, by omega, rfl, by go_num, ?_, ?_, hb2⟩
                  · rw [HS.out]; simp
                  · rw [HS.out]; simpa [vals] using hown2
              · have hbit' : bitB M p = false := by simpa using hbit
                rw [hbit'] at htb
                rw [if_neg hbit, List.append_nil] at hss
                have HS : Hid (S M (p + 1) = S M p) := hss
                clear hss hbit hbit'
                go_wp2
                go_roundg (k - (p + 1))
                case measure => rw [HG3.out]; omega
                case rel => exact ⟨p + 1, by omega, rfl, by go_num, by rw [HS.out], by rw [HS.out]; exact hown, hbr⟩
            · have hpe : p = k := by omega
              subst hpe
              have hsl := S_len M p
              have hmem := S_lt M p
              have hst : ∀ i, i < (S M p).length → wr.cell? ⟨w4.heap.size, i, none⟩ = some (.int .i64 ((S M p).getD i 0 : Nat)) := fun i hi => by
                rw [hown.cellAt i (by omega), vals_get _ _ hi]
              have hrk : cnt p (S M p).length M = rk 0 (S M p) := cnt_rank p M (by rw [← HT.out]; exact hlt2)
              have hcs : cnt p s (M + 1) = cnt p s M + (if (S M p).length = s then 1 else 0) := rfl
              have HST : Hid (∀ i, i < (S M p).length → wr.cell? ⟨w4.heap.size, i, none⟩ = some (.int .i64 ((S M p).getD i 0 : Nat))) := hst
              have HO : Hid (wr.ownsRow w4.heap.size 3 1 (.slice (some ⟨w4.heap.size, 0, none⟩) (S M p).length p) (S M p).length (vals (S M p))) := hown
              have HM : Hid (∀ q ∈ S M p, q < p) := hmem
              clear hst hown hmem
              by_cases hsz : (S M p).length = s
              · have hnb : (((S M p).length : Int) != (s : Int)) = false := by simp [hsz]
                rw [if_pos hsz] at hcs
                rw [hsz] at hrk
                have HRK : Hid (cnt p s M = rk 0 (S M p)) := hrk
                have HCS : Hid (cnt p s (M + 1) = cnt p s M + 1) := hcs
                have HSZ : Hid ((S M p).length = s) := hsz
                have hVV : ((V : Int) != (V : Int)) = false := by simp
                clear hrk hcs hsz
                go_wp2_with fail
                have hnum := number_any b p m w4.heap.size p (S M p) wr (by omega) hmk (ht4.out.below hbr) (by rw [HSZ.out]; exact hlt) (fun q hq => Nat.le_of_lt (HM.out q hq)) HST.out
                rw [show F p (S M p).length + rk 0 (S M p) = V from by rw [HSZ.out, HV.out, HRK.out]] at hnum
                refine hnum.mono ?_
                clear hnum
                rintro e w' ⟨rfl, rfl⟩
                go_wp2
                go_roundg (T - (M + 1))
                case measure => rw [HG2.out]; omega
                case rel => exact ⟨M + 1, _, V + 1, _, by omega, rfl, by go_num, by rw [HCS.out, HV.out]; omega, by go_num, rfl, HO.out, hbr⟩
              · have hnb : (((S M p).length : Int) != (s : Int)) = true := by simp; omega
                rw [if_neg hsz] at hcs
                have HCS : Hid (cnt p s (M + 1) = cnt p s M + 0) := hcs
                clear hrk hcs hsz
                go_wp2
                go_roundg (T - (M + 1))
                case measure => rw [HG2.out]; omega
                case rel => exact ⟨M + 1, _, V, _, by omega, rfl, by go_num, by rw [HCS.out, HV.out]; rfl, rfl, rfl, HO.out, hbr⟩
        · have hMe : M = T := by omega
          have HF : Hid (F k (s + 1) = V) := by
            obtain ⟨s', rfl⟩ : ∃ s', s = s' + 1 := ⟨s - 1, by omega⟩
            have := F_two k s'
            have h2 := HV.out
            rw [hMe, HT.out, cnt_all] at h2
            exact this.trans h2.symm
          have hnl : ¬ (M : Int) < (T : Int) := by omega
          have hTw := HTW.out
          clear hMe
          go_wp2
          go_roundg (m + 1 - (s + 1))
          case measure => rw [HG.out]; omega
          case rel => exact ⟨s + 1, _, _, by omega, by omega, rfl, by go_num, by rw [HF.out], rfl, hown, hbr⟩
    · have hse : s = m + 1 := by omega
      subst hse
      have hFF : ((F k (m + 1) : Int) == (F k (m + 1) : Int)) = true := by simp
      go_wp2_with fail
      refine (sets_any b k m _ (by omega) (ht4.out.below hbr)).mono ?_
      rintro e w' ⟨rfl, nq, rfl⟩
      go_wp2
      go_ret
      exact ⟨rfl, below_drewN (hb5.trans (hbr.mono hb5.size)) nq⟩

theorem own : ownKnob Yba.prog.godebug = none := by kernel_rfl

/-! ### THE ROW's STEP: WRITTEN OUT: LEAVE IT -/
set_option maxRecDepth 100000 in
theorem lifted (os : Os) (started : os.Started) (H : Type) (enc : TypeId × Value → H) :
    ReturnsInHanded {} Yba.checked os 7 .any (Rows.lawS4755CColexRanksSpec.pre6 enc Yba.prog Yba.f7 Rows.lawS4755CColexRanksRow.domain false) (Rows.lawS4755CColexRanksSpec.post enc Yba.prog Yba.f7 false true false false) := by
  refine returnsInHanded_of_change (C := Yba.checked) own started (by kernel_rfl) Yba.func7
    (ChangeSpec.witness6 (enc := enc) (C := Yba.checked) false ⟨#[], #[.int .u8 0, .int .u8 0], []⟩ 8 (by kernel_rfl) (by kernel_rfl) (by kernel_rfl) (by kernel_rfl)) ?_
  intro W base args ds gs before hval0 hW hcnd _
  have hval : ∀ (j : Nat) t v, Yba.f7.params[j]? = some t → args[j]? = some v → Value.okWide Yba.prog W .any base t v := hval0
  have hW' := hW
  obtain ⟨p, q, hA0, hV, rfl, hfz, hnd⟩ := hW
  have hA : DataW.TrodAll enc Yba.prog W 0 (fun _ => true) true Yba.f7.params.toList args.toList ds p := hA0
  rw [Yba.params7] at hA hval
  obtain ⟨v0, vs0, d0, ds0, p0, q0, hargs, rfl, rfl, h0, r0⟩ := trodAll_cons hA
  obtain ⟨v1, vs1, d1, ds1, p1, q1, rfl, rfl, rfl, h1, r1⟩ := trodAll_cons r0
  obtain ⟨rfl, rfl, rfl⟩ := trodAll_nil r1
  obtain rfl : args = #[v0, v1] := by cases args; simp_all
  obtain ⟨rfl, rfl⟩ := trodVars_none hV
  obtain ⟨a0, rfl, rfl, rfl, w0⟩ := open_int Yba.underlying5 (hval 0 5 v0 rfl rfl) h0
  obtain ⟨a1, rfl, rfl, rfl, w1⟩ := open_int Yba.underlying5 (hval 1 5 v1 rfl rfl) h1
  clear hA0 hval0
  simp only [List.append_nil] at hW'
  refine (walk a0 a1 w0 w1 W).mono fun e W' ⟨he, bel⟩ => ?_
  subst he
  exact ⟨_, rfl, _, _, _, [], _, [], hW', trodAll_mk1 (shut_bool Yba.underlying4 _), (trodAll_cons_mk (shut_int Yba.underlying5 w0) (trodAll_cons_mk (shut_int Yba.underlying5 w1) trodAll_mk0)), rfl, bel.frame _, fun h => by cases h⟩

theorem over : Rows.lawS4755CColexRanksRow.holds Yba.pinned (OpenSpec.ofChange Rows.lawS4755CColexRanksSpec) :=
  OpenClaim.holds_of_wide 7 Yba.f7 rfl rfl rfl rfl rfl rfl rfl ⟨rfl, rfl, rfl, rfl, rfl⟩ rfl rfl rfl rfl rfl (by kernel_rfl) Yba.func7 (by kernel_rfl)
    (of_decide_eq_true (by kernel_rfl)) (by unfold Func.isWrapper; first | (rw [if_pos (by decide +kernel)]; kernel_rfl) | (rw [if_neg (by decide +kernel)]; exact ⟨rfl, rfl⟩))
    (fun os started H enc _ => lifted os started H enc)

end Go.Proofs.Ybulkctlk.CXL
namespace Go.Proofs.Ybulkctlk
/-- THE STATEMENT -/
theorem lawS4755CColexRanks_proved : Rows.LawS4755CColexRanksSaid := CXL.over
end Go.Proofs.Ybulkctlk
