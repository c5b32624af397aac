/- THE CONTRACTS OF 'zzs4756adec' (6), 'binary.Uvarint' (10), 'cutUvarint' (8). -/
import Derived.Test.YbulkctlyFmtRows
import Derived.Test.YbulkctlyFmtPlain
import Derived.WalkKit
import Derived.ProofKit
import Derived.WalkLawsBesides
import Derived.WalkSpells
import Derived.Below
import Derived.OpenShut
import Derived.Deep.LoopGhost
import Derived.Deep.QuietTactic
import Derived.BigQuiet
namespace Go.Proofs.YbulkctlyFmt.FV
open Go.ChangeShapes Go.WideShapes Go.ChangeAt Go.RowKit Go.Proofs.YbulkctlyFmt.FP
set_option linter.unusedVariables false

/-- A slice's bytes, as they lie. -/
structure Dat (w : World) (a : Option Addr) (len : Nat) (l : List Nat) : Prop where
  len_eq : l.length = len
  byte : ∀ x ∈ l, x < 256
  cells : 0 < len → ∃ b off, a = some ⟨b, off, none⟩ ∧ ∀ i, i < len → w.cell? ⟨b, off + i, none⟩ = some (.int .u8 ((l.getD i 0 : Nat) : Int))

theorem Dat.getD_lt {w : World} {a : Option Addr} {len : Nat} {l : List Nat} (d : Dat w a len l) (i : Nat) (hi : i < len) : l.getD i 0 < 256 := by
  have h := d.len_eq
  apply d.byte
  rw [List.getD_eq_getElem?_getD, List.getElem?_eq_getElem (by omega)]
  exact List.getElem_mem _

theorem wrap_nat (n : Nat) (h : n < 18446744073709551616) : IntKind.u64.wrap (n : Int) = n := by
  rw [IntKind.wrap_u64]; omega
theorem or_shift (X y s : Nat) (hX : X < 2 ^ s) (h : X + y * 2 ^ s < 18446744073709551616) : bits .or .u64 (X : Int) ((y * 2 ^ s : Nat) : Int) = ((X + y * 2 ^ s : Nat) : Int) := by
  rw [u64_or_nat X (y * 2 ^ s) (by omega) (by omega)]
  have e := Nat.shiftLeft_add_eq_or_of_lt hX y
  rw [Nat.shiftLeft_eq] at e
  rw [Nat.or_comm, ← e, Nat.add_comm]
theorem pow_step (y k : Nat) (hy : y < 128) (hk : k ≤ 8) : y * 2 ^ (7 * k) + 2 ^ (7 * k) ≤ 2 ^ (7 * (k + 1)) ∧ 2 ^ (7 * (k + 1)) ≤ 9223372036854775808 := by
  constructor
  · rw [Nat.mul_add, Nat.pow_add, show (2 : Nat) ^ (7 * 1) = 128 from by decide]
    have : (y + 1) * 2 ^ (7 * k) ≤ 128 * 2 ^ (7 * k) := Nat.mul_le_mul_right _ (by omega)
    rw [Nat.add_mul, Nat.one_mul] at this
    omega
  · have h : 2 ^ (7 * (k + 1)) ≤ 2 ^ 63 := Nat.pow_le_pow_right (by omega) (by omega)
    have e : (2 : Nat) ^ 63 = 9223372036854775808 := by decide
    rw [e] at h; exact h
theorem cast_mul_pow (y k : Nat) : (y : Int) * 2 ^ (7 * k) = ((y * 2 ^ (7 * k) : Nat) : Int) := by
  rw [Int.natCast_mul, Int.natCast_pow]; rfl
/-- The last byte, below the tenth. -/
theorem fin_form (X y k : Nat) (hX : X < 2 ^ (7 * k)) (hy : y < 128) (hk : k ≤ 8) : bits .or .u64 (X : Int) (IntKind.u64.wrap ((y : Int) * 2 ^ (7 * k))) = ((X + y * 2 ^ (7 * k) : Nat) : Int) := by
  obtain ⟨h1, h2⟩ := pow_step y k hy hk
  rw [cast_mul_pow, wrap_nat _ (by omega), or_shift X y (7 * k) hX (by omega)]
theorem fin_nine (X y : Nat) (hX : X < 9223372036854775808) (hy : y ≤ 1) : bits .or .u64 (X : Int) ((y : Int) * 9223372036854775808) = ((X + y * 2 ^ 63 : Nat) : Int) := by
  have e : (y : Int) * 9223372036854775808 = ((y * 2 ^ 63 : Nat) : Int) := by
    rw [Int.natCast_mul, show ((2 ^ 63 : Nat) : Int) = 9223372036854775808 from by decide]
  have e2 : (2 : Nat) ^ 63 = 9223372036854775808 := by decide
  rw [e, or_shift X y 63 (by rw [e2]; exact hX) (by rw [e2]; omega)]
theorem low7 (y : Nat) (h1 : 128 ≤ y) (h2 : y < 256) : bits .and .u8 (y : Int) 127 = ((y - 128 : Nat) : Int) := by
  have h := u8_and_nat y 127 (by omega) (by omega)
  rw [show ((127 : Nat) : Int) = 127 from rfl] at h
  rw [h, show (127 : Nat) = 2 ^ 7 - 1 from by decide, Nat.and_two_pow_sub_one_eq_mod]
  exact congrArg (fun x : Nat => (x : Int)) (show y % 2 ^ 7 = y - 128 from by have : (2 : Nat) ^ 7 = 128 := by decide
                                                                              omega)
/-- A byte of 128 or more. -/
theorem mid_form (X y k : Nat) (hX64 : X < 2 ^ 64) (hX : k ≤ 9 → X < 2 ^ (7 * k)) (h1 : 128 ≤ y) (h2 : y < 256) (hk : k < 10) :
    ∃ X' : Nat, bits .or .u64 (X : Int) (IntKind.u64.wrap (IntKind.u64.wrap (bits .and .u8 (y : Int) 127) * 2 ^ (7 * k))) = (X' : Int) ∧ X' < 2 ^ 64 ∧ (k + 1 ≤ 9 → X' < 2 ^ (7 * (k + 1))) ∧ (k ≤ 8 → X' = X + (y - 128) * 2 ^ (7 * k)) := by
  have e64 : (2 : Nat) ^ 64 = 18446744073709551616 := by decide
  rw [low7 y h1 h2, wrap_nat _ (by omega)]
  by_cases hk8 : k ≤ 8
  · obtain ⟨p1, p2⟩ := pow_step (y - 128) k (by omega) hk8
    have hx := hX (by omega)
    refine ⟨X + (y - 128) * 2 ^ (7 * k), fin_form X (y - 128) k hx (by omega) hk8, by rw [e64]; omega, fun _ => by omega, fun _ => rfl⟩
  · have hw := wf_bits .or .u64 (X : Int) (IntKind.u64.wrap (((y - 128 : Nat) : Int) * 2 ^ (7 * k)))
    have hb : 0 ≤ bits .or .u64 (X : Int) (IntKind.u64.wrap (((y - 128 : Nat) : Int) * 2 ^ (7 * k))) ∧ bits .or .u64 (X : Int) (IntKind.u64.wrap (((y - 128 : Nat) : Int) * 2 ^ (7 * k))) ≤ 18446744073709551615 := by
      simpa [Lit.wf, IntKind.min, IntKind.max, IntKind.bits, IntKind.signed] using hw
    refine ⟨_, (Int.toNat_of_nonneg hb.1).symm, by rw [e64]; omega, fun h => by omega, fun h => by omega⟩

theorem at_next {l : List Nat} {k X X' y : Nat} (h : At l k X) (hk : k < l.length) (h10 : k < 10) (hy : l.getD k 0 = y) (h1 : 128 ≤ y) (hX' : k ≤ 8 → X' = X + (y - 128) * 2 ^ (7 * k)) : At l (k + 1) X' := by
  have hs := h.step hk h10 (by omega)
  rw [hy] at hs
  by_cases h8 : k ≤ 8
  · rw [hX' h8]; exact hs
  · have : dec l = none := hs.over (.inr (by omega))
    unfold At
    rw [this, dv_ten (k + 1) (by omega)]; rfl

/-- What zzs4756adec gives. -/
def ret6 : Option (Nat × Nat) → Value
  | some r => .tuple #[.int .u64 r.1, .int .i64 r.2]
  | none => .tuple #[.int .u64 0, .int .i64 (-1)]

set_option maxRecDepth 100000 in
set_option maxHeartbeats 400000 in
theorem dec_any (a : Option Addr) (len cap : Nat) (l : List Nat) (w : World) (d : Dat w a len l) (hl : len ≤ 1000000) :
    Calls Ybaf.prog 6 #[.slice a len cap] w fun e w' => e = .returned (ret6 (dec l)) ∧ w' = w := by
  go_enter Ybaf.func6, Ybaf.ntmps6
  go_wp2
  go_loop [4, 5, 6] (fun x s i => ∃ k X : Nat, k ≤ len ∧ k ≤ 10 ∧ X < 2 ^ 64 ∧ (k ≤ 9 → X < 2 ^ (7 * k)) ∧ At l k X ∧ i = .int .i64 k ∧ s = .int .u64 ((7 * k : Nat) : Int) ∧ x = .int .u64 X) (fun _ _ i => 10 - (intOf i).toNat)
  case atStart => exact ⟨0, 0, by omega, by omega, by omega, by simp, At.zero l, rfl, rfl, rfl⟩
  case round =>
    obtain ⟨k, X, hk, hk10, hX64, hX, hAt, rfl, rfl, rfl⟩ := hrel
    have hll := d.len_eq
    have HA : Hid (At l k X) := hAt
    have HX : Hid (k ≤ 9 → X < 2 ^ (7 * k)) := hX
    have HX64 : Hid (X < 2 ^ 64) := hX64
    have HLL : Hid (l.length = len) := hll
    clear hAt hX hX64 hll
    by_cases hkl : k < len
    · have t1 : (k : Int) < (len : Int) := by omega
      by_cases hk9 : k < 10
      · have t2 : (k : Int) < 10 := by omega
        obtain ⟨b, off, rfl, hc⟩ := d.cells (by omega)
        have cx := hc k hkl
        have hb := d.getD_lt k hkl
        obtain ⟨y, hy⟩ : ∃ y, l.getD k 0 = y := ⟨_, rfl⟩
        rw [hy] at cx hb
        have HY : Hid (l.getD k 0 = y) := hy
        clear hy hc
        by_cases hyb : y < 128
        · have t3 : (y : Int) < 128 := by omega
          by_cases h9 : k = 9
          · subst h9
            by_cases h1 : 1 < y
            · have t4 : (1 : Int) < (y : Int) := by omega
              have HD : Hid (dec l = none) := HA.out.big (by rw [HLL.out]; exact hkl) rfl (by rw [HY.out]; exact hyb) (by rw [HY.out]; exact h1)
              go_wp2
              go_ret2
              exact ⟨by rw [HD.out]; rfl, rfl⟩
            · have t4 : ¬ (1 : Int) < (y : Int) := by omega
              have HD : Hid (dec l = some (X + l.getD 9 0 * 2 ^ (7 * 9), 9 + 1)) := HA.out.done (by rw [HLL.out]; exact hkl) (by omega) (by rw [HY.out]; exact hyb) (by rw [HY.out]; omega)
              have HF := fin_nine X y (HX.out (by omega)) (by omega)
              go_wp2
              go_ret2
              exact ⟨by rw [HD.out, HY.out]; unfold ret6; simp only; congr, rfl⟩
          · have t5 : ((k : Int) == 9) = false := by simp; omega
            have HD : Hid (dec l = some (X + l.getD k 0 * 2 ^ (7 * k), k + 1)) := HA.out.done (by rw [HLL.out]; exact hkl) hk9 (by rw [HY.out]; exact hyb) (by omega)
            have HF := fin_form X y k (HX.out (by omega)) hyb (by omega)
            go_wp2
            go_ret2
            exact ⟨by rw [HD.out, HY.out]; unfold ret6; simp only; congr, rfl⟩
        · have t3 : ¬ (y : Int) < 128 := by omega
          obtain ⟨X', e1, e2, e3, e4⟩ := mid_form X y k HX64.out HX.out (by omega) hb hk9
          have HE : Hid _ := And.intro e2 (And.intro e3 e4)
          clear e2 e3 e4
          go_wp2
          go_round
          case rel => exact ⟨k + 1, X', by omega, by omega, HE.out.1, HE.out.2.1, at_next HA.out (by rw [HLL.out]; exact hkl) hk9 HY.out (by omega) HE.out.2.2, by go_num, by go_num, rfl⟩
          case measure => simp [intOf]; omega
      · have t2 : ¬ (k : Int) < 10 := by omega
        have HD : Hid (dec l = none) := HA.out.over (.inr (by omega))
        go_wp2
        go_ret2
        exact ⟨by rw [HD.out]; rfl, rfl⟩
    · have t1 : ¬ (k : Int) < (len : Int) := by omega
      have HD : Hid (dec l = none) := HA.out.over (.inl (by rw [HLL.out]; omega))
      go_wp2
      go_ret2
      exact ⟨by rw [HD.out]; rfl, rfl⟩

/-- What binary.Uvarint gives. -/
def Uv (l : List Nat) (v : Nat) (n : Int) : Prop := (∀ r, dec l = some r → v = r.1 ∧ n = (r.2 : Int)) ∧ (dec l = none → v = 0 ∧ n ≤ 0)
theorem Uv.none {l : List Nat} {n : Int} (h : dec l = none) (hn : n ≤ 0) : Uv l 0 n := by
  refine ⟨fun r hr => ?_, fun _ => ⟨rfl, hn⟩⟩
  rw [h] at hr; cases hr
theorem Uv.some {l : List Nat} {v k : Nat} (h : dec l = some (v, k)) : Uv l v (k : Int) := by
  refine ⟨fun r hr => ?_, fun hr => ?_⟩
  · rw [h] at hr; cases hr; exact ⟨rfl, rfl⟩
  · rw [h] at hr; cases hr
theorem Dat.drop {w : World} {a : Option Addr} {len : Nat} {l : List Nat} (d : Dat w a len l) (k : Nat) (b off : Nat) (ha : a = some ⟨b, off, none⟩) (hk : k ≤ len) (ra : Option Addr) (hra : 0 < len - k → ra = some ⟨b, off + k, none⟩) : Dat w ra (len - k) (l.drop k) := by
  have hl := d.len_eq
  refine ⟨by simp; omega, fun x hx => d.byte x (List.mem_of_mem_drop hx), fun hp => ⟨b, off + k, hra hp, fun i hi => ?_⟩⟩
  obtain ⟨b', off', e, hc⟩ := d.cells (by omega)
  rw [ha] at e
  cases e
  have := hc (k + i) (by omega)
  rw [show off + k + i = off + (k + i) from by omega, this]
  simp [List.getD_eq_getElem?_getD]

set_option maxRecDepth 100000 in
set_option maxHeartbeats 400000 in
theorem uv_any (a : Option Addr) (len cap : Nat) (l : List Nat) (w : World) (d : Dat w a len l) (hl : len ≤ 1000000) :
    Calls Ybaf.prog 10 #[.slice a len cap] w fun e w' => ∃ (v : Nat) (n : Int), e = .returned (.tuple #[.int .u64 v, .int .i64 n]) ∧ Uv l v n ∧ w' = w := by
  go_enter Ybaf.func10, Ybaf.ntmps10
  go_wp2
  go_loop [4, 5, 10] (fun x s i => ∃ k X : Nat, k ≤ len ∧ k ≤ 10 ∧ X < 2 ^ 64 ∧ (k ≤ 9 → X < 2 ^ (7 * k)) ∧ At l k X ∧ i = .int .i64 k ∧ s = .int .u64 ((7 * k : Nat) : Int) ∧ x = .int .u64 X) (fun _ _ i => 10 - (intOf i).toNat)
  case atStart => exact ⟨0, 0, by omega, by omega, by omega, by simp, At.zero l, rfl, rfl, rfl⟩
  case round =>
    obtain ⟨k, X, hk, hk10, hX64, hX, hAt, rfl, rfl, rfl⟩ := hrel
    have hll := d.len_eq
    have HA : Hid (At l k X) := hAt
    have HX : Hid (k ≤ 9 → X < 2 ^ (7 * k)) := hX
    have HX64 : Hid (X < 2 ^ 64) := hX64
    have HLL : Hid (l.length = len) := hll
    clear hAt hX hX64 hll
    by_cases hkl : k < len
    · have t1 : (k : Int) < (len : Int) := by omega
      obtain ⟨b, off, rfl, hc⟩ := d.cells (by omega)
      have cx := hc k hkl
      have hb := d.getD_lt k hkl
      obtain ⟨y, hy⟩ : ∃ y, l.getD k 0 = y := ⟨_, rfl⟩
      rw [hy] at cx hb
      have HY : Hid (l.getD k 0 = y) := hy
      clear hy hc
      by_cases hk9 : k < 10
      · have t2 : ((k : Int) == 10) = false := by simp; omega
        by_cases hyb : y < 128
        · have t3 : (y : Int) < 128 := by omega
          by_cases h9 : k = 9
          · subst h9
            by_cases h1 : 1 < y
            · have t4 : (1 : Int) < (y : Int) := by omega
              have HD : Hid (dec l = none) := HA.out.big (by rw [HLL.out]; exact hkl) rfl (by rw [HY.out]; exact hyb) (by rw [HY.out]; exact h1)
              go_wp2
              go_ret2
              exact ⟨0, -10, rfl, Uv.none HD.out (by omega), rfl⟩
            · have t4 : ¬ (1 : Int) < (y : Int) := by omega
              have HD : Hid (dec l = some (X + l.getD 9 0 * 2 ^ (7 * 9), 9 + 1)) := HA.out.done (by rw [HLL.out]; exact hkl) (by omega) (by rw [HY.out]; exact hyb) (by rw [HY.out]; omega)
              have HF := fin_nine X y (HX.out (by omega)) (by omega)
              go_wp2
              go_ret2
              exact ⟨_, _, by congr, by rw [HY.out] at HD; exact Uv.some HD.out, rfl⟩
          · have t5 : ((k : Int) == 9) = false := by simp; omega
            have HD : Hid (dec l = some (X + l.getD k 0 * 2 ^ (7 * k), k + 1)) := HA.out.done (by rw [HLL.out]; exact hkl) hk9 (by rw [HY.out]; exact hyb) (by omega)
            have HF := fin_form X y k (HX.out (by omega)) hyb (by omega)
            go_wp2
            go_ret2
            exact ⟨_, _, by congr, by rw [HY.out] at HD; exact Uv.some HD.out, rfl⟩
        · have t3 : ¬ (y : Int) < 128 := by omega
          obtain ⟨X', e1, e2, e3, e4⟩ := mid_form X y k HX64.out HX.out (by omega) hb hk9
          have HE : Hid _ := And.intro e2 (And.intro e3 e4)
          clear e2 e3 e4
          go_wp2
          go_round
          case rel => exact ⟨k + 1, X', by omega, by omega, HE.out.1, HE.out.2.1, at_next HA.out (by rw [HLL.out]; exact hkl) hk9 HY.out (by omega) HE.out.2.2, by go_num, by go_num, rfl⟩
          case measure => simp [intOf]; omega
      · have hk10' : k = 10 := by omega
        subst hk10'
        have HD : Hid (dec l = none) := HA.out.over (.inr (by omega))
        go_wp2
        go_ret2
        exact ⟨0, -11, rfl, Uv.none HD.out (by omega), rfl⟩
    · have t1 : ¬ (k : Int) < (len : Int) := by omega
      have HD : Hid (dec l = none) := HA.out.over (.inl (by rw [HLL.out]; omega))
      go_wp2
      go_ret2
      exact ⟨0, 0, rfl, Uv.none HD.out (by omega), rfl⟩

/-- What cutUvarint reads. -/
def cut (l : List Nat) : Option (Nat × Nat) := match dec l with
  | some r => if 2 ^ 62 < r.1 then none else some r
  | none => none

set_option maxRecDepth 100000 in
set_option maxHeartbeats 400000 in
theorem cut_none (a : Option Addr) (len cap : Nat) (l : List Nat) (w : World) (d : Dat w a len l) (hl : len ≤ 1000000) (h : cut l = none) :
    Calls Ybaf.prog 8 #[.slice a len cap] w fun e w' => e = .returned (.tuple #[.int .i64 0, .slice none 0 0, .bool false]) ∧ w' = w := by
  go_enter Ybaf.func8, Ybaf.ntmps8
  go_wp2_with fail
  refine (uv_any a len cap l w d hl).mono ?_
  rintro e w' ⟨v, n, rfl, hU, rfl⟩
  by_cases hn : n ≤ 0
  · go_wp2
    go_ret3
    exact ⟨rfl, rfl⟩
  · have hv : 4611686018427387904 < (v : Int) := by
      cases hd : dec l with
      | none => exact absurd (hU.2 hd).2 hn
      | some r =>
        unfold cut at h
        rw [hd] at h
        simp only at h
        by_cases h2 : 2 ^ 62 < r.1
        · have := (hU.1 r hd).1
          have e : (2 : Nat) ^ 62 = 4611686018427387904 := by decide
          rw [e] at h2; omega
        · rw [if_neg h2] at h; cases h
    clear hU h
    go_wp2
    go_ret3
    exact ⟨rfl, rfl⟩

set_option maxRecDepth 100000 in
set_option maxHeartbeats 400000 in
theorem cut_some (a : Option Addr) (len cap : Nat) (l : List Nat) (f k : Nat) (w : World) (d : Dat w a len l) (hl : len ≤ 1000000) (hcap : len ≤ cap) (hcm : cap ≤ maxLen) (h : cut l = some (f, k)) :
    Calls Ybaf.prog 8 #[.slice a len cap] w fun e w' => ∃ ra rc q, e = .returned (.tuple #[.int .i64 f, .slice ra (len - k) rc, .bool true]) ∧ w' = w.drewN q ∧ Dat w ra (len - k) (l.drop k) ∧ len - k ≤ rc ∧ rc ≤ maxLen ∧ (∀ b off, a = some ⟨b, off, none⟩ → 0 < len - k → ra = some ⟨b, off + k, none⟩) := by
  unfold maxLen at hcm
  have hd : dec l = some (f, k) ∧ f ≤ 4611686018427387904 := by
    unfold cut at h
    cases hd : dec l with
    | none => rw [hd] at h; cases h
    | some r =>
      rw [hd] at h
      simp only at h
      by_cases h2 : 2 ^ 62 < r.1
      · rw [if_pos h2] at h; cases h
      · rw [if_neg h2] at h; cases h
        have e : (2 : Nat) ^ 62 = 4611686018427387904 := by decide
        rw [e] at h2; exact ⟨rfl, by omega⟩
  obtain ⟨hd, hf⟩ := hd
  have hb := dec_bound hd
  have hll := d.len_eq
  rw [hll] at hb
  obtain ⟨b, off, rfl, hc⟩ := d.cells (by omega)
  obtain ⟨hk0, hkl⟩ := hb
  have hD1 : k = cap → Dat w (some ⟨b, off, none⟩) (len - k) (l.drop k) := fun e => d.drop k b off rfl hkl _ (fun h => by omega)
  have hD2 : Dat w (some ⟨b, off + k, none⟩) (len - k) (l.drop k) := d.drop k b off rfl hkl _ (fun _ => rfl)
  have HD1 : Hid (k = cap → Dat w (some ⟨b, off, none⟩) (len - k) (l.drop k)) := hD1
  have HD2 : Hid (Dat w (some ⟨b, off + k, none⟩) (len - k) (l.drop k)) := hD2
  clear hD1 hD2 hc
  have hm : ∀ x, x ≤ cap → x ≤ maxLen := fun x hx => by unfold maxLen; omega
  have HM : Hid (∀ x, x ≤ cap → x ≤ maxLen) := hm
  clear hm
  go_enter Ybaf.func8, Ybaf.ntmps8
  go_wp2_with fail
  refine (uv_any _ len cap l w d hl).mono ?_
  rintro e w' ⟨v, n, rfl, hU, hw⟩
  subst hw
  obtain ⟨hv, hn⟩ := hU.1 _ hd
  simp only at hv hn
  subst hv
  subst hn
  have t1 : ¬ (k : Int) ≤ 0 := by omega
  have t2 : ¬ 4611686018427387904 < (v : Int) := by omega
  have t3 : (0 : Int) ≤ (k : Int) := by omega
  have t4 : (k : Int) ≤ (len : Int) := by omega
  have t5 : (len : Int) ≤ (cap : Int) := by omega
  clear hU hd h d
  by_cases hkc : k = cap
  · have H1 : Hid (Dat _ (some ⟨b, off, none⟩) (len - k) (l.drop k)) := HD1.out hkc
    subst hkc
    have hlk : len - k = 0 := by omega
    go_wp2
    go_quiet (fail)
    go_wp2
    go_ret3
    exact ⟨_, 0, nq, by rw [hlk]; rfl, rfl, H1.out, by omega, HM.out _ (by omega), fun b' off' e h => by omega⟩
  · go_wp2
    go_quiet (fail)
    go_wp2
    go_ret3
    exact ⟨_, cap - k, nq, rfl, rfl, HD2.out, by omega, HM.out _ (by omega), fun b' off' e h => by cases e; rfl⟩
end Go.Proofs.YbulkctlyFmt.FV
