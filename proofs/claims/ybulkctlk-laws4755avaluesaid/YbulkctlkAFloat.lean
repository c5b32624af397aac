/- PLAIN FACTS ON DOUBLES: nothing of the program here. -/
import Derived.Laws.FloatArith
namespace Go.Proofs.Ybulkctlk.AF
open Ieee
set_option exponentiation.threshold 3000

/-- The magnitude of a finite rung, in units of 2^-1074. -/
def rv (r : Nat) : Nat := if r < 4503599627370496 then r else (4503599627370496 + r % 4503599627370496) * 2 ^ (r / 4503599627370496 - 1)

theorem rv_of (s k : Nat) (hk : k ≤ 9007199254740992) (h : 4503599627370496 ≤ k ∨ s = 0) : rv (s * 4503599627370496 + k) = k * 2 ^ s := by
  unfold rv
  split
  · rename_i hlt
    have : s = 0 := by omega
    subst this; simp
  · rename_i hge
    have hk' : 4503599627370496 ≤ k := by omega
    by_cases h2 : k = 9007199254740992
    · subst h2
      have e1 : (s * 4503599627370496 + 9007199254740992) % 4503599627370496 = 0 := by omega
      have e2 : (s * 4503599627370496 + 9007199254740992) / 4503599627370496 - 1 = s + 1 := by omega
      rw [e1, e2, Nat.pow_succ]
      omega
    · have e1 : (s * 4503599627370496 + k) % 4503599627370496 = k - 4503599627370496 := by omega
      have e2 : (s * 4503599627370496 + k) / 4503599627370496 - 1 = s := by omega
      rw [e1, e2, show 4503599627370496 + (k - 4503599627370496) = k from by omega]

def INF : Nat := 9218868437227405312

theorem infRung_double : double.infRung = INF := by decide
theorem binade_double : double.binade = 4503599627370496 := by decide
theorem least_double : double.leastPlace = -1074 := by decide
theorem sign_double : double.signWeight = 9223372036854775808 := by decide
theorem fb_double : double.fractionBits = 52 := rfl

/-- Reading a finite word. -/
theorem read_word (s : Bool) (r : Nat) (hr : r < INF) : ∃ (m : Nat) (i : Nat), double.read (double.word s r) = .number s m ((i : Int) - 1074) ∧ m * 2 ^ i = rv r ∧ m < 9007199254740992 ∧ (4503599627370496 ≤ r → 4503599627370496 ≤ m) ∧ (m = 0 ↔ r = 0) := by
  have hneg : (double.word s r / 9223372036854775808 % 2 == 1) = s := by
    unfold Format.word; rw [sign_double]; unfold INF at hr
    cases s <;> simp <;> omega
  have hrung : double.word s r % 9223372036854775808 = r := by
    unfold Format.word; rw [sign_double]; unfold INF at hr
    cases s <;> simp <;> omega
  unfold Format.read
  rw [sign_double, hneg, hrung, binade_double, infRung_double, least_double]
  by_cases h1 : r < 4503599627370496
  · refine ⟨r, 0, ?_, ?_, by omega, by omega, by simp⟩
    · simp [h1]
    · simp [rv, h1]
  · refine ⟨4503599627370496 + r % 4503599627370496, r / 4503599627370496 - 1, ?_, ?_, by omega, by omega, by omega⟩
    · simp only [h1, hr, if_true, if_false, Datum.number.injEq, true_and]
      omega
    · simp [rv, h1]

theorem read_inf (s : Bool) : double.read (double.word s INF) = .infinity s := by
  cases s <;> decide

theorem cut_zero (neg : Bool) (n : Nat) : Toward.even.cut neg n 0 = n := by
  unfold Toward.cut
  simp [Nat.mod_one]

theorem cut_even (neg : Bool) (n d : Nat) (hd : d ≤ n.log2 + 2) : ∃ c, Toward.even.cut neg n d = c ∧ n / 2 ^ d ≤ c ∧ c ≤ n / 2 ^ d + 1 ∧ 2 * (c * 2 ^ d) ≤ 2 * n + 2 ^ d ∧ 2 * n ≤ 2 * (c * 2 ^ d) + 2 ^ d := by
  unfold Toward.cut
  simp only [Nat.min_eq_left hd, Nat.one_shiftLeft]
  have hg : 0 < 2 ^ d := Nat.two_pow_pos d
  generalize hG : 2 ^ d = G at *
  have hdm : G * (n / G) + n % G = n := Nat.div_add_mod n G
  have hlt : n % G < G := Nat.mod_lt _ hg
  refine ⟨_, rfl, by omega, ?_, ?_, ?_⟩
  · have := Bool.toNat_le (decide (G < 2 * (n % G)) || G == 2 * (n % G) && n / G % 2 == 1); omega
  · generalize hL : n / G = L at *
    rw [Nat.add_mul, Nat.mul_comm L G]
    by_cases h1 : G < 2 * (n % G)
    · simp [h1]; omega
    · by_cases h2 : G = 2 * (n % G) ∧ L % 2 = 1
      · simp [h2.1.symm, h2.2]; omega
      · have : (decide (G < 2 * (n % G)) || G == 2 * (n % G) && L % 2 == 1) = false := by
          simp [h1]; intro h; have := fun h3 => h2 ⟨h, h3⟩; omega
        rw [this]; simp; omega
  · generalize hL : n / G = L at *
    rw [Nat.add_mul, Nat.mul_comm L G]
    by_cases h1 : G < 2 * (n % G)
    · simp [h1]; omega
    · by_cases h2 : G = 2 * (n % G) ∧ L % 2 = 1
      · simp [h2.1.symm, h2.2]; omega
      · have : (decide (G < 2 * (n % G)) || G == 2 * (n % G) && L % 2 == 1) = false := by
          simp [h1]; intro h; have := fun h3 => h2 ⟨h, h3⟩; omega
        rw [this]; simp; omega

theorem lt_inf {a c : Nat} (h : a ≤ 2000) (hc : c ≤ 9007199254740992) : a * 4503599627370496 + c < INF := by unfold INF; omega
theorem min_pos {a c : Nat} (hc : 0 < c) : 0 < min (a * 4503599627370496 + c) INF := by unfold INF; omega
theorem bin_mul (L : Nat) (hL : 52 ≤ L) : 2 ^ L = 4503599627370496 * 2 ^ (L - 52) := by
  rw [show (4503599627370496 : Nat) = 2 ^ 52 from by decide, ← Nat.pow_add]; congr 1; omega
theorem big_lo {mag G : Nat} (hG : 0 < G) (hlo : 4503599627370496 * G ≤ mag) : 4503599627370496 ≤ mag / G := by rw [Nat.le_div_iff_mul_le hG]; exact hlo
theorem big_hi {mag G : Nat} (hG : 0 < G) (hhi : mag < 4503599627370496 * G * 2) : mag / G < 9007199254740992 := by rw [Nat.div_lt_iff_lt_mul hG]; omega
theorem scale {T x y z : Nat} (h : 2 * x ≤ 2 * y + z) : 2 * (T * x) ≤ 2 * (T * y) + T * z := by
  have := Nat.mul_le_mul_left T h
  simp only [Nat.mul_add, Nat.mul_left_comm T 2] at this
  exact this

theorem near_big (s : Bool) (mag p L : Nat) (hm : mag ≠ 0) (hL : mag.log2 = L) (hbig : 52 < L) : ∃ c, double.nearest s mag ((p : Int) - 1074) = double.word s (min ((p + (L - 52)) * 4503599627370496 + c) INF) ∧
    4503599627370496 ≤ c ∧ c ≤ 9007199254740992 ∧ 2 * (c * 2 ^ (L - 52)) ≤ 2 * mag + 2 ^ (L - 52) ∧ 2 * mag ≤ 2 * (c * 2 ^ (L - 52)) + 2 ^ (L - 52) := by
  have hlo : 2 ^ L ≤ mag := hL ▸ Nat.log2_self_le hm
  have hhi : mag < 2 ^ (L + 1) := hL ▸ Nat.lt_log2_self
  rw [Nat.pow_succ, bin_mul L (by omega)] at hhi
  rw [bin_mul L (by omega)] at hlo
  have hG := Nat.two_pow_pos (L - 52)
  have k1 := big_lo hG hlo
  have k2 := big_hi hG hhi
  obtain ⟨c, hc, c1, c2, c3, c4⟩ := cut_even s mag (L - 52) (by rw [hL]; omega)
  refine ⟨c, ?_, Nat.le_trans k1 c1, Nat.le_trans c2 k2, c3, c4⟩
  clear c1 c2 c3 c4 k1 k2 hlo hhi hG
  unfold Format.nearest
  rw [if_neg hm, fb_double, least_double, binade_double, infRung_double, hL]
  have e1 : max ((p : Int) - 1074 + (L : Int) - (52 : Nat)) (-1074) = (p : Int) - 1074 + L - 52 := by omega
  have e2 : ((p : Int) - 1074 - ((p : Int) - 1074 + L - 52)).toNat = 0 := by omega
  have e3 : ((p : Int) - 1074 + L - 52 - ((p : Int) - 1074)).toNat = L - 52 := by omega
  have e4 : ((p : Int) - 1074 + L - 52 - -1074).toNat = p + (L - 52) := by omega
  simp only [e1]
  rw [e2, e3, e4, Nat.shiftLeft_zero, hc]

theorem near_sub (s : Bool) (mag p L : Nat) (hm : mag ≠ 0) (hL : mag.log2 = L) (hs : p + L < 52) : double.nearest s mag ((p : Int) - 1074) = double.word s (min (0 * 4503599627370496 + mag * 2 ^ p) INF) := by
  unfold Format.nearest
  rw [if_neg hm, fb_double, least_double, binade_double, infRung_double, hL]
  have e1 : max ((p : Int) - 1074 + (L : Int) - (52 : Nat)) (-1074) = -1074 := by omega
  have e2 : ((p : Int) - 1074 - -1074).toNat = p := by omega
  have e3 : (-1074 - ((p : Int) - 1074)).toNat = 0 := by omega
  have e4 : ((-1074 : Int) - -1074).toNat = 0 := by omega
  simp only [e1]
  rw [e2, e3, e4, cut_zero, Nat.shiftLeft_eq]

theorem near_nor (s : Bool) (mag p L : Nat) (hm : mag ≠ 0) (hL : mag.log2 = L) (hs : ¬ p + L < 52) (hb : ¬ 52 < L) : double.nearest s mag ((p : Int) - 1074) = double.word s (min ((p + L - 52) * 4503599627370496 + mag * 2 ^ (52 - L)) INF) := by
  unfold Format.nearest
  rw [if_neg hm, fb_double, least_double, binade_double, infRung_double, hL]
  have e1 : max ((p : Int) - 1074 + (L : Int) - (52 : Nat)) (-1074) = (p : Int) - 1074 + L - 52 := by omega
  have e2 : ((p : Int) - 1074 - ((p : Int) - 1074 + L - 52)).toNat = 52 - L := by omega
  have e3 : ((p : Int) - 1074 + L - 52 - ((p : Int) - 1074)).toNat = 0 := by omega
  have e4 : ((p : Int) - 1074 + L - 52 - -1074).toNat = p + L - 52 := by omega
  simp only [e1]
  rw [e2, e3, e4, cut_zero, Nat.shiftLeft_eq]

theorem sub_small {mag p L : Nat} (hhi : mag < 2 ^ (L + 1)) (hs : p + L < 52) : mag * 2 ^ p < 4503599627370496 := by
  have h1 : mag * 2 ^ p < 2 ^ (L + 1) * 2 ^ p := Nat.mul_lt_mul_of_pos_right hhi (Nat.two_pow_pos _)
  rw [← Nat.pow_add] at h1
  have h2 : 2 ^ (L + 1 + p) ≤ 2 ^ 52 := Nat.pow_le_pow_right (by omega) (by omega)
  have h3 : (2 : Nat) ^ 52 = 4503599627370496 := by decide
  rw [h3] at h2
  exact Nat.lt_of_lt_of_le h1 h2

theorem nor_range {mag L : Nat} (hlo : 2 ^ L ≤ mag) (hhi : mag < 2 ^ (L + 1)) (hb : ¬ 52 < L) : 4503599627370496 ≤ mag * 2 ^ (52 - L) ∧ mag * 2 ^ (52 - L) < 9007199254740992 := by
  have hpw : 2 ^ L * 2 ^ (52 - L) = 4503599627370496 := by
    rw [← Nat.pow_add, show L + (52 - L) = 52 from by omega]
  have hpos : 0 < 2 ^ (52 - L) := Nat.two_pow_pos _
  constructor
  · rw [← hpw]; exact Nat.mul_le_mul_right _ hlo
  · have := Nat.mul_lt_mul_of_pos_right hhi hpos
    rw [Nat.pow_succ, Nat.mul_right_comm, hpw] at this
    exact this

/-- ROUNDING: of a number that is no nought, its place not below the least: the rung is positive; where it doesn't run over, how far it lies off. -/
theorem nearest_pos (s : Bool) (mag p : Nat) (hm : mag ≠ 0) : ∃ r, double.nearest s mag ((p : Int) - 1074) = double.word s r ∧ 0 < r ∧ r ≤ INF ∧
    (p + mag.log2 ≤ 2000 → r < INF ∧ (mag.log2 ≤ 52 → rv r = mag * 2 ^ p) ∧ (52 < mag.log2 → 2 * rv r ≤ 2 * (mag * 2 ^ p) + 2 ^ p * 2 ^ (mag.log2 - 52) ∧ 2 * (mag * 2 ^ p) ≤ 2 * rv r + 2 ^ p * 2 ^ (mag.log2 - 52))) := by
  have hlo : 2 ^ mag.log2 ≤ mag := Nat.log2_self_le hm
  have hhi : mag < 2 ^ (mag.log2 + 1) := Nat.lt_log2_self
  obtain ⟨L, hL⟩ : ∃ L, mag.log2 = L := ⟨_, rfl⟩
  rw [hL] at hlo hhi ⊢
  by_cases hbig : 52 < L
  · obtain ⟨c, hn, c1, c2, c3, c4⟩ := near_big s mag p L hm hL hbig
    refine ⟨_, hn, min_pos (by omega), Nat.min_le_right _ _, fun hs => ?_⟩
    have hlt := lt_inf (a := p + (L - 52)) (by omega) c2
    rw [Nat.min_eq_left (Nat.le_of_lt hlt)]
    refine ⟨hlt, fun h => absurd h (by omega), fun _ => ?_⟩
    rw [rv_of _ _ c2 (.inl c1), Nat.pow_add, Nat.mul_comm mag (2 ^ p), show c * (2 ^ p * 2 ^ (L - 52)) = 2 ^ p * (c * 2 ^ (L - 52)) from by rw [Nat.mul_left_comm]]
    exact ⟨scale c3, scale c4⟩
  · by_cases hsub : p + L < 52
    · have hb := sub_small hhi hsub
      have hp : 0 < mag * 2 ^ p := Nat.mul_pos (by omega) (Nat.two_pow_pos _)
      refine ⟨_, near_sub s mag p L hm hL hsub, min_pos hp, Nat.min_le_right _ _, fun hs => ?_⟩
      have hlt := lt_inf (a := 0) (c := mag * 2 ^ p) (by omega) (by omega)
      rw [Nat.min_eq_left (Nat.le_of_lt hlt)]
      refine ⟨hlt, fun _ => ?_, fun h => absurd h hbig⟩
      rw [rv_of 0 _ (by omega) (.inr rfl), Nat.pow_zero, Nat.mul_one]
    · obtain ⟨k1, k2⟩ := nor_range hlo hhi hbig
      refine ⟨_, near_nor s mag p L hm hL hsub hbig, min_pos (by omega), Nat.min_le_right _ _, fun hs => ?_⟩
      have hlt := lt_inf (a := p + L - 52) (c := mag * 2 ^ (52 - L)) (by omega) (by omega)
      rw [Nat.min_eq_left (Nat.le_of_lt hlt)]
      refine ⟨hlt, fun _ => ?_, fun h => absurd h hbig⟩
      rw [rv_of _ _ (by omega) (.inl k1), Nat.mul_assoc, ← Nat.pow_add]
      congr 2; omega

/-- The number of a finite word, in units of 2^-1074. -/
def sv (s : Bool) (r : Nat) : Int := if s then -(rv r : Int) else (rv r : Int)

theorem signed_eq (s : Bool) (m u : Nat) : signed s m u = if s then -((m * 2 ^ u : Nat) : Int) else ((m * 2 ^ u : Nat) : Int) := by
  unfold signed; rw [Nat.shiftLeft_eq]

theorem signed_scaled (s : Bool) (m i b r : Nat) (hb : b ≤ i) (h : m * 2 ^ i = rv r) : signed s m (i - b) * ((2 ^ b : Nat) : Int) = sv s r := by
  have e : m * 2 ^ (i - b) * 2 ^ b = rv r := by rw [← h, Nat.mul_assoc, ← Nat.pow_add]; congr 2; omega
  rw [signed_eq, sv, ← e]
  cases s
  · simp
  · simp only [if_true]; rw [Int.neg_mul, ← Int.natCast_mul]

theorem signed_not (t : Bool) (n u : Nat) : signed (!t) n u = - signed t n u := by
  rw [signed_eq, signed_eq]; cases t <;> simp

theorem log_lt {mag b N : Nat} (hm : mag ≠ 0) (h : mag * 2 ^ b < 2 ^ N) : b + mag.log2 < N := by
  have h1 : 2 ^ mag.log2 ≤ mag := Nat.log2_self_le hm
  have h2 : 2 ^ mag.log2 * 2 ^ b ≤ mag * 2 ^ b := Nat.mul_le_mul_right _ h1
  rw [← Nat.pow_add] at h2
  have h3 := Nat.lt_of_le_of_lt h2 h
  have := (Nat.pow_lt_pow_iff_right (a := 2) (by omega)).1 h3
  omega

theorem rv_bound {mag b N r : Nat} (hm : mag ≠ 0) (h : mag * 2 ^ b < 2 ^ N) (h1 : mag.log2 ≤ 52 → rv r = mag * 2 ^ b) (h2 : 52 < mag.log2 → 2 * rv r ≤ 2 * (mag * 2 ^ b) + 2 ^ b * 2 ^ (mag.log2 - 52)) : rv r < 2 ^ (N + 1) := by
  rw [Nat.pow_succ]
  by_cases hl : mag.log2 ≤ 52
  · rw [h1 hl]; omega
  · have := h2 (by omega)
    have k1 : 2 ^ (mag.log2 - 52) ≤ 2 ^ mag.log2 := Nat.pow_le_pow_right (by omega) (by omega)
    have k2 := Nat.le_trans k1 (Nat.log2_self_le hm)
    have k3 : 2 ^ b * 2 ^ (mag.log2 - 52) ≤ mag * 2 ^ b := by rw [Nat.mul_comm mag]; exact Nat.mul_le_mul_left _ k2
    generalize 2 ^ b * 2 ^ (mag.log2 - 52) = X at *
    generalize mag * 2 ^ b = Y at *
    generalize 2 ^ N = Z at *
    omega

/-- A DIFFERENCE: nought where the two are one word. -/
theorem sub_self_word (s : Bool) (r : Nat) (hr : r < INF) : double.sub (double.word s r) (double.word s r) = some 0 := by
  obtain ⟨m, i, hrd, _⟩ := read_word s r hr
  unfold Format.sub
  rw [hrd]
  simp only [Datum.opposite, Datum.sum, Int.min_self, Int.sub_self, Option.map_some, signed_not]
  rw [show signed s m (Int.toNat 0) + -signed s m (Int.toNat 0) = 0 from by omega]
  cases s <;> simp [Format.write, Format.nearest, Format.word]

/-- A DIFFERENCE of two unequal numbers: it isn't nought, and bears its sign. -/
theorem sub_words (s t : Bool) (r1 r2 N : Nat) (h1 : r1 < INF) (h2 : r2 < INF) (hN : N ≤ 1900) (hne : sv s r1 ≠ sv t r2) (hlt : (sv s r1 - sv t r2).natAbs < 2 ^ N) :
    ∃ r, double.sub (double.word s r1) (double.word t r2) = some (double.word (decide (sv s r1 < sv t r2)) r) ∧ 0 < r ∧ r < INF ∧ rv r < 2 ^ (N + 1) := by
  obtain ⟨m, i, hrd, hm, _⟩ := read_word s r1 h1
  obtain ⟨n, j, hrd2, hn, _⟩ := read_word t r2 h2
  unfold Format.sub
  rw [hrd, hrd2]
  simp only [Datum.opposite, Datum.sum, Option.map_some, signed_not]
  have eb : min ((i : Int) - 1074) ((j : Int) - 1074) = ((min i j : Nat) : Int) - 1074 := by omega
  rw [eb]
  obtain ⟨b, hb⟩ : ∃ b, min i j = b := ⟨_, rfl⟩
  rw [hb]
  have e1 : ((i : Int) - 1074 - ((b : Int) - 1074)).toNat = i - b := by omega
  have e2 : ((j : Int) - 1074 - ((b : Int) - 1074)).toNat = j - b := by omega
  rw [e1, e2]
  have s1 := signed_scaled s m i b r1 (by omega) hm
  have s2 := signed_scaled t n j b r2 (by omega) hn
  obtain ⟨T, hT⟩ : ∃ T, signed s m (i - b) + -signed t n (j - b) = T := ⟨_, rfl⟩
  rw [hT]
  have hTs : T * ((2 ^ b : Nat) : Int) = sv s r1 - sv t r2 := by rw [← hT, Int.add_mul, Int.neg_mul, s1, s2]; omega
  have hpow : (0 : Int) < ((2 ^ b : Nat) : Int) := by have := Nat.two_pow_pos b; omega
  have hT0 : T ≠ 0 := by intro h; rw [h] at hTs; simp at hTs; omega
  have hneg : (T < 0) = (sv s r1 < sv t r2) := by
    have a1 : T < 0 ↔ T * ((2 ^ b : Nat) : Int) < 0 := ⟨fun h => Int.mul_neg_of_neg_of_pos h hpow, fun h => by
      rcases Int.lt_or_le T 0 with h' | h'
      · exact h'
      · have := Int.mul_nonneg h' (Int.le_of_lt hpow); omega⟩
    rw [eq_iff_iff, a1, hTs]; omega
  have hna : T.natAbs * 2 ^ b = (sv s r1 - sv t r2).natAbs := by rw [← hTs, Int.natAbs_mul, Int.natAbs_natCast]
  have hm0 : T.natAbs ≠ 0 := by omega
  have hsz : T.natAbs * 2 ^ b < 2 ^ N := by rw [hna]; exact hlt
  have hlog := log_lt hm0 hsz
  obtain ⟨r, hr, r0, rI, hrest⟩ := nearest_pos (decide (T < 0)) T.natAbs b hm0
  obtain ⟨g1, g2, g3⟩ := hrest (by omega)
  refine ⟨r, ?_, r0, g1, rv_bound hm0 hsz g2 fun h => (g3 h).1⟩
  simp only [if_neg hT0, Format.write]
  rw [hr]
  simp only [hneg]

theorem two53 : (2 : Nat) ^ 53 = 9007199254740992 := by decide
theorem cmp_gt {a b : Int} (h : b < a) : compare a b = .gt := by
  show compareOfLessAndEq a b = .gt
  unfold compareOfLessAndEq
  rw [if_neg (by omega), if_neg (by omega)]
theorem cmp_lt {a b : Int} (h : a < b) : compare a b = .lt := by
  show compareOfLessAndEq a b = .lt
  unfold compareOfLessAndEq
  rw [if_pos h]

/-- A QUOTIENT of a positive number, not too small, by one that is no nought, not too great: it isn't nought, and bears the divisor's sign. -/
theorem div_words (s : Bool) (rn r : Nat) (h1 : rn < INF) (h2 : r < INF) (h0 : 0 < r) (hn : 2 ^ 1073 ≤ rv rn) (hr : rv r < 2 ^ 1200) :
    ∃ r', double.div (double.word false rn) (double.word s r) = some (double.word s r') ∧ 0 < r' ∧ r' ≤ INF := by
  obtain ⟨m, i, hrd, hm, hm53, _, hmz⟩ := read_word false rn h1
  obtain ⟨n, j, hrd2, hn2, hn53, _, hnz⟩ := read_word s r h2
  have hn0 : n ≠ 0 := by omega
  have hm0 : m ≠ 0 := by
    intro h; rw [h, Nat.zero_mul] at hm; rw [← hm] at hn
    have := Nat.two_pow_pos 1073; generalize 2 ^ 1073 = X at *; omega
  have hi : 1020 ≤ i := by
    rcases Nat.lt_or_ge i 1020 with h | h
    · exfalso
      have a1 : m * 2 ^ i < 2 ^ 53 * 2 ^ i := Nat.mul_lt_mul_of_pos_right (by rw [two53]; exact hm53) (Nat.two_pow_pos _)
      rw [← Nat.pow_add, hm] at a1
      have a2 := Nat.lt_of_le_of_lt hn a1
      have := (Nat.pow_lt_pow_iff_right (a := 2) (by omega)).1 a2
      omega
    · exact h
  have hj : j < 1200 := by
    have a1 : 1 * 2 ^ j ≤ n * 2 ^ j := Nat.mul_le_mul_right _ (by omega)
    rw [hn2, Nat.one_mul] at a1
    exact (Nat.pow_lt_pow_iff_right (a := 2) (by omega)).1 (Nat.lt_of_le_of_lt a1 hr)
  have hln : n.log2 ≤ 52 := by
    have : n.log2 < 53 := (Nat.log2_lt hn0).2 (by rw [two53]; exact hn53)
    omega
  unfold Format.div
  rw [hrd, hrd2, fb_double]
  simp only [Datum.quotient, if_neg hn0, Option.map_some, Format.write, Bool.false_xor]
  obtain ⟨mo, hmo⟩ : ∃ mo, 52 + 2 + n.log2 - m.log2 = mo := ⟨_, rfl⟩
  rw [hmo]
  have hmo2 : mo ≤ 106 := by omega
  have hpl : (i : Int) - 1074 - ((j : Int) - 1074) - (mo : Int) - 1 = ((i + 1074 - j - mo - 1 : Nat) : Int) - 1074 := by omega
  rw [hpl]
  have hd0 : m <<< mo ≠ 0 := by rw [Nat.shiftLeft_eq]; exact Nat.ne_of_gt (Nat.mul_pos (by omega) (Nat.two_pow_pos _))
  generalize m <<< mo = D at *
  have hmag : 2 * (D / n) + (D % n != 0).toNat ≠ 0 := by
    intro h
    have q0 : D / n = 0 := by omega
    have hlt : D < n := by
      rcases Nat.div_eq_zero_iff.1 q0 with h' | h'
      · exact absurd h' hn0
      · exact h'
    rw [Nat.mod_eq_of_lt hlt] at h
    have : (D != 0) = true := by simpa using hd0
    rw [this] at h; simp at h
  obtain ⟨r', hr', p1, p2, _⟩ := nearest_pos s (2 * (D / n) + (D % n != 0).toNat) (i + 1074 - j - mo - 1) hmag
  exact ⟨r', by rw [hr'], p1, p2⟩

theorem order_zero (s : Bool) (r : Nat) (h0 : 0 < r) (h : r ≤ INF) : double.order (double.word s r) 0 = some (if s then .lt else .gt) := by
  have hz : double.read 0 = .number false 0 (-1074) := by decide
  unfold Format.order
  rw [hz]
  rcases Nat.lt_or_eq_of_le h with h | h
  · obtain ⟨m, i, hrd, hm, _, _, hmz⟩ := read_word s r h
    rw [hrd]
    have eb : min ((i : Int) - 1074) (-1074) = -1074 := by omega
    have e1 : ((i : Int) - 1074 - -1074).toNat = i := by omega
    simp only [Datum.order, eb, e1, signed_eq]
    have hp : 0 < m * 2 ^ i := Nat.mul_pos (by omega) (Nat.two_pow_pos _)
    generalize m * 2 ^ i = X at *
    cases s
    · simp only [Bool.false_eq_true, if_false, Nat.zero_mul, Option.some.injEq]
      exact cmp_gt (by omega)
    · simp only [if_true, Bool.false_eq_true, if_false, Nat.zero_mul, Option.some.injEq]
      exact cmp_lt (by omega)
  · subst h
    rw [read_inf]
    rfl

theorem order_self (s : Bool) (r : Nat) (h : r ≤ INF) : double.order (double.word s r) (double.word s r) = some .eq := by
  unfold Format.order
  rcases Nat.lt_or_eq_of_le h with h | h
  · obtain ⟨m, i, hrd, _⟩ := read_word s r h
    rw [hrd]
    simp [Datum.order, Std.ReflCmp.compare_self]
  · subst h
    rw [read_inf]
    simp [Datum.order, Std.ReflCmp.compare_self]

theorem order_00 : double.order 0 0 = some .eq := by decide

def EE : Nat := 2 ^ 1041
def UU : Nat := 2 ^ 1074
theorem UU_EE : UU = 8589934592 * EE := by
  unfold UU EE
  rw [show (8589934592 : Nat) = 2 ^ 33 from by decide, ← Nat.pow_add]
theorem EE_pos : 0 < EE := Nat.two_pow_pos _

theorem f64_nearest (a : Int) : FloatKind.f64.nearest a = double.nearest (decide (a < 0)) a.natAbs (((1074 : Nat) : Int) - 1074) := rfl

/-- 'float64(a)' of a whole number that isn't nought and has at most 53 digits: exact. -/
theorem int_word (a : Int) (h0 : a ≠ 0) (hb : a.natAbs < 9007199254740992) : ∃ r, FloatKind.f64.nearest a = double.word (decide (a < 0)) r ∧ r < INF ∧ 4503599627370496 ≤ r ∧ rv r = a.natAbs * UU := by
  have hm : a.natAbs ≠ 0 := by omega
  have hlog : a.natAbs.log2 < 53 := (Nat.log2_lt hm).2 (by rw [two53]; exact hb)
  obtain ⟨r, hr, r0, rI, hrest⟩ := nearest_pos (decide (a < 0)) a.natAbs 1074 hm
  obtain ⟨g1, g2, _⟩ := hrest (by omega)
  have hv := g2 (by omega)
  refine ⟨r, by rw [f64_nearest, hr], g1, ?_, hv⟩
  rcases Nat.lt_or_ge r 4503599627370496 with h | h
  · exfalso
    have e : rv r = r := by simp [rv, h]
    rw [e] at hv
    have h1 : 1 * 2 ^ 1074 ≤ a.natAbs * 2 ^ 1074 := Nat.mul_le_mul_right _ (by omega)
    rw [← hv, Nat.one_mul] at h1
    have h2 : (2 : Nat) ^ 52 ≤ 2 ^ 1074 := Nat.pow_le_pow_right (by omega) (by omega)
    have h3 : (2 : Nat) ^ 52 = 4503599627370496 := by decide
    rw [h3] at h2
    generalize (2 : Nat) ^ 1074 = X at *
    omega
  · exact h

theorem read_1000 : double.read 4652007308841189376 = .number false 8796093022208000 (-43) := by decide
theorem log_1000 : Nat.log2 8796093022208000 = 52 := by decide

theorem quot_arith (m : Nat) : ∃ g, 2 * (m * 18014398509481984 / 8796093022208000) + (m * 18014398509481984 % 8796093022208000 != 0).toNat = g ∧ 1000 * g ≤ 4096 * m + 1000 ∧ 4096 * m ≤ 1000 * g + 1000 := by
  have e1 : m * 18014398509481984 / 8796093022208000 = m * 2048 / 1000 := by
    rw [show m * 18014398509481984 = m * 2048 * 8796093022208 from by omega, show 8796093022208000 = 1000 * 8796093022208 from by decide, Nat.mul_div_mul_right _ _ (by decide)]
  have e2 : m * 18014398509481984 % 8796093022208000 = m * 2048 % 1000 * 8796093022208 := by
    rw [show m * 18014398509481984 = m * 2048 * 8796093022208 from by omega, show 8796093022208000 = 1000 * 8796093022208 from by decide, Nat.mul_mod_mul_right]
  rw [e1, e2]
  refine ⟨_, rfl, ?_⟩
  by_cases h : m * 2048 % 1000 = 0
  · simp [h]; omega
  · have : (m * 2048 % 1000 * 8796093022208 != 0) = true := by
      rw [bne_iff_ne]; omega
    rw [this]; simp only [Bool.toNat_true]; omega

/-- 'float64(a) / 1000': how far it lies off. -/
theorem q_spec (a : Int) (h1 : -2147483648 ≤ a) (h2 : a ≤ 2147483647) : ∃ r, double.div (FloatKind.f64.nearest a) 4652007308841189376 = some (double.word (decide (a < 0)) r) ∧ r < INF ∧
    1000 * sv (decide (a < 0)) r ≤ a * (UU : Int) + 5000 * (EE : Int) ∧ a * (UU : Int) ≤ 1000 * sv (decide (a < 0)) r + 5000 * (EE : Int) := by
  have hE := EE_pos
  by_cases h0 : a = 0
  · subst h0
    refine ⟨0, by decide, by decide, ?_, ?_⟩
    · simp [sv, rv]; omega
    · simp [sv, rv]; omega
  obtain ⟨ra, hra, raI, rab, rav⟩ := int_word a h0 (by omega)
  obtain ⟨m, i, hrd, hm, hm53, hm52', hmz⟩ := read_word (decide (a < 0)) ra raI
  have hm52 := hm52' rab
  rw [rav] at hm
  have hm0 : m ≠ 0 := by omega
  have hlm : m.log2 = 52 := by
    have l1 : m.log2 < 53 := (Nat.log2_lt hm0).2 (by rw [two53]; exact hm53)
    have l2 : 52 ≤ m.log2 := (Nat.le_log2 hm0).2 (by have : (2 : Nat) ^ 52 = 4503599627370496 := by decide
                                                     rw [this]; exact hm52)
    omega
  -- the place
  have hi1 : 1021 ≤ i := by
    rcases Nat.lt_or_ge i 1021 with h | h
    · exfalso
      have a1 : m * 2 ^ i < 2 ^ 53 * 2 ^ i := Nat.mul_lt_mul_of_pos_right (by rw [two53]; exact hm53) (Nat.two_pow_pos _)
      have a2 : 1 * UU ≤ a.natAbs * UU := Nat.mul_le_mul_right _ (by omega)
      rw [← hm, Nat.one_mul] at a2
      rw [← Nat.pow_add] at a1
      have a3 := Nat.lt_of_le_of_lt a2 a1
      unfold UU at a3
      have := (Nat.pow_lt_pow_iff_right (a := 2) (by omega)).1 a3
      omega
    · exact h
  have hi2 : i ≤ 1053 := by
    have a1 : 2 ^ 52 * 2 ^ i ≤ m * 2 ^ i := Nat.mul_le_mul_right _ (by have : (2 : Nat) ^ 52 = 4503599627370496 := by decide
                                                                       rw [this]; exact hm52)
    have a2 : a.natAbs * UU ≤ 2 ^ 31 * UU := Nat.mul_le_mul_right _ (by have : (2 : Nat) ^ 31 = 2147483648 := by decide
                                                                        rw [this]; omega)
    rw [← hm] at a2
    have a3 := Nat.le_trans a1 a2
    unfold UU at a3
    rw [← Nat.pow_add, ← Nat.pow_add] at a3
    have := (Nat.pow_le_pow_iff_right (a := 2) (by omega)).1 a3
    omega
  obtain ⟨p, rfl⟩ : ∃ p, i = p + 12 := ⟨i - 12, by omega⟩
  obtain ⟨g, hg, g1, g2⟩ := quot_arith m
  have hg0 : g ≠ 0 := by omega
  have hgl : g.log2 ≤ 55 := by
    have : g.log2 < 56 := (Nat.log2_lt hg0).2 (by have : (2 : Nat) ^ 56 = 72057594037927936 := by decide
                                                  rw [this]; omega)
    omega
  obtain ⟨r, hr, r0, rI, hrest⟩ := nearest_pos (decide (a < 0)) g p hg0
  obtain ⟨k1, k2, k3⟩ := hrest (by omega)
  refine ⟨r, ?_, k1, ?_⟩
  · unfold Format.div
    rw [hra, hrd, read_1000, fb_double]
    simp only [Datum.quotient, Bool.xor_false, log_1000, hlm, Nat.shiftLeft_eq]
    rw [if_neg (by omega), show (2 : Nat) ^ (52 + 2 + 52 - 52) = 18014398509481984 from by decide, hg,
      show ((p + 12 : Nat) : Int) - 1074 - -43 - ((52 + 2 + 52 - 52 : Nat) : Int) - 1 = (p : Int) - 1074 from by omega]
    simp only [Option.map_some, Format.write]
    rw [hr]
  · -- the error
    have kk : rv r ≤ g * 2 ^ p + 4 * 2 ^ p ∧ g * 2 ^ p ≤ rv r + 4 * 2 ^ p := by
      by_cases hl : g.log2 ≤ 52
      · rw [k2 hl]; omega
      · obtain ⟨u1, u2⟩ := k3 (by omega)
        have u3 : 2 ^ (g.log2 - 52) ≤ 2 ^ 3 := Nat.pow_le_pow_right (by omega) (by omega)
        have u4 : 2 ^ p * 2 ^ (g.log2 - 52) ≤ 2 ^ p * 8 := Nat.mul_le_mul_left _ u3
        generalize 2 ^ p * 2 ^ (g.log2 - 52) = X at *
        generalize g * 2 ^ p = Y at *
        generalize 2 ^ p = Z at *
        omega
    have hpE : 2 ^ p ≤ EE := Nat.pow_le_pow_right (by omega) (by omega)
    have hmU : 4096 * (m * 2 ^ p) = a.natAbs * UU := by
      rw [← hm, Nat.pow_add, show (2 : Nat) ^ 12 = 4096 from by decide, Nat.mul_comm 4096, Nat.mul_assoc]
    have w1 : 1000 * (g * 2 ^ p) ≤ 4096 * (m * 2 ^ p) + 1000 * 2 ^ p := by
      have := Nat.mul_le_mul_right (2 ^ p) g1
      simp only [Nat.add_mul, Nat.mul_assoc] at this
      exact this
    have w2 : 4096 * (m * 2 ^ p) ≤ 1000 * (g * 2 ^ p) + 1000 * 2 ^ p := by
      have := Nat.mul_le_mul_right (2 ^ p) g2
      simp only [Nat.add_mul, Nat.mul_assoc] at this
      exact this
    have fin : 1000 * rv r ≤ a.natAbs * UU + 5000 * EE ∧ a.natAbs * UU ≤ 1000 * rv r + 5000 * EE := by
      rw [← hmU]
      generalize g * 2 ^ p = Y at *
      generalize m * 2 ^ p = Y2 at *
      generalize 2 ^ p = Z at *
      omega
    have hc : ((a.natAbs * UU : Nat) : Int) = (a.natAbs : Int) * (UU : Int) := Int.natCast_mul _ _
    by_cases hneg : a < 0
    · have e : a * (UU : Int) = -((a.natAbs * UU : Nat) : Int) := by
        rw [hc, ← Int.neg_mul]; congr 1; omega
      rw [e]; simp only [hneg, decide_true, sv, if_true]
      generalize a.natAbs * UU = A at *
      omega
    · have e : a * (UU : Int) = ((a.natAbs * UU : Nat) : Int) := by
        rw [hc]; congr 1; omega
      rw [e]; simp only [hneg, decide_false, sv, Bool.false_eq_true, if_false]
      generalize a.natAbs * UU = A at *
      omega

/-! ### What the law asks -/
/-- The bits of 'float64(a)/1000'. -/
def qb (a : Int) : Nat := (double.div (FloatKind.f64.nearest a) 4652007308841189376).getD 0
/-- The bits of 'float64(l)/1000 - float64(f)/1000'. -/
def sb (l f : Int) : Nat := (double.sub (qb l) (qb f)).getD 0
/-- The bits of 'float64(n) / span'. -/
def rb (n : Nat) (l f : Int) : Nat := (double.div (FloatKind.f64.nearest n) (sb l f)).getD 0

theorem qb_eq (a : Int) (h1 : -2147483648 ≤ a) (h2 : a ≤ 2147483647) : double.div (FloatKind.f64.nearest a) 4652007308841189376 = some (qb a) := by
  obtain ⟨r, hr, _⟩ := q_spec a h1 h2
  unfold qb; rw [hr]; rfl

theorem sb_same (a : Int) (h1 : -2147483648 ≤ a) (h2 : a ≤ 2147483647) : double.sub (qb a) (qb a) = some 0 ∧ sb a a = 0 := by
  obtain ⟨r, hr, hI, _⟩ := q_spec a h1 h2
  have e : qb a = double.word (decide (a < 0)) r := by unfold qb; rw [hr]; rfl
  have := sub_self_word (decide (a < 0)) r hI
  rw [← e] at this
  exact ⟨this, by unfold sb; rw [this]; rfl⟩

theorem sb_spec (l f : Int) (h1 : -2147483648 ≤ l) (h2 : l ≤ 2147483647) (h3 : -2147483648 ≤ f) (h4 : f ≤ 2147483647) (hne : l ≠ f) :
    ∃ r, double.sub (qb l) (qb f) = some (double.word (decide (l < f)) r) ∧ 0 < r ∧ r < INF ∧ rv r < 2 ^ 1200 := by
  obtain ⟨r1, hr1, hI1, b1, b2⟩ := q_spec l h1 h2
  obtain ⟨r2, hr2, hI2, b3, b4⟩ := q_spec f h3 h4
  have e1 : qb l = double.word (decide (l < 0)) r1 := by unfold qb; rw [hr1]; rfl
  have e2 : qb f = double.word (decide (f < 0)) r2 := by unfold qb; rw [hr2]; rfl
  have hE := EE_pos
  have hU := UU_EE
  have hUp : (0 : Int) ≤ (UU : Int) := by omega
  have B1 : l * (UU : Int) ≤ 2147483648 * (UU : Int) := Int.mul_le_mul_of_nonneg_right (by omega) hUp
  have B2 : -2147483648 * (UU : Int) ≤ l * (UU : Int) := Int.mul_le_mul_of_nonneg_right (by omega) hUp
  have B3 : f * (UU : Int) ≤ 2147483648 * (UU : Int) := Int.mul_le_mul_of_nonneg_right (by omega) hUp
  have B4 : -2147483648 * (UU : Int) ≤ f * (UU : Int) := Int.mul_le_mul_of_nonneg_right (by omega) hUp
  have hcmp : (sv (decide (l < 0)) r1 < sv (decide (f < 0)) r2) ↔ l < f := by
    rcases Int.lt_or_gt_of_ne hne with h | h
    · have : (l + 1) * (UU : Int) ≤ f * (UU : Int) := Int.mul_le_mul_of_nonneg_right (by omega) hUp
      rw [Int.add_mul] at this
      generalize l * (UU : Int) = X at *
      generalize f * (UU : Int) = Y at *
      constructor <;> intro _ <;> omega
    · have : (f + 1) * (UU : Int) ≤ l * (UU : Int) := Int.mul_le_mul_of_nonneg_right (by omega) hUp
      rw [Int.add_mul] at this
      generalize l * (UU : Int) = X at *
      generalize f * (UU : Int) = Y at *
      constructor <;> intro _ <;> omega
  have hcne : sv (decide (l < 0)) r1 ≠ sv (decide (f < 0)) r2 := by
    rcases Int.lt_or_gt_of_ne hne with h | h
    · have := hcmp.2 h; omega
    · have : (f + 1) * (UU : Int) ≤ l * (UU : Int) := Int.mul_le_mul_of_nonneg_right (by omega) hUp
      rw [Int.add_mul] at this
      generalize l * (UU : Int) = X at *
      generalize f * (UU : Int) = Y at *
      omega
  have hbd : (sv (decide (l < 0)) r1 - sv (decide (f < 0)) r2).natAbs < 2 ^ 1107 := by
    have e : (2 : Nat) ^ 1107 = 2 ^ 33 * UU := by unfold UU; rw [← Nat.pow_add]
    rw [e, show (2 : Nat) ^ 33 = 8589934592 from by decide]
    generalize l * (UU : Int) = X at *
    generalize f * (UU : Int) = Y at *
    generalize sv (decide (l < 0)) r1 = S at *
    generalize sv (decide (f < 0)) r2 = T at *
    clear e1 e2 hr1 hr2 hcmp e
    generalize UU = U at *
    generalize EE = E at *
    omega
  obtain ⟨r, hr, r0, rI, rb⟩ := sub_words (decide (l < 0)) (decide (f < 0)) r1 r2 1107 hI1 hI2 (by omega) hcne hbd
  refine ⟨r, ?_, r0, rI, Nat.lt_of_lt_of_le rb (Nat.pow_le_pow_right (by omega) (by omega))⟩
  rw [e1, e2, hr]
  simp only [hcmp]

theorem sb_eq (l f : Int) (h1 : -2147483648 ≤ l) (h2 : l ≤ 2147483647) (h3 : -2147483648 ≤ f) (h4 : f ≤ 2147483647) : double.sub (qb l) (qb f) = some (sb l f) := by
  by_cases hne : l = f
  · subst hne
    have := sb_same l h1 h2
    rw [this.1, this.2]
  · obtain ⟨r, hr, _⟩ := sb_spec l f h1 h2 h3 h4 hne
    unfold sb; rw [hr]; rfl

theorem sb_ne (l f : Int) (h1 : -2147483648 ≤ l) (h2 : l ≤ 2147483647) (h3 : -2147483648 ≤ f) (h4 : f ≤ 2147483647) (hne : l ≠ f) : (double.order (sb l f) 0 == some .eq) = false := by
  obtain ⟨r, hr, r0, rI, _⟩ := sb_spec l f h1 h2 h3 h4 hne
  have e : sb l f = double.word (decide (l < f)) r := by unfold sb; rw [hr]; rfl
  rw [e, order_zero _ _ r0 (Nat.le_of_lt rI)]
  by_cases h : l < f <;> simp [h]

theorem rb_spec (n : Nat) (l f : Int) (hn : 0 < n) (hn2 : n ≤ 1024) (h1 : -2147483648 ≤ l) (h2 : l ≤ 2147483647) (h3 : -2147483648 ≤ f) (h4 : f ≤ 2147483647) (hne : l ≠ f) :
    double.div (FloatKind.f64.nearest n) (sb l f) = some (rb n l f) ∧ (double.order (rb n l f) (rb n l f) = some .eq) ∧
    double.order (rb n l f) 0 = some (if l < f then .lt else .gt) := by
  obtain ⟨r, hr, r0, rI, rbd⟩ := sb_spec l f h1 h2 h3 h4 hne
  have e : sb l f = double.word (decide (l < f)) r := by unfold sb; rw [hr]; rfl
  obtain ⟨rn, hrn, rnI, _, rnv⟩ := int_word (n : Int) (by omega) (by omega)
  have hlow : 2 ^ 1073 ≤ rv rn := by
    rw [rnv]
    have a1 : 1 * UU ≤ (n : Int).natAbs * UU := Nat.mul_le_mul_right _ (by omega)
    have a2 : (2 : Nat) ^ 1073 ≤ 2 ^ 1074 := Nat.pow_le_pow_right (by omega) (by omega)
    rw [Nat.one_mul] at a1
    exact Nat.le_trans a2 a1
  obtain ⟨r', hd, p0, pI⟩ := div_words (decide (l < f)) rn r rnI rI r0 hlow rbd
  have en : decide ((n : Int) < 0) = false := by simp
  rw [en] at hrn
  have e2 : double.div (FloatKind.f64.nearest n) (sb l f) = some (double.word (decide (l < f)) r') := by rw [hrn, e, hd]
  have e3 : rb n l f = double.word (decide (l < f)) r' := by unfold rb; rw [e2]; rfl
  refine ⟨by rw [e2, e3], by rw [e3]; exact order_self _ _ pI, ?_⟩
  rw [e3, order_zero _ _ p0 pI]
  by_cases h : l < f <;> simp [h]

end Go.Proofs.Ybulkctlk.AF
