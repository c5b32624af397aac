/- THE ENCODER, PLAIN; the contract of 'binary.AppendUvarint' (7). -/
import Derived.Test.YbulkctlyFmtParse
import Derived.Maps.AppendAt
import Derived.Lib.Varint
import Derived.Maps.Range
import Derived.Deep.DeepCutAuto
namespace Go.Proofs.YbulkctlyFmt.FP
/-- The bytes of x, at most k + 1 of them. -/
def enc : Nat → Nat → List Nat
  | 0, x => [x]
  | k + 1, x => if x < 128 then [x] else (x % 128 + 128) :: enc k (x / 128)

theorem enc_len : ∀ k x, 0 < (enc k x).length ∧ (enc k x).length ≤ k + 1
  | 0, x => by simp [enc]
  | k + 1, x => by
    simp only [enc]
    by_cases h : x < 128
    · rw [if_pos h]; simp
    · rw [if_neg h]
      have := enc_len k (x / 128)
      simp; omega
theorem enc_byte : ∀ k x, x < 128 ^ (k + 1) → ∀ y ∈ enc k x, y < 256
  | 0, x, h, y, hy => by simp [enc] at hy; subst hy; simp at h; omega
  | k + 1, x, h, y, hy => by
    simp only [enc] at hy
    by_cases h1 : x < 128
    · rw [if_pos h1] at hy; simp at hy; omega
    · rw [if_neg h1] at hy
      rcases List.mem_cons.1 hy with e | hy
      · omega
      · refine enc_byte k (x / 128) ?_ y hy
        rw [Nat.pow_succ] at h
        exact Nat.div_lt_of_lt_mul (by rw [Nat.mul_comm]; exact h)
theorem dv_enc : ∀ (k i x : Nat) (rest : List Nat), i + k ≤ 8 → x < 128 ^ (k + 1) → dv i (enc k x ++ rest) = some (x * 2 ^ (7 * i), i + (enc k x).length)
  | 0, i, x, rest, hi, hx => by
    simp only [enc, List.singleton_append, dv]
    rw [if_neg (by omega), if_pos (by simpa using hx), if_neg (by omega)]; simp
  | k + 1, i, x, rest, hi, hx => by
    simp only [enc]
    by_cases h1 : x < 128
    · rw [if_pos h1]
      simp only [List.singleton_append, dv]
      rw [if_neg (by omega), if_pos h1, if_neg (by omega)]; simp
    · rw [if_neg h1]
      simp only [List.cons_append, dv]
      have hx' : x / 128 < 128 ^ (k + 1) := by
        rw [Nat.pow_succ] at hx
        exact Nat.div_lt_of_lt_mul (by rw [Nat.mul_comm]; exact hx)
      rw [if_neg (by omega), if_neg (by omega), dv_enc k (i + 1) (x / 128) rest (by omega) hx']
      simp only [Option.map_some, Option.some.injEq, Prod.mk.injEq, List.length_cons]
      refine ⟨?_, by omega⟩
      rw [Nat.mul_add, Nat.pow_add, show (2 : Nat) ^ (7 * 1) = 128 from by decide, Nat.add_sub_cancel]
      have e : x = x % 128 + 128 * (x / 128) := (Nat.mod_add_div x 128).symm
      have e2 : x * 2 ^ (7 * i) = (x % 128) * 2 ^ (7 * i) + (128 * (x / 128)) * 2 ^ (7 * i) := by rw [← Nat.add_mul, ← e]
      rw [e2]
      congr 1
      rw [Nat.mul_comm 128 (x / 128), Nat.mul_assoc, Nat.mul_comm 128]
theorem dec_enc (x : Nat) (rest : List Nat) (hx : x < 2097152) : dec (enc 2 x ++ rest) = some (x, (enc 2 x).length) := by
  have := dv_enc 2 0 x rest (by omega) (by simpa using hx)
  simpa [dec] using this

def encs : List (Nat × Nat) → List Nat
  | [] => []
  | p :: l => enc 2 p.1 ++ (enc 2 p.2 ++ encs l)
theorem encs_append (a b : List (Nat × Nat)) : encs (a ++ b) = encs a ++ encs b := by
  induction a with
  | nil => rfl
  | cons p l ih => simp [encs, ih]
theorem encs_snoc (a : List (Nat × Nat)) (f g : Nat) : encs (a ++ [(f, g)]) = encs a ++ enc 2 f ++ enc 2 g := by
  rw [encs_append]; simp [encs]
theorem encs_len (a : List (Nat × Nat)) : a.length * 2 ≤ (encs a).length ∧ (encs a).length ≤ a.length * 6 := by
  induction a with
  | nil => simp [encs]
  | cons p l ih =>
    have h1 := enc_len 2 p.1
    have h2 := enc_len 2 p.2
    simp [encs]; omega
theorem encs_byte (a : List (Nat × Nat)) (h : ∀ x ∈ a, x.1 < 2097152 ∧ x.2 < 2097152) : ∀ y ∈ encs a, y < 256 := by
  induction a with
  | nil => simp [encs]
  | cons p l ih =>
    intro y hy
    simp only [encs, List.mem_append] at hy
    have hp := h p (by simp)
    rcases hy with hy | hy | hy
    · exact enc_byte 2 p.1 (by simpa using hp.1) y hy
    · exact enc_byte 2 p.2 (by simpa using hp.2) y hy
    · exact ih (fun x hx => h x (by simp [hx])) y hy

/-- One step at an encoded pair. -/
theorem step_enc (upto : Int) (acc : List (Nat × Nat)) (f g : Nat) (rest : List Nat) (hf : f < 2097152) (hg : g < 2097152) :
    step upto (enc 2 f ++ (enc 2 g ++ rest)) acc = if bad upto acc f g = true then none else some (rest, acc ++ [(f, g)]) := by
  unfold step
  have e : (2 : Nat) ^ 62 = 4611686018427387904 := by decide
  rw [dec_enc f _ hf]
  simp only
  rw [if_neg (by rw [e]; omega), List.drop_left, dec_enc g _ hg]
  simp only
  rw [if_neg (by rw [e]; omega), List.drop_left]
theorem parse_enc (upto : Int) (k : Nat) (acc : List (Nat × Nat)) (f g : Nat) (rest : List Nat) (hf : f < 2097152) (hg : g < 2097152) :
    parse upto (k + 1) (enc 2 f ++ (enc 2 g ++ rest)) acc = if bad upto acc f g = true then none else parse upto k rest (acc ++ [(f, g)]) := by
  have hs := step_enc upto acc f g rest hf hg
  have hl := (enc_len 2 f).1
  cases hh : enc 2 f with
  | nil => rw [hh] at hl; simp at hl
  | cons y l =>
    rw [hh] at hs
    simp only [List.cons_append] at hs ⊢
    simp only [parse]
    rw [hs]
    by_cases hb : bad upto acc f g = true
    · rw [if_pos hb, if_pos hb]
    · rw [if_neg hb, if_neg hb]

/-- The spans so far; P - 1 is the last one's end. -/
structure Fine (acc : List (Nat × Nat)) (P : Nat) : Prop where
  zero : acc = [] → P = 0
  last : acc ≠ [] → 0 < P ∧ last? acc = some (P - 1)
  yes : ∀ (upto : Int) (k : Nat) (rest : List Nat), (P : Int) ≤ upto → parse upto (acc.length + k) (encs acc ++ rest) [] = parse upto k rest acc
  no : acc ≠ [] → ∀ (upto : Int) (k : Nat) (rest : List Nat), upto < (P : Int) → parse upto (acc.length + k) (encs acc ++ rest) [] = none
  small : ∀ x ∈ acc, x.1 < 2097152 ∧ x.2 < 2097152

theorem Fine.nil : Fine [] 0 := ⟨fun _ => rfl, fun h => absurd rfl h, fun upto k rest _ => by simp [encs], fun h => absurd rfl h, by simp⟩
theorem last_snoc (acc : List (Nat × Nat)) (f g : Nat) : last? (acc ++ [(f, g)]) = some g := by simp [last?]

theorem Fine.push {acc : List (Nat × Nat)} {P : Nat} (h : Fine acc P) (f g : Nat) (hf : P + 1 ≤ f) (hg : f ≤ g) (hs : g < 2097152) : Fine (acc ++ [(f, g)]) (g + 1) := by
  have hb : ∀ upto : Int, bad upto acc f g = decide (upto ≤ (g : Int)) := fun upto => by
    have e1 : decide (f < 1) = false := decide_eq_false (by omega)
    have e2 : decide (g < f) = false := decide_eq_false (by omega)
    unfold bad
    rw [e1, e2]
    by_cases ha : acc = []
    · subst ha
      simp [last?]
    · obtain ⟨hP, hl⟩ := h.last ha
      rw [hl]
      simp only
      have e3 : decide (f ≤ P - 1 + 1) = false := decide_eq_false (by omega)
      rw [e3]; simp
  have hlen : ∀ k, (acc ++ [(f, g)]).length + k = acc.length + (k + 1) := fun k => by simp; omega
  have hl2 : ∀ rest, encs (acc ++ [(f, g)]) ++ rest = encs acc ++ (enc 2 f ++ (enc 2 g ++ rest)) := fun rest => by rw [encs_snoc]; simp
  refine ⟨fun e => by simp at e, fun _ => ⟨by omega, by rw [last_snoc]; simp⟩, fun upto k rest hu => ?_, fun _ upto k rest hu => ?_, fun x hx => ?_⟩
  · rw [hlen, hl2, h.yes upto (k + 1) _ (by omega), parse_enc upto k acc f g rest (by omega) hs, hb, if_neg (by simp; omega)]
  · rw [hlen, hl2]
    by_cases hu2 : (P : Int) ≤ upto
    · rw [h.yes upto (k + 1) _ hu2, parse_enc upto k acc f g rest (by omega) hs, hb, if_pos (by simp; omega)]
    · by_cases ha : acc = []
      · subst ha
        rw [show encs [] = [] from rfl, List.nil_append, List.length_nil, Nat.zero_add, parse_enc upto k [] f g rest (by omega) hs, hb, if_pos (by simp; omega)]
      · exact h.no ha upto (k + 1) _ (by omega)
  · rcases List.mem_append.1 hx with hx | hx
    · exact h.small x hx
    · simp at hx; subst hx; exact ⟨by show f < _; omega, hs⟩
theorem parse_nil (upto : Int) (k : Nat) (acc : List (Nat × Nat)) : parse upto k [] acc = some acc := by cases k <;> rfl
theorem Fine.parse_yes {acc : List (Nat × Nat)} {P : Nat} (h : Fine acc P) (upto : Int) (hu : (P : Int) ≤ upto) : parse upto (encs acc).length (encs acc) [] = some acc := by
  have hl := encs_len acc
  have := h.yes upto ((encs acc).length - acc.length) [] hu
  rw [List.append_nil, parse_nil, show acc.length + ((encs acc).length - acc.length) = (encs acc).length from by omega] at this
  exact this
theorem Fine.parse_no {acc : List (Nat × Nat)} {P : Nat} (h : Fine acc P) (ha : acc ≠ []) (upto : Int) (hu : upto < (P : Int)) : parse upto (encs acc).length (encs acc) [] = none := by
  have hl := encs_len acc
  have := h.no ha upto ((encs acc).length - acc.length) [] hu
  rw [List.append_nil, show acc.length + ((encs acc).length - acc.length) = (encs acc).length from by omega] at this
  exact this
end Go.Proofs.YbulkctlyFmt.FP
namespace Go.Proofs.YbulkctlyFmt.FV
open Go.ChangeShapes Go.WideShapes Go.ChangeAt Go.RowKit Go.Proofs.YbulkctlyFmt.FP
set_option linter.unusedVariables false

theorem info5 : (Ybaf.prog.info? 5).map (fun i => (i.zero, i.size, i.bytes)) = some (some (.int .u8 0), 1, 1) := by kernel_rfl
def bytes (l : List Nat) : List Value := l.map fun (n : Nat) => Value.int .u8 (n : Int)
theorem bytes_snoc (l : List Nat) (y : Nat) : bytes (l ++ [y]) = bytes l ++ [.int .u8 (y : Int)] := by simp [bytes]
theorem bytes_append (a b : List Nat) : bytes (a ++ b) = bytes a ++ bytes b := by simp [bytes]

/-- The row's block, then and now. -/
def Moved (w : World) (sv vb : Value) : Prop := vb.ownBlock = sv.ownBlock ∨ ∃ j, vb.ownBlock = some j ∧ w.heap.size ≤ j
theorem Moved.row {w : World} {sv vb : Value} (h : Moved w sv vb) : ∀ j, vb.ownBlock = some j → w.heap.size ≤ j ∨ sv.ownBlock = some j := fun j hj => by
  rcases h with h | ⟨i, hi, hl⟩
  · right; rw [← h]; exact hj
  · left; rw [hi] at hj; cases hj; exact hl

/-- '| 128' at a byte. -/
theorem or128 (y : Nat) (h : y < 256) : bits .or .u8 (y : Int) 128 = ((y % 128 + 128 : Nat) : Int) := by
  rw [Lib.u8_or128_any _ (by omega) (by omega)]; omega

set_option maxRecDepth 100000 in
set_option maxHeartbeats 400000 in
theorem put_any (B n x : Nat) (hx : x < 2097152) (xv : Int) (hxv : xv = (x : Int)) (sv : Value) (xs : List Value) (w : World) (hown : w.ownsRow B 5 1 sv n xs) (hBw : B ≤ w.heap.size) (hlim : n ≤ 1000000) :
    Calls Ybaf.prog 7 #[sv, .int .u64 xv] w fun e w' => ∃ v', e = .returned v' ∧ w'.ownsRow B 5 1 v' (n + (enc 2 x).length) (xs ++ bytes (enc 2 x)) ∧ w.grownBy w' sv.ownBlock ∧ Moved w sv v' := by
  subst hxv
  obtain ⟨i0, hi, hz0, hz1, hz2⟩ := info_parts info5
  have hlen := (enc_len 2 x).2
  have HLEN : Hid ((enc 2 x).length ≤ 3) := hlen
  clear hlen
  go_enter Ybaf.func7, Ybaf.ntmps7
  go_wp2
  go_loopg [0, 1] x (fun gh vb vx wr => ∃ (y k : Nat) (pre : List Nat), gh = y ∧ vx = .int .u64 y ∧ y < 2097152 ∧ y < 128 ^ (k + 1) ∧ enc 2 x = pre ++ enc k y ∧ wr.ownsRow B 5 1 vb (n + pre.length) (xs ++ bytes pre) ∧ w.grownBy wr sv.ownBlock ∧ Moved w sv vb)
  case atStart => exact ⟨x, 2, [], rfl, rfl, hx, by simpa using hx, rfl, by simpa [bytes] using hown, ⟨rfl, rfl, rfl, Nat.le_refl _, fun _ _ _ => rfl⟩, .inl rfl⟩
  case round =>
    obtain ⟨y, k, pre, hg, rfl, hy, hyk, hsp, hown1, hgr, hmv⟩ := hrel
    have HG : Hid (gk = y) := hg
    have HYK : Hid (y < 128 ^ (k + 1)) := hyk
    have HSP : Hid (enc 2 x = pre ++ enc k y) := hsp
    have HGR : Hid (w.grownBy wr sv.ownBlock) := hgr
    have HMV : Hid (Moved w sv u0) := hmv
    have hpl : pre.length ≤ 3 := by
      have h2 := congrArg List.length hsp
      rw [List.length_append] at h2
      have := HLEN.out
      omega
    have HOWN : Hid (∀ o, (wr.alloc o).ownsRow B 5 1 u0 (n + pre.length) (xs ++ bytes pre)) := fun o => hown1.alloc o
    have hws : B ≤ wr.heap.size := Nat.le_trans hBw hgr.size
    clear hg hyk hsp hgr hmv hown1 hown
    by_cases h128 : 128 ≤ y
    · have t1 : (128 : Int) ≤ (y : Int) := by omega
      have hor : bits .or .u8 ((y : Int) % 256) 128 = ((y % 128 + 128 : Nat) : Int) := by
        rw [show (y : Int) % 256 = ((y % 256 : Nat) : Int) from by omega, or128 _ (by omega)]
        congr 1; omega
      go_wp2_with (at_builtin; refine wpList_append_own_at _ rfl _ _ 22 rfl B 5 i0 _ 1 1 Ybaf.underlying22 hi hz0 hz1 hz2 rfl (by decide) _ (n + pre.length) (xs ++ bytes pre) rfl (by exact HOWN.out _) ⟨wr.heap.size, 0, none⟩ 1 1 [.int .u8 ((y % 128 + 128 : Nat) : Int)] rfl rfl (by exact World.news_of_block (cs := #[.int .u8 ((y % 128 + 128 : Nat) : Int)]) (t := 5) (fr := (0, 0)) (heap_alloc_new _ _)) (by simp [Value.oneCell']) (by unfold maxLen; omega) (by omega) (by simp; omega) ?_)
      intro v' w1 hown' hgrow' _ hmv'
      have HOW : Hid (w1.ownsRow B 5 1 v' (n + (pre ++ [y % 128 + 128]).length) (xs ++ bytes (pre ++ [y % 128 + 128]))) := by
        have ec : ((y % 128 + 128 : Nat) : Int) = (y : Int) % 128 + 128 := by omega
        rw [bytes_snoc, List.length_append, List.length_singleton, ← Nat.add_assoc, ec]; exact hown'
      have hga : wr.grownBy w1 u0.ownBlock := (World.grownBy_alloc wr _ _).trans hgrow'
      have HGR1 : Hid (w.grownBy w1 sv.ownBlock) := HGR.out.andThen hga HMV.out.row
      have HMV1 : Hid (Moved w sv v') := by
        rcases hmv' with h | h
        · rcases HMV.out with h2 | ⟨j, h2, h3⟩
          · exact .inl (h.trans h2)
          · exact .inr ⟨j, h.trans h2, h3⟩
        · exact .inr ⟨_, h, Nat.le_trans HGR.out.size (by simp)⟩
      clear hown' hgrow' hmv' hga
      go_wp2
      go_roundg (y / 128)
      case measure => rw [HG.out]; omega
      case rel =>
        cases k with
        | zero => have := HYK.out; simp at this; omega
        | succ k =>
          refine ⟨y / 128, k, pre ++ [y % 128 + 128], rfl, by go_num, by omega, ?_, ?_, HOW.out, HGR1.out, HMV1.out⟩
          · have h := HYK.out
            rw [Nat.pow_succ] at h
            exact Nat.div_lt_of_lt_mul (by rw [Nat.mul_comm]; exact h)
          · have h := HSP.out
            rw [show enc (k + 1) y = (y % 128 + 128) :: enc k (y / 128) from by simp only [enc]; rw [if_neg (show ¬ y < 128 by omega)]] at h
            rw [h]; simp
    · have t1 : ¬ (128 : Int) ≤ (y : Int) := by omega
      have hyn : ((y : Nat) : Int) % 256 = ((y : Nat) : Int) := by omega
      go_wp2_with (at_builtin; refine wpList_append_own_at _ rfl _ _ 22 rfl B 5 i0 _ 1 1 Ybaf.underlying22 hi hz0 hz1 hz2 rfl (by decide) _ (n + pre.length) (xs ++ bytes pre) rfl (by exact HOWN.out _) ⟨wr.heap.size, 0, none⟩ 1 1 [.int .u8 (y : Int)] rfl rfl (by exact World.news_of_block (cs := #[.int .u8 (y : Int)]) (t := 5) (fr := (0, 0)) (heap_alloc_new _ _)) (by simp [Value.oneCell']) (by unfold maxLen; omega) (by omega) (by simp; omega) ?_)
      intro v' w1 hown' hgrow' _ hmv'
      have hsp : Hid (enc 2 x = pre ++ [y]) := by
        have h := HSP.out
        cases k with
        | zero => exact h
        | succ k => rw [show enc (k + 1) y = [y] from by simp only [enc]; rw [if_pos (show y < 128 by omega)]] at h; exact h
      have HOW : Hid (w1.ownsRow B 5 1 v' (n + (enc 2 x).length) (xs ++ bytes (enc 2 x))) := by
        rw [hsp.out, bytes_snoc, List.length_append, List.length_singleton, ← Nat.add_assoc]; exact hown'
      have hga : wr.grownBy w1 u0.ownBlock := (World.grownBy_alloc wr _ _).trans hgrow'
      have HGR1 : Hid (w.grownBy w1 sv.ownBlock) := HGR.out.andThen hga HMV.out.row
      have HMV1 : Hid (Moved w sv v') := by
        rcases hmv' with h | h
        · rcases HMV.out with h2 | ⟨j, h2, h3⟩
          · exact .inl (h.trans h2)
          · exact .inr ⟨j, h.trans h2, h3⟩
        · exact .inr ⟨_, h, Nat.le_trans HGR.out.size (by simp)⟩
      clear hown' hgrow' hmv' hga
      go_wp2
      go_ret
      exact ⟨_, rfl, HOW.out, HGR1.out, HMV1.out⟩
end Go.Proofs.YbulkctlyFmt.FV
