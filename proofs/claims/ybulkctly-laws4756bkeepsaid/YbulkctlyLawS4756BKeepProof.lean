import Derived.Test.YbulkctlyKeep
import Derived.OpenShut
import Derived.ShutString
import Derived.ChangeOld
import Derived.Deep.LoopGhost
import Derived.LaidEql
import Derived.Deep.DeepCutAuto
import Derived.Deep.QuietTactic
import Derived.BigQuiet
namespace Go.Proofs.Ybulkctly.KP
open Go.ChangeShapes Go.WideShapes Go.ChangeAt Go.RowKit
set_option linter.unusedVariables false

theorem own : ownKnob Yba.prog.godebug = none := by kernel_rfl
theorem laidOut : laidOutB Yba.prog = true := by kernel_rfl

/-- The spare buffers: row gS holds n slices, the i-th at the head of block h i, L i long. -/
structure Sp (w wr : World) (gS n : Nat) (h L : Nat → Nat) (k : Nat) : Prop where
  row : ∃ xs : List Value, wr.heap[gS]? = some (.cells xs.toArray 22 (0, 0)) ∧ xs.length = n ∧ ∀ i, i < k → xs[i]? = some (.slice (some ⟨h i, 0, none⟩) (L i) (L i))
  buf : ∀ i, i < k → w.heap.size ≤ h i ∧ 1 ≤ L i ∧ L i ≤ 64 ∧ ∃ ys : List Value, wr.heap[h i]? = some (.cells ys.toArray 5 (0, 0)) ∧ ys.length = L i
  below : Below w.heap.size w wr
  base : w.heap.size ≤ gS

theorem Sp.step {w wr w5 : World} {gS n k m g' : Nat} {h L : Nat → Nat} {ys : List Value} (s : Sp w wr gS n h L k) (hk : k < n) (hL : L k = m) (hm1 : 1 ≤ m) (hm2 : m ≤ 64) (hg' : g' = wr.heap.size)
    (ho : w5.ownsRow w.heap.size 5 1 (.slice (some ⟨g', 0, none⟩) m m) m ys) (hg : wr.grownBy w5 none) :
    Sp w (w5.setCell ⟨gS, k, none⟩ (.slice (some ⟨g', 0, none⟩) m m)) gS n (fun i => if i = k then g' else h i) L (k + 1) := by
  obtain ⟨xs, hx, hxl, hxi⟩ := s.row
  have hgS := lt_of_heap hx
  obtain ⟨hh, hyl⟩ := owned_heap ho
  have old : ∀ g, g < wr.heap.size → w5.heap[g]? = wr.heap[g]? := fun g hgl => hg.block g hgl (by simp)
  have hb := s.below.size
  refine ⟨⟨xs.set k (.slice (some ⟨g', 0, none⟩) m m), ?_, by simpa using hxl, fun i hi => ?_⟩, fun i hi => ?_, (s.below.grown hg hb (by simp)).setCell s.base _, s.base⟩
  · have := heap_setCell_same w5 gS k xs.toArray 22 (.slice (some ⟨g', 0, none⟩) m m) (by rw [old gS hgS]; exact hx)
    rw [this]; simp
  · rw [List.getElem?_set]
    by_cases e : k = i
    · subst e; rw [if_pos rfl, if_pos (by omega), hL]; simp
    · rw [if_neg e, hxi i (by omega)]
      have : i ≠ k := fun e' => e e'.symm
      simp [this]
  · by_cases e : i = k
    · subst e
      simp only [if_true]
      refine ⟨by omega, by omega, by omega, ys, ?_, by omega⟩
      rw [Below.heap_setCell _ _ _ _ (by simp; omega)]; exact hh
    · simp only [if_neg e]
      obtain ⟨b1, b2, b3, zs, hz, hzl⟩ := s.buf i (by omega)
      refine ⟨b1, b2, b3, zs, ?_, hzl⟩
      have hlt := lt_of_heap hz
      have hne : h i ≠ gS := fun e' => by rw [e', hx] at hz; simp at hz
      rw [Below.heap_setCell _ _ _ _ (by simpa using hne), old _ hlt]; exact hz

theorem byte_bounds {zs : List Int} (h : ∀ n ∈ zs, (Lit.int .u8 n).wf = true) (i : Nat) (hi : i < zs.length) : 0 ≤ zs.getD i 0 ∧ zs.getD i 0 ≤ 255 := by
  have hw : (Lit.int .u8 (zs.getD i 0)).wf = true := by
    apply h
    rw [List.getD_eq_getElem?_getD, List.getElem?_eq_getElem hi]
    exact List.getElem_mem _
  simpa [Lit.wf, IntKind.min, IntKind.max, IntKind.bits, IntKind.signed] using hw

theorem Sp.later {w wr w5 : World} {gS n k : Nat} {h L : Nat → Nat} (s : Sp w wr gS n h L k) (hb : Below wr.heap.size wr w5) : Sp w w5 gS n h L k := by
  obtain ⟨xs, hx, r⟩ := s.row
  refine ⟨⟨xs, (hb.block _ (lt_of_heap hx)).trans hx, r⟩, fun i hi => ?_, s.below.trans (hb.mono s.below.size), s.base⟩
  obtain ⟨b1, b2, b3, ys, hy, hyl⟩ := s.buf i hi
  exact ⟨b1, b2, b3, ys, (hb.block _ (lt_of_heap hy)).trans hy, hyl⟩

theorem isRow_len {k : IntKind} {w : World} {a : Option Addr} {len cap : Nat} {zs : List Int} (h : IsRow k w a len cap zs) : len ≤ zs.length := by
  rcases h with ⟨_, rfl, _, rfl⟩ | ⟨x, _, hlc, _, hzl, _⟩
  · simp
  · omega

/-- The index that the law makes: its box. -/
def Box (wr : World) (bx gS m n : Nat) : Prop :=
  wr.heap[bx]? = some (.cells #[.map none, .map none, .map none, .bool false, .int .i64 0, .int .i64 0, .map none, .slice (some ⟨gS, 0, none⟩) m n] 32 (0, 0))

/-- The old buffer, ready. -/
structure Old (w wc : World) (bx gS n : Nat) (h L : Nat → Nat) (a1 : Bool) (oa : Option Addr) (olen : Nat) : Prop where
  sp : Sp w wc gS n h L n
  box : Box wc bx gS n n
  bbase : w.heap.size ≤ bx
  nil : a1 = true → oa = none ∧ olen = 0
  some : a1 = false → ∃ g, oa = some ⟨g, 0, none⟩ ∧ w.heap.size ≤ g ∧ ∃ ys : List Value, wc.heap[g]? = some (.cells ys.toArray 5 (0, 0)) ∧ ys.length = olen

theorem Old.later {w wc w5 : World} {bx gS n : Nat} {h L : Nat → Nat} {a1 : Bool} {oa : Option Addr} {olen : Nat} (o : Old w wc bx gS n h L true none 0) (hb : Below wc.heap.size wc w5) (hsome : a1 = false → ∃ g, oa = Option.some ⟨g, 0, none⟩ ∧ w.heap.size ≤ g ∧ ∃ ys : List Value, w5.heap[g]? = Option.some (.cells ys.toArray 5 (0, 0)) ∧ ys.length = olen) (hnil : a1 = true → oa = none ∧ olen = 0) :
    Old w w5 bx gS n h L a1 oa olen :=
  ⟨o.sp.later hb, (hb.block _ (lt_of_heap o.box)).trans o.box, o.bbase, hnil, hsome⟩

/-- Behind keep. -/
structure Kept (w wc : World) (bx gS n : Nat) (h L : Nat → Nat) (a1 : Bool) (oa : Option Addr) (olen : Nat) (a3 : Option Addr) (len3 cap3 : Nat) (ra : Option Addr) (rcap : Nat) : Prop where
  row : ∀ i, i < n → wc.cell? ⟨gS, i, none⟩ = Option.some (.slice (Option.some ⟨h i, 0, none⟩) (L i) (L i))
  box : wc.cell? ⟨bx, 7, none⟩ = Option.some (.slice (Option.some ⟨gS, 0, none⟩) (if a1 = true ∧ 0 < n then n - 1 else n) n)
  conv : ∃ s, (convert 22 9 (.slice ra len3 rcap)).run Yba.prog wc = .ok (.string s) wc ∧ (convert 22 9 (.slice a3 len3 cap3)).run Yba.prog wc = .ok (.string s) wc
  empty : len3 = 0 → ra.isNone = (a1 && n == 0)
  full : 0 < len3 → ∃ gr, ra = Option.some ⟨gr, 0, none⟩ ∧ (a1 = true → 0 < n → len3 ≤ L (n - 1) → gr = h (n - 1)) ∧ (a1 = false → len3 ≤ olen → oa = Option.some ⟨gr, 0, none⟩)
  below : Below w.heap.size w wc

theorem neq_same (a : Addr) (w : World) : (binOp .neq 35 (.pointer (some a)) (.pointer (some a))).run Yba.prog w = .ok (.bool false) w := by
  obtain ⟨i0, hi, hz0, hz1, hz2⟩ := info_parts info5
  have he : (Op.equal 35 (.pointer (some a)) (.pointer (some a))).run Yba.prog w = .ok true w := by
    have : ∀ d : Nat, (Op.equalIn (d + 1) 35 (.pointer (some a)) (.pointer (some a))).run Yba.prog w = .ok true w := fun d => by
      simp [Op.equalIn, run_underlying Yba.underlying35, sizeOf, typeInfo, hi, run_sameAddr_same]
    exact this 9999
  simp only [binOp]
  simp [he]

theorem conv_zero (w : World) (p : Option Addr) (c : Nat) : (convert 22 9 (.slice p 0 c)).run Yba.prog w = .ok (.string ByteArray.empty) w := by
  rw [run_convert_bytes_string w 22 9 5 _ 0 c Yba.underlying22 Yba.underlying5 Yba.underlying9]
  cases p <;> simp [Conv.bytesToString, loadCells]
  all_goals rfl

theorem conv_some (w : World) (b off len cap : Nat) (zs : List Int) (hl : len ≤ zs.length) (hc : ∀ i, i < len → w.cell? ⟨b, off + i, none⟩ = some (.int .u8 (zs.getD i 0))) :
    (convert 22 9 (.slice (some ⟨b, off, none⟩) len cap)).run Yba.prog w = .ok (.string (strOfNums (zs.take len))) w := by
  refine run_convert_bytes_arg w 22 5 Yba.underlying22 Yba.underlying5 b off len cap (zs.take len) (by simp; omega) (fun i hi => ?_) 9 Yba.underlying9
  rw [hc i hi]
  congr 2
  simp [List.getD_eq_getElem?_getD, hi]

theorem row_cell {w : World} {gS n k i : Nat} {h L : Nat → Nat} {w0 : World} (s : Sp w0 w gS n h L k) (hi : i < k) : w.cell? ⟨gS, i, none⟩ = some (.slice (some ⟨h i, 0, none⟩) (L i) (L i)) := by
  obtain ⟨xs, hx, _, hxi⟩ := s.row
  exact cell_of_heap hx (by simpa using hxi i hi)

theorem body_cells {w wc : World} {a3 : Option Addr} {len3 cap3 b3 off3 : Nat} {z3 : List Int} (hb : Below w.heap.size w wc) (hbB : b3 < w.heap.size) (hc : ∀ i, i < len3 → w.cell? ⟨b3, off3 + i, none⟩ = some (.int .u8 (z3.getD i 0))) :
    ∀ i, i < len3 → wc.cell? ⟨b3, off3 + i, none⟩ = some (.int .u8 (z3.getD i 0)) := fun i hi => (hb.cell (by exact hbB)).trans (hc i hi)

theorem res_cells {w : World} {base gr capr len : Nat} {zs : List Int} (hl : len ≤ zs.length) (ho : w.ownsRow base 5 1 (.slice (some ⟨gr, 0, none⟩) len capr) len (bs zs len)) : ∀ i, i < len → w.cell? ⟨gr, 0 + i, none⟩ = some (.int .u8 (zs.getD i 0)) := fun i hi => by
  rw [Nat.zero_add, ho.cellAt i (by omega), bs_get hl hi]

theorem keep_all {w wc : World} {bx gS n : Nat} {h L : Nat → Nat} {a1 : Bool} {oa : Option Addr} {olen : Nat} {a3 : Option Addr} {len3 cap3 : Nat} {z3 : List Int} (o : Old w wc bx gS n h L a1 oa olen) (w3 : IsRow .u8 w a3 len3 cap3 z3) (hn : n ≤ 256) (hl3 : len3 ≤ 1024) (hol : olen ≤ 1024) :
    Calls Yba.prog 4 #[.pointer (some ⟨bx, 0, none⟩), .slice oa olen olen, .slice a3 len3 cap3] wc fun e w' => ∃ ra rcap, e = .returned (.slice ra len3 rcap) ∧ Kept w w' bx gS n h L a1 oa olen a3 len3 cap3 ra rcap := by
  have hbox : wc.cell? ⟨bx, 7, none⟩ = some (.slice (some ⟨gS, 0, none⟩) n n) := cell_of_heap (i := 7) o.box rfl
  have hfz : wc.frozen? ⟨bx, 7, none⟩ = false := frozen_of_row _ _ _ _ _ o.box
  have hbl := o.sp.below
  have hbs := hbl.size
  obtain ⟨xs, hxr, hxl, _⟩ := o.sp.row
  have hgSl := lt_of_heap hxr
  have hbxl := lt_of_heap o.box
  have hne1 : gS ≠ bx := fun e => by rw [e, o.box] at hxr; simp at hxr
  cases a1 with
  | true =>
    obtain ⟨rfl, rfl⟩ := o.nil rfl
    rcases Nat.eq_zero_or_pos n with hn0 | hn0
    · subst hn0
      rcases Nat.eq_zero_or_pos len3 with h3 | h3
      · subst h3
        refine (keep1E bx a3 cap3 _ _ wc hbox).mono ?_
        rintro e w' ⟨rfl, rfl⟩
        exact ⟨none, 0, rfl, fun i hi => by omega, by simpa using hbox, ⟨_, conv_zero _ _ _, conv_zero _ _ _⟩, fun _ => rfl, fun h => by omega, hbl⟩
      · obtain ⟨b3, off3, rfl, hbB, hzl, _, hc, _⟩ := isRow_open w3 h3
        refine (keep1N bx b3 off3 len3 cap3 z3 _ _ w.heap.size wc hbox hbs hzl (body_cells (a3 := none) (cap3 := 0) hbl hbB hc) h3 hl3).mono ?_
        rintro e w' ⟨gr, capr, rfl, ho, hg⟩
        have hb' : Below w.heap.size w w' := hbl.grown hg hbs (by simp)
        exact ⟨_, capr, rfl, fun i hi => by omega, by rw [hg.cell_far _ hbxl (by simp)]; simpa using hbox, ⟨_, conv_some _ _ _ _ _ _ hzl (res_cells hzl ho), conv_some _ _ _ _ _ _ hzl (body_cells (a3 := none) (cap3 := 0) hb' hbB hc)⟩, fun h => by omega, fun _ => ⟨gr, rfl, fun _ h => by omega, fun h => by cases h⟩, hb'⟩
    · obtain ⟨m, rfl⟩ : ∃ m, n = m + 1 := ⟨n - 1, by omega⟩
      have hlast := row_cell o.sp (show m < m + 1 by omega)
      obtain ⟨hb1, hb2, hb3, ys, hy, hyl⟩ := o.sp.buf m (by omega)
      have hhl := lt_of_heap hy
      have hne2 : h m ≠ bx := fun e => by rw [e, o.box] at hy; simp at hy
      have hne3 : h m ≠ gS := fun e => by rw [e, hxr] at hy; simp at hy
      have hbset : Below w.heap.size w (wc.setCell ⟨bx, 7, none⟩ (.slice (some ⟨gS, 0, none⟩) m (m + 1))) := hbl.setCell o.bbase _
      have hrow2 : ∀ i, i < m + 1 → (wc.setCell ⟨bx, 7, none⟩ (.slice (some ⟨gS, 0, none⟩) m (m + 1))).cell? ⟨gS, i, none⟩ = some (.slice (some ⟨h i, 0, none⟩) (L i) (L i)) := fun i hi => by
        rw [World.cell?_of_block (w := wc) (Below.heap_setCell wc ⟨bx, 7, none⟩ _ gS hne1)]; exact row_cell o.sp hi
      have hbox2 : (wc.setCell ⟨bx, 7, none⟩ (.slice (some ⟨gS, 0, none⟩) m (m + 1))).cell? ⟨bx, 7, none⟩ = some (.slice (some ⟨gS, 0, none⟩) m (m + 1)) := World.cell?_setCell_same wc ⟨bx, 7, none⟩ _ hbox
      have hy2 : (wc.setCell ⟨bx, 7, none⟩ (.slice (some ⟨gS, 0, none⟩) m (m + 1))).heap[h m]? = some (.cells ys.toArray 5 (0, 0)) := (Below.heap_setCell wc ⟨bx, 7, none⟩ _ (h m) hne2).trans hy
      rcases Nat.eq_zero_or_pos len3 with h3 | h3
      · subst h3
        refine (keep3E bx gS (h m) m (L m) a3 cap3 wc hbox hfz (by omega) hlast).mono ?_
        rintro e w' ⟨rfl, rfl⟩
        exact ⟨_, _, rfl, hrow2, by simpa using hbox2, ⟨_, conv_zero _ _ _, conv_zero _ _ _⟩, fun _ => by simp, fun h => by omega, hbset.drew⟩
      · obtain ⟨b3, off3, rfl, hbB, hzl, _, hc, _⟩ := isRow_open w3 h3
        refine (keep3N bx gS (h m) m (L m) b3 off3 len3 cap3 z3 w.heap.size wc hbox hfz (by omega) hlast hbs (owns_cut hb1 hy2 hyl (by unfold maxLen; omega)) hzl (body_cells (a3 := none) (cap3 := 0) hbset hbB hc) h3 hl3).mono ?_
        rintro e w' ⟨gr, capr, rfl, ho, hg, hfit, _⟩
        have hszs : (wc.setCell ⟨bx, 7, none⟩ (.slice (some ⟨gS, 0, none⟩) m (m + 1))).drew.heap.size = wc.heap.size := by simp
        have hb' : Below w.heap.size w w' := hbset.drew.grown hg (by rw [hszs]; exact hbs) (fun k hk => by simp at hk; omega)
        refine ⟨_, capr, rfl, fun i hi => ?_, ?_, ⟨_, conv_some _ _ _ _ _ _ hzl (res_cells hzl ho), conv_some _ _ _ _ _ _ hzl (body_cells (a3 := none) (cap3 := 0) hb' hbB hc)⟩, fun h => by omega, fun _ => ⟨gr, rfl, fun _ _ hle => hfit (by simpa using hle), fun h => by cases h⟩, hb'⟩
        · rw [hg.cell_far _ (by rw [hszs]; exact hgSl) (by simp; exact fun e => hne3 e.symm)]; exact hrow2 i hi
        · rw [hg.cell_far _ (by rw [hszs]; exact hbxl) (by simp; exact fun e => hne2 e.symm)]; simpa using hbox2
  | false =>
    obtain ⟨g, rfl, hgb, ys, hy, hyl⟩ := o.some rfl
    have hgl := lt_of_heap hy
    have hne2 : g ≠ bx := fun e => by rw [e, o.box] at hy; simp at hy
    have hne3 : g ≠ gS := fun e => by rw [e, hxr] at hy; simp at hy
    rcases Nat.eq_zero_or_pos len3 with h3 | h3
    · subst h3
      refine (keep2E bx g olen a3 cap3 _ _ _ wc hbox).mono ?_
      rintro e w' ⟨rfl, rfl⟩
      exact ⟨_, _, rfl, fun i hi => row_cell o.sp hi, by simpa using hbox, ⟨_, conv_zero _ _ _, conv_zero _ _ _⟩, fun _ => rfl, fun h => by omega, hbl⟩
    · obtain ⟨b3, off3, rfl, hbB, hzl, _, hc, _⟩ := isRow_open w3 h3
      refine (keep2N bx g olen b3 off3 len3 cap3 z3 _ _ _ w.heap.size wc hbox hbs (owns_cut hgb hy hyl (by unfold maxLen; omega)) hzl (body_cells (a3 := none) (cap3 := 0) hbl hbB hc) h3 hl3).mono ?_
      rintro e w' ⟨gr, capr, rfl, ho, hg, hfit, _⟩
      have hb' : Below w.heap.size w w' := hbl.grown hg hbs (fun k hk => by simp at hk; omega)
      refine ⟨_, capr, rfl, fun i hi => ?_, ?_, ⟨_, conv_some _ _ _ _ _ _ hzl (res_cells hzl ho), conv_some _ _ _ _ _ _ hzl (body_cells (a3 := none) (cap3 := 0) hb' hbB hc)⟩, fun h => by omega, fun _ => ⟨gr, rfl, (fun h => by cases h), fun _ hle => by rw [hfit hle]⟩, hb'⟩
      · rw [hg.cell_far _ hgSl (by simp; exact fun e => hne3 e.symm)]; exact row_cell o.sp hi
      · rw [hg.cell_far _ hbxl (by simp; exact fun e => hne2 e.symm)]; simpa using hbox

set_option maxRecDepth 100000 in
set_option maxHeartbeats 1000000 in
theorem walk (a0 : Option Addr) (len0 cap0 : Nat) (z0 : List Int) (a1 : Bool) (a2 : Option Addr) (len2 cap2 : Nat) (z2 : List Int) (a3 : Option Addr) (len3 cap3 : Nat) (z3 : List Int) (w : World) (w0 : IsRow .u8 w a0 len0 cap0 z0) (w2 : IsRow .u8 w a2 len2 cap2 z2) (w3 : IsRow .u8 w a3 len3 cap3 z3) :
    Calls Yba.prog 3 #[.slice a0 len0 cap0, .bool a1, .slice a2 len2 cap2, .slice a3 len3 cap3] w fun e w' => e = .returned (.bool true) ∧ Below w.heap.size w w' := by
  obtain ⟨i0, hi, hz0, hz1, hz2⟩ := info_parts info5
  obtain ⟨i1, hj, hy0, hy1, hy2⟩ := info_parts info22
  by_cases h0 : 256 < len0
  · have t0 : (256 : Int) < (len0 : Int) := by omega
    go_enter Yba.func3, Yba.ntmps3
    go_wp2
    go_ret
    exact ⟨rfl, Below.refl _ _⟩
  have t0 : ¬ (256 : Int) < (len0 : Int) := by omega
  by_cases h2 : 1024 < len2
  · have t2 : (1024 : Int) < (len2 : Int) := by omega
    go_enter Yba.func3, Yba.ntmps3
    go_wp2
    go_ret
    exact ⟨rfl, Below.refl _ _⟩
  have t2 : ¬ (1024 : Int) < (len2 : Int) := by omega
  by_cases h3 : 1024 < len3
  · have t3 : (1024 : Int) < (len3 : Int) := by omega
    go_enter Yba.func3, Yba.ntmps3
    go_wp2
    go_ret
    exact ⟨rfl, Below.refl _ _⟩
  have t3 : ¬ (1024 : Int) < (len3 : Int) := by omega
  go_enter Yba.func3, Yba.ntmps3
  go_wp2_with (at_make; refine wpList_make_full _ rfl _ _ 23 rfl w.heap.size 22 i1 _ 1 Yba.underlying23 hj hy0 hy1 .i64 .i64 _ _ len0 rfl rfl rfl rfl ?c1 ?c2 (Nat.le_refl _) ?_)
  case c1 => first | omega | (rw [hy2]; omega)
  case c2 => unfold maxLen; omega
  intro w4 hown hgrow
  have hb4 : Below w.heap.size w w4 := (Below.refl _ _).grown hgrow (Nat.le_refl _) (by simp)
  have hS0 : Sp w w4 w.heap.size len0 (fun _ => 0) (fun i => (z0.getD i 0).toNat % 64 + 1) 0 := by
    obtain ⟨hh, hl⟩ := owned_heap hown
    exact ⟨⟨_, hh, hl, by omega⟩, by omega, hb4, Nat.le_refl _⟩
  clear hown hgrow hb4
  go_wp2
  go_loopg [37] len0 (fun g i wr => ∃ (k : Nat) (h : Nat → Nat), k ≤ len0 ∧ g = len0 - k ∧ i = .int .i64 k ∧ Sp w wr w.heap.size len0 h (fun i => (z0.getD i 0).toNat % 64 + 1) k)
  case atStart => exact ⟨0, _, by omega, by omega, rfl, hS0⟩
  case round =>
    clear hS0
    obtain ⟨k, h, hk, hg, rfl, hS⟩ := hrel
    have HG : Hid (gk = len0 - k) := hg
    clear hg
    by_cases hlt : k < len0
    · obtain ⟨b0, off0, rfl, hbB, hzl, hlc, hc, hwf⟩ := isRow_open w0 (by omega)
      have hcx : wr.cell? ⟨b0, off0 + k, none⟩ = some (.int .u8 (z0.getD k 0)) := (hS.below.cell (by exact hbB)).trans (hc k hlt)
      obtain ⟨bz1, bz2⟩ := byte_bounds hwf k (by omega)
      obtain ⟨z, hz⟩ : ∃ z, z0.getD k 0 = z := ⟨_, rfl⟩
      rw [hz] at hcx bz1 bz2
      have HZ : Hid (z0.getD k 0 = z) := hz
      obtain ⟨xs, hx, hxl, hxi⟩ := hS.row
      have hgS := lt_of_heap hx
      have HS : Hid (Sp w wr w.heap.size len0 h (fun i => (z0.getD i 0).toNat % 64 + 1) k) := hS
      have HX : Hid (wr.heap[w.heap.size]? = some (.cells xs.toArray 22 (0, 0))) := hx
      have hbs := hS.below.size
      clear hz hS hx hxi hc
      go_wp2_with (at_make; refine wpList_make_full _ rfl _ _ 22 rfl w.heap.size 5 i0 _ 1 Yba.underlying22 hi hz0 hz1 .i64 .i64 _ _ (z.toNat % 64 + 1) rfl rfl (by omega) (by omega) ?d1 ?d2 hbs ?_)
      case d1 => first | omega | (rw [hz2]; omega)
      case d2 => unfold maxLen; omega
      intro w5 hown5 hgrow5
      have hx5 : w5.heap[w.heap.size]? = some (.cells xs.toArray 22 (0, 0)) := (hgrow5.block _ hgS (by simp)).trans HX.out
      have c5 : w5.cell? ⟨w.heap.size, k, none⟩ = some (xs[k]'(by omega)) := cell_of_heap hx5 (by simp)
      have f5 : w5.frozen? ⟨w.heap.size, k, none⟩ = false := frozen_of_row _ _ _ _ _ hx5
      have hS5 := HS.out.step hlt (m := z.toNat % 64 + 1) (by rw [HZ.out]) (by omega) (by omega) rfl hown5 hgrow5
      have HS5 : Hid _ := hS5
      clear hS5 hown5 hgrow5 hx5 HX HS
      go_wp2
      go_roundg (len0 - (k + 1))
      case measure => rw [HG.out]; omega
      case rel => exact ⟨k + 1, _, by omega, rfl, by go_num, HS5.out⟩
    · have hke : k = len0 := by omega
      subst hke
      obtain ⟨L, hLd⟩ : ∃ L : Nat → Nat, L = (fun i => (z0.getD i 0).toNat % 64 + 1) := ⟨_, rfl⟩
      rw [← hLd] at hS
      clear hLd
      have hO5 : Old w (wr.alloc (.cells #[.map none, .map none, .map none, .bool false, .int .i64 0, .int .i64 0, .map none, .slice (some ⟨w.heap.size, 0, none⟩) k k] 32)) wr.heap.size w.heap.size k h L true none 0 :=
        ⟨hS.later ((Below.refl _ _).alloc (Nat.le_refl _) _), heap_alloc_new _ _, hS.below.size, fun _ => ⟨rfl, rfl⟩, fun h => by cases h⟩
      have HO5 : Hid (Old w (wr.alloc (.cells #[.map none, .map none, .map none, .bool false, .int .i64 0, .int .i64 0, .map none, .slice (some ⟨w.heap.size, 0, none⟩) k k] 32)) wr.heap.size w.heap.size k h L true none 0) := hO5
      clear hS hO5
      go_upto_if 55 with fail
      go_cut [13] (fun v wc => ∃ oa olen, v = .slice oa olen olen ∧ olen ≤ 1024 ∧ Old w wc wr.heap.size w.heap.size k h L a1 oa olen)
      case first =>
        cases a1 with
        | true =>
          go_wp2
          go_meet
          case rel => exact ⟨none, 0, rfl, by omega, HO5.out⟩
        | false =>
          obtain ⟨w5, hw5⟩ : ∃ w5, wr.alloc (.cells #[.map none, .map none, .map none, .bool false, .int .i64 0, .int .i64 0, .map none, .slice (some ⟨w.heap.size, 0, none⟩) k k] 32) = w5 := ⟨_, rfl⟩
          rw [hw5] at HO5
          rw [hw5]
          clear hw5
          go_wp2_with (at_make; refine wpList_make_full _ rfl _ _ 22 rfl w5.heap.size 5 i0 _ 1 Yba.underlying22 hi hz0 hz1 .i64 .i64 _ _ len2 rfl rfl rfl rfl ?e1 ?e2 (Nat.le_refl _) ?_)
          case e1 => first | omega | (rw [hz2]; omega)
          case e2 => unfold maxLen; omega
          intro w6 hown6 hgrow6
          have hb6 : Below w5.heap.size w5 w6 := (Below.refl _ _).grown hgrow6 (Nat.le_refl _) (by simp)
          obtain ⟨hh6, hl6⟩ := owned_heap hown6
          obtain ⟨cur, hcur⟩ : ∃ cur, (madeCells #[Value.int IntKind.u8 0] len2).toList = cur := ⟨_, rfl⟩
          rw [hcur] at hh6 hl6
          have HH6 : Hid (w6.heap[w5.heap.size]? = some (.cells cur.toArray 5 (0, 0))) := hh6
          have hz2l := isRow_len w2
          have hpos : 0 < (bs z2 len2).length → (some (⟨w5.heap.size, 0, none⟩ : Addr)) = some ⟨w5.heap.size, 0, none⟩ ∧ ∃ ad, a2 = some ad ∧ ∀ j v, (bs z2 len2)[j]? = some v → w6.cell? (ad.add j) = some v := by
            intro hp
            rw [bs_len hz2l] at hp
            obtain ⟨b2, off2, rfl, hbB, _, _, hc, _⟩ := isRow_open w2 hp
            refine ⟨rfl, _, rfl, bs_src hz2l fun i hi => ?_⟩
            have e1 := HO5.out.sp.below.cell (p := ⟨b2, off2 + i, none⟩) hbB
            have e2 := hb6.cell (p := ⟨b2, off2 + i, none⟩) (by have := HO5.out.sp.below.size; show b2 < _; omega)
            rw [e2, e1]; exact hc i hi
          have HPOS : Hid _ := hpos
          clear hown6 hgrow6 hh6 hcur hpos
          go_wp2_with (refine wpList_copy_splice rfl (.tmp 59) (.tmp 60) 22 22 rfl 5 Yba.underlying22 size5 _ a2 _ _ _ _ rfl rfl w5.heap.size 0 cur 5 HH6.out (bs z2 len2) ?f1 HPOS.out ?f2 (bs_one _ _) w5.heap.size w5 hb6 (Nat.le_refl _) ?_)
          case f1 => rw [bs_len hz2l]
          case f2 => rw [bs_len hz2l]; omega
          intro w7 HG7 hb7
          go_wp2
          go_meet
          case rel =>
            refine ⟨_, _, rfl, by omega, HO5.out.later hb7 (fun _ => ⟨_, rfl, ?_, _, HG7.out, ?_⟩) (fun h => by cases h)⟩
            · exact HO5.out.sp.below.size
            · rw [length_splice _ _ _ (by rw [bs_len hz2l]; omega)]; exact hl6
      case rest =>
        clear HO5
        obtain ⟨oa, olen, rfl, hol, hO⟩ := hcut
        have HO : Hid (Old w wc wr.heap.size w.heap.size k h L a1 oa olen) := hO
        clear hO
        obtain ⟨bx, hbx⟩ : ∃ bx, wr.heap.size = bx := ⟨_, rfl⟩
        rw [hbx] at HO
        rw [hbx]
        clear hbx
        go_upto_region 15 with fail
        go_cut [15] (fun v wd => ∃ ra rcap, v = .slice ra len3 rcap ∧ Kept w wd bx w.heap.size k h L a1 oa olen a3 len3 cap3 ra rcap)
        case first =>
          go_wp2_with fail
          refine (keep_all HO.out w3 (by omega) (by omega) hol).mono ?_
          rintro e w' ⟨ra, rcap, rfl, hK⟩
          have HK : Hid (Kept w w' bx w.heap.size k h L a1 oa olen a3 len3 cap3 ra rcap) := hK
          clear hK
          go_wp2
          go_meet
          case rel => exact ⟨ra, rcap, rfl, HK.out⟩
        case rest =>
          obtain ⟨ra, rcap, rfl, hK⟩ := hcut
          have hLb : ∀ i, i < k → 1 ≤ L i := fun i hi => (HO.out.sp.buf i hi).2.1
          have HLB : Hid (∀ i, i < k → 1 ≤ L i) := hLb
          have hLb2 : ∀ i, i < k → L i ≤ 64 := fun i hi => (HO.out.sp.buf i hi).2.2.1
          have HLB2 : Hid (∀ i, i < k → L i ≤ 64) := hLb2
          have HK : Hid (Kept w wc bx w.heap.size k h L a1 oa olen a3 len3 cap3 ra rcap) := hK
          clear hK HO hLb hLb2
          go_wp2_with fail
          obtain ⟨st, hs1, hs2⟩ := HK.out.conv
          refine (equal_any st _ _ _ hs1 hs2).mono ?_
          clear hs1 hs2
          rintro e w' ⟨rfl, rfl⟩
          obtain ⟨P, hP⟩ : ∃ P : Bool, P = (a1 && decide (0 < k)) := ⟨_, rfl⟩
          have HP : Hid (P = (a1 && decide (0 < k))) := hP
          clear hP
          go_upto_region 18 with fail
          go_cut [16] (fun v wd => v = .bool P ∧ wd = w')
          case first =>
            cases a1 with
            | true =>
              have hP := HP.out
              rw [Bool.true_and] at hP
              go_wp2
              go_meet
              case rel => exact ⟨by rw [hP], rfl⟩
            | false =>
              have hP := HP.out
              rw [Bool.false_and] at hP
              have HP2 : Hid (P = false) := hP
              clear hP
              go_wp2
              go_meet
              case rel => exact ⟨by rw [HP2.out], rfl⟩
          case rest =>
            obtain ⟨hv, hwd⟩ := hcut
            subst hv
            subst hwd
            obtain ⟨wt, hwt⟩ : ∃ wt : Nat, wt = if P = true then k - 1 else k := ⟨_, rfl⟩
            have HWT : Hid (wt = if P = true then k - 1 else k) := hwt
            have hwk : wt ≤ k := by rw [hwt]; split <;> omega
            have hPk : P = true → 0 < k := fun e => by
              have := HP.out; rw [e] at this; simp at this; exact this.2
            have HPK : Hid (P = true → 0 < k) := hPk
            clear hwt hPk
            go_upto_if 78 with fail
            go_cut [17] (fun v wd => v = .int .i64 wt ∧ wd = wc)
            case first =>
              cases P with
              | true =>
                have hw := HWT.out
                have hk0 := HPK.out rfl
                simp only [if_true] at hw
                have HW : Hid (wt = k - 1) := hw
                clear hw
                go_wp2
                go_meet
                case rel => exact ⟨by rw [HW.out]; go_num, rfl⟩
              | false =>
                have hw := HWT.out
                simp only [Bool.false_eq_true, if_false] at hw
                have HW : Hid (wt = k) := hw
                clear hw
                go_wp2
                go_meet
                case rel => exact ⟨by rw [HW.out], rfl⟩
            case rest =>
              obtain ⟨hv, hwd⟩ := hcut
              subst hv
              subst hwd
              have hbox : wc.cell? ⟨bx, 7, none⟩ = some (.slice (some ⟨w.heap.size, 0, none⟩) wt k) := by
                have := HK.out.box
                have e : (if a1 = true ∧ 0 < k then k - 1 else k) = wt := by
                  rw [HWT.out, HP.out]; simp
                rw [e] at this; exact this
              go_wp2
              go_loopg [18] wt (fun g i wx => ∃ (j q : Nat), j ≤ wt ∧ g = wt - j ∧ i = .int .i64 j ∧ wx = wc.drewN q)
              case atStart => exact ⟨0, 0, by omega, by omega, rfl, rfl⟩
              case round =>
                obtain ⟨j, q, hj, hg, rfl, rfl⟩ := hrel
                have HG2 : Hid (gk = wt - j) := hg
                clear hg
                by_cases hlt : j < wt
                · have cj := HK.out.row j (by omega)
                  have hl1 := HLB.out j (by omega)
                  have i1 : (0 : Int) ≤ (j : Int) := by omega
                  have i2 : (j : Int) < (wt : Int) := by omega
                  have i3 : (j : Int) < (k : Int) := by omega
                  have i4 : (0 : Int) < (L j : Int) := by omega
                  have hnq := neq_same ⟨h j, 0, none⟩
                  go_wp2
                  go_quiet (fail)
                  go_wp2
                  go_roundg (wt - (j + 1))
                  case measure => rw [HG2.out]; omega
                  case rel => exact ⟨j + 1, q + nq, by omega, rfl, by go_num, rfl⟩
                · have hnl : ¬ (j : Int) < (wt : Int) := by omega
                  have hbW := below_drewN HK.out.below q
                  rcases Nat.eq_zero_or_pos len3 with h30 | h30
                  · have hem := HK.out.empty h30
                    have hen := fun w => Lib.run_eql_slice_nil (P := Yba.prog) w 22 5 ra len3 rcap 0 0 Yba.underlying22
                    rw [hem] at hen
                    have t0' : ((len3 : Int) == 0) = true := by simp; omega
                    have H30 : Hid (len3 = 0) := h30
                    clear h30 hem
                    cases a1 with
                    | true =>
                      have hk2 : (((k : Nat) : Int) == 0) = (k == 0) := by
                        rw [Bool.eq_iff_iff]; simp
                      go_wp2
                      go_ret
                      exact ⟨rfl, hbW⟩
                    | false =>
                      go_wp2
                      go_ret
                      exact ⟨rfl, hbW⟩
                  · obtain ⟨gr, hra, hf1, hf2⟩ := HK.out.full h30
                    subst hra
                    have t0' : ((len3 : Int) == 0) = false := by simp; omega
                    have hi3 : (0 : Int) < (len3 : Int) := by omega
                    have hnq := neq_same ⟨gr, 0, none⟩
                    have hPp := HP.out
                    cases P with
                    | true =>
                      obtain ⟨ha1, hk1⟩ : a1 = true ∧ 0 < k := by simpa using hPp.symm
                      subst ha1
                      have ck := HK.out.row (k - 1) (by omega)
                      have hLk := HLB.out (k - 1) (by omega)
                      have hg1 := hf1 rfl hk1
                      have i1 : (0 : Int) ≤ (k : Int) - 1 := by omega
                      have i2 : (k : Int) - 1 < (k : Int) := by omega
                      have e1 : ((k : Int) - 1).toNat = k - 1 := by omega
                      have i4 : (0 : Int) < (L (k - 1) : Int) := by omega
                      clear hf1 hf2 hPp
                      by_cases hle : len3 ≤ L (k - 1)
                      · have hg2 := hg1 hle
                        have hle' : (len3 : Int) ≤ (L (k - 1) : Int) := by omega
                        rw [← hg2] at ck
                        clear hg1 hg2
                        go_wp2
                        go_quiet (fail)
                        go_wp2
                        go_ret
                        exact ⟨rfl, by first | exact below_drewN HK.out.below _ | exact below_drewN (below_drewN HK.out.below _) _⟩
                      · have hle' : ¬ (len3 : Int) ≤ (L (k - 1) : Int) := by omega
                        clear hg1
                        go_wp2
                        go_ret
                        exact ⟨rfl, hbW⟩
                    | false =>
                      cases a1 with
                      | true =>
                        clear hf1 hf2 hPp
                        go_wp2
                        go_ret
                        exact ⟨rfl, hbW⟩
                      | false =>
                        have hg1 := hf2 rfl
                        clear hf1 hf2 hPp
                        by_cases hle : len3 ≤ olen
                        · have hg2 := hg1 hle
                          subst hg2
                          have hle' : (len3 : Int) ≤ (olen : Int) := by omega
                          have i4 : (0 : Int) < (olen : Int) := by omega
                          clear hg1
                          go_wp2
                          go_quiet (fail)
                          go_wp2
                          go_ret
                          exact ⟨rfl, by first | exact below_drewN HK.out.below _ | exact below_drewN (below_drewN HK.out.below _) _⟩
                        · have hle' : ¬ (len3 : Int) ≤ (olen : Int) := by omega
                          clear hg1
                          go_wp2
                          go_ret
                          exact ⟨rfl, hbW⟩

/-! ### THE ROW's STEP: WRITTEN OUT: LEAVE IT -/
set_option maxRecDepth 100000 in
theorem lifted (os : Os) (started : os.Started) (H : Type) (enc : TypeId × Value → H) :
    ReturnsInHanded {} Yba.checked os 3 .any (Rows.lawS4756BKeepSpec.pre6 enc Yba.prog Yba.f3 Rows.lawS4756BKeepRow.domain false) (Rows.lawS4756BKeepSpec.post enc Yba.prog Yba.f3 false true false false) := by
  refine returnsInHanded_of_change (C := Yba.checked) own started (by kernel_rfl) Yba.func3
    (ChangeSpec.witness6 (enc := enc) (C := Yba.checked) false ⟨#[], #[.slice none 0 0, .bool false, .slice none 0 0, .slice none 0 0], []⟩ 8 (by kernel_rfl) (by kernel_rfl) (by kernel_rfl) (by kernel_rfl)) ?_
  intro W base args ds gs before hval0 hW hcnd _
  have hval : ∀ (j : Nat) t v, Yba.f3.params[j]? = some t → args[j]? = some v → Value.okWide Yba.prog W .any base t v := hval0
  have hW' := hW
  obtain ⟨p, q, hA0, hV, rfl, hfz, hnd⟩ := hW
  have hA : DataW.TrodAll enc Yba.prog W 0 (fun _ => true) true Yba.f3.params.toList args.toList ds p := hA0
  rw [Yba.params3] at hA hval
  obtain ⟨v0, vs0, d0, ds0, p0, q0, hargs, rfl, rfl, h0, r0⟩ := trodAll_cons hA
  obtain ⟨v1, vs1, d1, ds1, p1, q1, rfl, rfl, rfl, h1, r1⟩ := trodAll_cons r0
  obtain ⟨v2, vs2, d2, ds2, p2, q2, rfl, rfl, rfl, h2, r2⟩ := trodAll_cons r1
  obtain ⟨v3, vs3, d3, ds3, p3, q3, rfl, rfl, rfl, h3, r3⟩ := trodAll_cons r2
  obtain ⟨rfl, rfl, rfl⟩ := trodAll_nil r3
  obtain rfl : args = #[v0, v1, v2, v3] := by cases args; simp_all
  obtain ⟨rfl, rfl⟩ := trodVars_none hV
  obtain ⟨a0, len0, cap0, rfl⟩ := okWide_slice Yba.underlying22 (hval 0 22 v0 rfl rfl)
  have k0 := h0
  have lt0 : ∀ x ∈ p0, x.block < W.heap.size := by obtain ⟨m, hm⟩ := k0; exact DataW.trod_lt m _ _ _ hm
  obtain ⟨z0, w0⟩ : ∃ zs, IsRow .u8 W a0 len0 cap0 zs := by
    obtain ⟨fuel, hf⟩ := h0
    rcases open_ints Yba.underlying22 Yba.underlying5 (by kernel_rfl) hf with ⟨hcs, _⟩ | ⟨x, l, c, zs, hcs, _, hl, hm, hz, _, hcell, hwz⟩
    · simp [Value.cells] at hcs
      obtain ⟨rfl, rfl, rfl⟩ := hcs
      exact ⟨[], .inl ⟨rfl, rfl, rfl, rfl⟩⟩
    · simp [Value.cells] at hcs
      obtain ⟨rfl, rfl, rfl⟩ := hcs
      exact ⟨zs, .inr ⟨_, rfl, hl, hm, by simpa using hz, hcell, hwz⟩⟩
  obtain ⟨a1, rfl, rfl, rfl⟩ := open_bool Yba.underlying4 (hval 1 4 v1 rfl rfl) h1
  obtain ⟨a2, len2, cap2, rfl⟩ := okWide_slice Yba.underlying22 (hval 2 22 v2 rfl rfl)
  have k2 := h2
  have lt2 : ∀ x ∈ p2, x.block < W.heap.size := by obtain ⟨m, hm⟩ := k2; exact DataW.trod_lt m _ _ _ hm
  obtain ⟨z2, w2⟩ : ∃ zs, IsRow .u8 W a2 len2 cap2 zs := by
    obtain ⟨fuel, hf⟩ := h2
    rcases open_ints Yba.underlying22 Yba.underlying5 (by kernel_rfl) hf with ⟨hcs, _⟩ | ⟨x, l, c, zs, hcs, _, hl, hm, hz, _, hcell, hwz⟩
    · simp [Value.cells] at hcs
      obtain ⟨rfl, rfl, rfl⟩ := hcs
      exact ⟨[], .inl ⟨rfl, rfl, rfl, rfl⟩⟩
    · simp [Value.cells] at hcs
      obtain ⟨rfl, rfl, rfl⟩ := hcs
      exact ⟨zs, .inr ⟨_, rfl, hl, hm, by simpa using hz, hcell, hwz⟩⟩
  obtain ⟨a3, len3, cap3, rfl⟩ := okWide_slice Yba.underlying22 (hval 3 22 v3 rfl rfl)
  have k3 := h3
  have lt3 : ∀ x ∈ p3, x.block < W.heap.size := by obtain ⟨m, hm⟩ := k3; exact DataW.trod_lt m _ _ _ hm
  obtain ⟨z3, w3⟩ : ∃ zs, IsRow .u8 W a3 len3 cap3 zs := by
    obtain ⟨fuel, hf⟩ := h3
    rcases open_ints Yba.underlying22 Yba.underlying5 (by kernel_rfl) hf with ⟨hcs, _⟩ | ⟨x, l, c, zs, hcs, _, hl, hm, hz, _, hcell, hwz⟩
    · simp [Value.cells] at hcs
      obtain ⟨rfl, rfl, rfl⟩ := hcs
      exact ⟨[], .inl ⟨rfl, rfl, rfl, rfl⟩⟩
    · simp [Value.cells] at hcs
      obtain ⟨rfl, rfl, rfl⟩ := hcs
      exact ⟨zs, .inr ⟨_, rfl, hl, hm, by simpa using hz, hcell, hwz⟩⟩
  clear hA0 hval0
  refine (walk a0 len0 cap0 z0 a1 a2 len2 cap2 z2 a3 len3 cap3 z3 W w0 w2 w3).mono fun e W' ⟨he, bel⟩ => ?_
  subst he
  exact ⟨_, rfl, _, _, _, [], _, [], hW', trodAll_mk1 (shut_bool Yba.underlying4 _), (trodAll_cons_mk (Below.trod laidOut (by kernel_rfl) (of_decide_eq_true (by kernel_rfl)) k0 bel lt0) (trodAll_cons_mk (shut_bool Yba.underlying4 _) (trodAll_cons_mk (Below.trod laidOut (by kernel_rfl) (of_decide_eq_true (by kernel_rfl)) k2 bel lt2) (trodAll_cons_mk (Below.trod laidOut (by kernel_rfl) (of_decide_eq_true (by kernel_rfl)) k3 bel lt3) trodAll_mk0)))), rfl, bel.frame _, fun h => by cases h⟩

theorem over : Rows.lawS4756BKeepRow.holds Yba.pinned (OpenSpec.ofChange Rows.lawS4756BKeepSpec) :=
  OpenClaim.holds_of_wide 3 Yba.f3 rfl rfl rfl rfl rfl rfl rfl ⟨rfl, rfl, rfl, rfl, rfl⟩ rfl rfl rfl rfl rfl (by kernel_rfl) Yba.func3 (by kernel_rfl)
    (of_decide_eq_true (by kernel_rfl)) (by unfold Func.isWrapper; first | (rw [if_pos (by decide +kernel)]; kernel_rfl) | (rw [if_neg (by decide +kernel)]; exact ⟨rfl, rfl⟩))
    (fun os started H enc _ => lifted os started H enc)

end Go.Proofs.Ybulkctly.KP
namespace Go.Proofs.Ybulkctly
/-- THE STATEMENT -/
theorem lawS4756BKeep_proved : Rows.LawS4756BKeepSaid := KP.over
end Go.Proofs.Ybulkctly
