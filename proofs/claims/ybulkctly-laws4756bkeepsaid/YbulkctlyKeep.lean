/- THE CONTRACTS OF '(*sagaIndex).keep' (function 4) AND 'bytes.Equal' (function 5). -/
import Derived.Test.YbulkctlyParts
import Derived.BigRegion
namespace Go.Proofs.Ybulkctly.KP
open Go.ChangeShapes Go.WideShapes Go.ChangeAt Go.RowKit
set_option linter.unusedVariables false

theorem equal_any (s : ByteArray) (v1 v2 : Value) (w : World) (h1 : (convert 22 9 v1).run Yba.prog w = .ok (.string s) w) (h2 : (convert 22 9 v2).run Yba.prog w = .ok (.string s) w) :
    Calls Yba.prog 5 #[v1, v2] w fun e w' => e = .returned (.bool true) ∧ w' = w := by
  go_enter Yba.func5, Yba.ntmps5
  go_wp2
  go_ret
  exact ⟨by simp, rfl⟩

/-- The body's bytes, as cells. -/
def bs (zs : List Int) (n : Nat) : List Value := (zs.take n).map (Value.int .u8)
theorem bs_len {zs : List Int} {n : Nat} (h : n ≤ zs.length) : (bs zs n).length = n := by simp [bs]; omega
theorem bs_get {zs : List Int} {n i : Nat} (h : n ≤ zs.length) (hi : i < n) : (bs zs n)[i]? = some (.int .u8 (zs.getD i 0)) := by
  unfold bs
  rw [List.getElem?_map, List.getElem?_take, if_pos hi, List.getElem?_eq_getElem (by omega), List.getD_eq_getElem?_getD, List.getElem?_eq_getElem (by omega)]; rfl
theorem bs_one (zs : List Int) (n : Nat) : ∀ u ∈ bs zs n, u.oneCell' = true := by
  intro u hu
  unfold bs at hu
  obtain ⟨x, _, rfl⟩ := List.mem_map.1 hu
  rfl
theorem bs_src {w : World} {zs : List Int} {n b off : Nat} (h : n ≤ zs.length) (hc : ∀ i, i < n → w.cell? ⟨b, off + i, none⟩ = some (.int .u8 (zs.getD i 0))) : ∀ j u, (bs zs n)[j]? = some u → w.cell? ((⟨b, off, none⟩ : Addr).add j) = some u := by
  intro j u hj
  have hjn : j < n := by
    rcases Nat.lt_or_ge j n with h' | h'
    · exact h'
    · rw [List.getElem?_eq_none (by rw [bs_len h]; exact h')] at hj; cases hj
  rw [bs_get h hjn] at hj
  rw [add_plain, hc j hjn]; exact hj

/-- What an append of the body onto a buffer that was cut to nothing leaves. -/
def Put (base : Nat) (w w' : World) (g n gr capr len : Nat) (zs : List Int) : Prop :=
  w'.ownsRow base 5 1 (.slice (some ⟨gr, 0, none⟩) len capr) len (bs zs len) ∧ w.grownBy w' (some g) ∧ (len ≤ n → gr = g) ∧ (gr = g ∨ gr = w.heap.size)

section
variable (w : World)
theorem wpList_append_body {ops : Array Oper} {rest : List Oper} {o : Oper} {a : Act} {Q : Exit → Act → World → Prop} (hgd : o.guard = none) (s x : Operand)
    (ho : o.op = .call { callee := .builtin .append, args := #[s, x], argTypes := #[22, 22] })
    (base g n : Nat) (hs : a.eval s = .slice (some ⟨g, 0, none⟩) 0 n) (hown : w.ownsRow base 5 1 (.slice (some ⟨g, 0, none⟩) 0 n) 0 []) (hbase : base ≤ w.heap.size)
    (b off len cap : Nat) (zs : List Int) (hx : a.eval x = .slice (some ⟨b, off, none⟩) len cap) (hl : len ≤ zs.length) (hc : ∀ i, i < len → w.cell? ⟨b, off + i, none⟩ = some (.int .u8 (zs.getD i 0))) (h0 : 0 < len) (hm : len ≤ 1024)
    (h : ∀ gr capr w', Put base w w' g n gr capr len zs → wpList Yba.prog ops Q rest (a.put o.dst (.slice (some ⟨gr, 0, none⟩) len capr)) w') : wpList Yba.prog ops Q (o :: rest) a w := by
  obtain ⟨i0, hi, hz0, hz1, hz2⟩ := info_parts info5
  by_cases hfit : len ≤ n
  · refine wpList_append_fits w hgd s x 22 ho base 5 i0 1 Yba.underlying22 hi hz1 g 0 n [] hs hown ⟨b, off, none⟩ len cap (bs zs len) hx (by rw [bs_len hl]; omega) (bs_src hl hc) (bs_one _ _) (by omega) ?_
    intro w' ho' hg'
    rw [Nat.zero_add, List.nil_append] at ho'
    rw [Nat.zero_add]
    exact h g n w' ⟨ho', hg', fun _ => rfl, .inl rfl⟩
  · refine wpList_append_lies w hgd s x 22 ho base 5 i0 _ 1 1 Yba.underlying22 hi hz0 hz1 hz2 rfl (by omega) _ 0 [] hs hown ⟨b, off, none⟩ len cap (bs zs len) hx (by rw [bs_len hl]; omega) (bs_src hl hc) (bs_one _ _) h0 (by unfold maxLen; omega) (by omega) hbase w.heap.size rfl ?_
    intro g' cap' w' ho' hg' hat hlt
    rw [Nat.zero_add, List.nil_append] at ho'
    rw [Nat.zero_add]
    refine h g' cap' w' ⟨ho', hg', fun hh => absurd hh hfit, ?_⟩
    rcases hat with e | e
    · exact .inl (by simpa [Value.ownBlock] using e.symm)
    · exact .inr e

theorem wpList_append_nilbody {ops : Array Oper} {rest : List Oper} {o : Oper} {a : Act} {Q : Exit → Act → World → Prop} (hgd : o.guard = none) (s x : Operand)
    (ho : o.op = .call { callee := .builtin .append, args := #[s, x], argTypes := #[22, 22] })
    (base : Nat) (hs : a.eval s = .slice none 0 0) (hbase : base ≤ w.heap.size)
    (b off len cap : Nat) (zs : List Int) (hx : a.eval x = .slice (some ⟨b, off, none⟩) len cap) (hl : len ≤ zs.length) (hc : ∀ i, i < len → w.cell? ⟨b, off + i, none⟩ = some (.int .u8 (zs.getD i 0))) (h0 : 0 < len) (hm : len ≤ 1024)
    (h : ∀ gr capr w', w'.ownsRow base 5 1 (.slice (some ⟨gr, 0, none⟩) len capr) len (bs zs len) → w.grownBy w' none → wpList Yba.prog ops Q rest (a.put o.dst (.slice (some ⟨gr, 0, none⟩) len capr)) w') : wpList Yba.prog ops Q (o :: rest) a w := by
  obtain ⟨i0, hi, hz0, hz1, hz2⟩ := info_parts info5
  refine wpList_append_lies w hgd s x 22 ho base 5 i0 _ 1 1 Yba.underlying22 hi hz0 hz1 hz2 rfl (by omega) _ 0 [] hs (World.ownsRow_nil w base 5 1) ⟨b, off, none⟩ len cap (bs zs len) hx (by rw [bs_len hl]; omega) (bs_src hl hc) (bs_one _ _) h0 (by unfold maxLen; omega) (by omega) hbase w.heap.size rfl ?_
  intro g' cap' w' ho' hg' hat hlt
  rw [Nat.zero_add, List.nil_append] at ho'
  rw [Nat.zero_add]
  exact h g' cap' w' ho' hg'
end

theorem keep1E (bx : Nat) (a3 : Option Addr) (cap3 : Nat) (sp : Option Addr) (cs : Nat) (w : World) (h : w.cell? ⟨bx, 7, none⟩ = some (.slice sp 0 cs)) :
    Calls Yba.prog 4 #[.pointer (some ⟨bx, 0, none⟩), .slice none 0 0, .slice a3 0 cap3] w fun e w' => e = .returned (.slice none 0 0) ∧ w' = w := by
  obtain ⟨i0, hi, hz0, hz1, hz2⟩ := info_parts info5
  have hn := fun w => Lib.run_eql_slice_nil (P := Yba.prog) w 22 5 none 0 0 0 0 Yba.underlying22
  go_enter Yba.func4, Yba.ntmps4
  go_wp2_with (at_builtin; refine wpList_append_empty _ rfl _ _ 22 rfl 5 i0 Yba.underlying22 hi _ a3 _ _ cap3 rfl rfl (by omega) (fun _ => ⟨rfl, rfl⟩) ?_)
  go_ret
  exact ⟨rfl, rfl⟩

theorem keep2E (bx g n : Nat) (a3 : Option Addr) (cap3 : Nat) (sp : Option Addr) (ns cs : Nat) (w : World) (h : w.cell? ⟨bx, 7, none⟩ = some (.slice sp ns cs)) :
    Calls Yba.prog 4 #[.pointer (some ⟨bx, 0, none⟩), .slice (some ⟨g, 0, none⟩) n n, .slice a3 0 cap3] w fun e w' => e = .returned (.slice (some ⟨g, 0, none⟩) 0 n) ∧ w' = w := by
  obtain ⟨i0, hi, hz0, hz1, hz2⟩ := info_parts info5
  have hn := fun w => Lib.run_eql_slice_nil (P := Yba.prog) w 22 5 (some ⟨g, 0, none⟩) n n 0 0 Yba.underlying22
  go_enter Yba.func4, Yba.ntmps4
  go_wp2_with (at_builtin; refine wpList_append_empty _ rfl _ _ 22 rfl 5 i0 Yba.underlying22 hi _ a3 _ _ cap3 rfl rfl (by omega) (by simp) ?_)
  go_ret
  exact ⟨rfl, rfl⟩

theorem keep3E (bx gS g n L : Nat) (a3 : Option Addr) (cap3 : Nat) (w : World) (h : w.cell? ⟨bx, 7, none⟩ = some (.slice (some ⟨gS, 0, none⟩) (n + 1) (n + 1))) (hf : w.frozen? ⟨bx, 7, none⟩ = false) (hn1 : n ≤ 256)
    (hl : w.cell? ⟨gS, n, none⟩ = some (.slice (some ⟨g, 0, none⟩) L L)) :
    Calls Yba.prog 4 #[.pointer (some ⟨bx, 0, none⟩), .slice none 0 0, .slice a3 0 cap3] w fun e w' => e = .returned (.slice (some ⟨g, 0, none⟩) 0 L) ∧ w' = (w.setCell ⟨bx, 7, none⟩ (.slice (some ⟨gS, 0, none⟩) n (n + 1))).drew := by
  obtain ⟨i0, hi, hz0, hz1, hz2⟩ := info_parts info5
  have hn := fun w => Lib.run_eql_slice_nil (P := Yba.prog) w 22 5 none 0 0 0 0 Yba.underlying22
  have j1 : (0 : Int) ≤ (n : Int) := by omega
  have j2 : (n : Int) < (n : Int) + 1 := by omega
  have j3 : IntKind.i64.wrap (n : Int) = n := by rw [IntKind.wrap_i64]; omega
  go_enter Yba.func4, Yba.ntmps4
  go_wp2
  go_region
  go_wp2_with (at_builtin; refine wpList_append_empty _ rfl _ _ 22 rfl 5 i0 Yba.underlying22 hi _ a3 _ _ cap3 rfl rfl (by omega) (by simp) ?_)
  go_ret
  exact ⟨rfl, rfl⟩

theorem keep1N (bx : Nat) (b3 off3 len3 cap3 : Nat) (zs : List Int) (sp : Option Addr) (cs base : Nat) (w : World) (h : w.cell? ⟨bx, 7, none⟩ = some (.slice sp 0 cs)) (hbase : base ≤ w.heap.size)
    (hl : len3 ≤ zs.length) (hc : ∀ i, i < len3 → w.cell? ⟨b3, off3 + i, none⟩ = some (.int .u8 (zs.getD i 0))) (h0 : 0 < len3) (hm : len3 ≤ 1024) :
    Calls Yba.prog 4 #[.pointer (some ⟨bx, 0, none⟩), .slice none 0 0, .slice (some ⟨b3, off3, none⟩) len3 cap3] w fun e w' => ∃ gr capr, e = .returned (.slice (some ⟨gr, 0, none⟩) len3 capr) ∧
      w'.ownsRow base 5 1 (.slice (some ⟨gr, 0, none⟩) len3 capr) len3 (bs zs len3) ∧ w.grownBy w' none := by
  have hn := fun w => Lib.run_eql_slice_nil (P := Yba.prog) w 22 5 none 0 0 0 0 Yba.underlying22
  have HC : Hid (∀ i, i < len3 → w.cell? ⟨b3, off3 + i, none⟩ = some (.int .u8 (zs.getD i 0))) := hc
  clear hc
  go_enter Yba.func4, Yba.ntmps4
  go_wp2_with (at_builtin; refine wpList_append_nilbody _ rfl _ _ rfl base rfl hbase b3 off3 len3 cap3 zs rfl hl HC.out h0 hm ?_)
  intro gr capr w' ho hg
  go_wp2
  go_ret
  exact ⟨gr, capr, rfl, ho, hg⟩

theorem keep2N (bx g n : Nat) (b3 off3 len3 cap3 : Nat) (zs : List Int) (sp : Option Addr) (ns cs base : Nat) (w : World) (h : w.cell? ⟨bx, 7, none⟩ = some (.slice sp ns cs)) (hbase : base ≤ w.heap.size)
    (hown : w.ownsRow base 5 1 (.slice (some ⟨g, 0, none⟩) 0 n) 0 [])
    (hl : len3 ≤ zs.length) (hc : ∀ i, i < len3 → w.cell? ⟨b3, off3 + i, none⟩ = some (.int .u8 (zs.getD i 0))) (h0 : 0 < len3) (hm : len3 ≤ 1024) :
    Calls Yba.prog 4 #[.pointer (some ⟨bx, 0, none⟩), .slice (some ⟨g, 0, none⟩) n n, .slice (some ⟨b3, off3, none⟩) len3 cap3] w fun e w' => ∃ gr capr, e = .returned (.slice (some ⟨gr, 0, none⟩) len3 capr) ∧ Put base w w' g n gr capr len3 zs := by
  have hn := fun w => Lib.run_eql_slice_nil (P := Yba.prog) w 22 5 (some ⟨g, 0, none⟩) n n 0 0 Yba.underlying22
  have HC : Hid (∀ i, i < len3 → w.cell? ⟨b3, off3 + i, none⟩ = some (.int .u8 (zs.getD i 0))) := hc
  have HO : Hid (w.ownsRow base 5 1 (.slice (some ⟨g, 0, none⟩) 0 n) 0 []) := hown
  clear hc hown
  go_enter Yba.func4, Yba.ntmps4
  go_wp2_with (at_builtin; refine wpList_append_body _ rfl _ _ rfl base g n rfl HO.out hbase b3 off3 len3 cap3 zs rfl hl HC.out h0 hm ?_)
  intro gr capr w' hp
  go_wp2
  go_ret
  exact ⟨gr, capr, rfl, hp⟩

theorem keep3N (bx gS g n L : Nat) (b3 off3 len3 cap3 : Nat) (zs : List Int) (base : Nat) (w : World) (h : w.cell? ⟨bx, 7, none⟩ = some (.slice (some ⟨gS, 0, none⟩) (n + 1) (n + 1))) (hf : w.frozen? ⟨bx, 7, none⟩ = false) (hn1 : n ≤ 256)
    (hll : w.cell? ⟨gS, n, none⟩ = some (.slice (some ⟨g, 0, none⟩) L L)) (hbase : base ≤ w.heap.size)
    (hown : (w.setCell ⟨bx, 7, none⟩ (.slice (some ⟨gS, 0, none⟩) n (n + 1))).ownsRow base 5 1 (.slice (some ⟨g, 0, none⟩) 0 L) 0 [])
    (hl : len3 ≤ zs.length) (hc : ∀ i, i < len3 → (w.setCell ⟨bx, 7, none⟩ (.slice (some ⟨gS, 0, none⟩) n (n + 1))).cell? ⟨b3, off3 + i, none⟩ = some (.int .u8 (zs.getD i 0))) (h0 : 0 < len3) (hm : len3 ≤ 1024) :
    Calls Yba.prog 4 #[.pointer (some ⟨bx, 0, none⟩), .slice none 0 0, .slice (some ⟨b3, off3, none⟩) len3 cap3] w fun e w' => ∃ gr capr, e = .returned (.slice (some ⟨gr, 0, none⟩) len3 capr) ∧
      Put base (w.setCell ⟨bx, 7, none⟩ (.slice (some ⟨gS, 0, none⟩) n (n + 1))).drew w' g L gr capr len3 zs := by
  have hn := fun w => Lib.run_eql_slice_nil (P := Yba.prog) w 22 5 none 0 0 0 0 Yba.underlying22
  have j1 : (0 : Int) ≤ (n : Int) := by omega
  have j2 : (n : Int) < (n : Int) + 1 := by omega
  have j3 : IntKind.i64.wrap (n : Int) = n := by rw [IntKind.wrap_i64]; omega
  have HC : Hid (∀ i, i < len3 → (w.setCell ⟨bx, 7, none⟩ (.slice (some ⟨gS, 0, none⟩) n (n + 1))).drew.cell? ⟨b3, off3 + i, none⟩ = some (.int .u8 (zs.getD i 0))) := hc
  have HO : Hid ((w.setCell ⟨bx, 7, none⟩ (.slice (some ⟨gS, 0, none⟩) n (n + 1))).drew.ownsRow base 5 1 (.slice (some ⟨g, 0, none⟩) 0 L) 0 []) := hown
  have hb2 : Hid (base ≤ (w.setCell ⟨bx, 7, none⟩ (.slice (some ⟨gS, 0, none⟩) n (n + 1))).drew.heap.size) := by
    show base ≤ _
    simp [World.setCell]; exact hbase
  clear hc hown
  go_enter Yba.func4, Yba.ntmps4
  go_wp2
  go_region
  go_wp2_with (at_builtin; refine wpList_append_body _ rfl _ _ rfl base g L rfl HO.out hb2.out b3 off3 len3 cap3 zs rfl hl HC.out h0 hm ?_)
  intro gr capr w' hp
  go_wp2
  go_ret
  exact ⟨gr, capr, rfl, hp⟩
end Go.Proofs.Ybulkctly.KP
