/- THE CONTRACT OF 'forgetOld' (12). -/
import Derived.Test.YbulkctocBase
namespace Go.Proofs.Ybulkctoc.HT
open Go.ChangeShapes Go.WideShapes Go.ChangeAt Go.RowKit
set_option linter.unusedVariables false

section
variable {w : World} {b n : Nat} {ks : List Key}
theorem step_delete {ops : Array Oper} {o' : Oper} {a' : Act} {K : Act → World → Prop} {Q : Exit → Act → World → Prop} {E : Prop} (hgd : o'.guard = none) (s x : Operand)
    (ho : o'.op = .call { callee := .builtin .delete, args := #[s, x], argTypes := #[31, 38] }) (k : Key) (hs : a'.eval s = .map (some b)) (hx : a'.eval x = kv k)
    (hm : MSet w b n (k :: ks)) (hk : Good k) (hnot : k ∉ ks) (h : ∀ w', MSet w' b n ks → w.grownBy w' (some b) → K (a'.put o'.dst (.tuple #[])) w') :
    if Region.wanted o' (yielded ops a'.tmps) = true then Oper.wp Yba.prog o' a' w K Q else E := by
  have hw : Region.wanted o' (yielded ops a'.tmps) = true := by simp [Region.wanted, hgd]
  rw [if_pos hw]
  obtain ⟨w', hr, h1, h2⟩ := hm.drop k hk hnot o'.type
  unfold Oper.wp execOp
  simp only [ho, resolve, invoke, builtin, Sem.run_bind, Sem.run_pure, Result.andThen_ok, List.map_toArray, List.map_cons, List.map_nil, hs, hx, hr]
  exact h w' h1 h2
theorem wp_mapUpdate {o' : Oper} {a' : Act} {K : Act → World → Prop} {Q : Exit → Act → World → Prop} (s x y : Operand)
    (ho : o'.op = .mapUpdate 31 s x y) (k : Key) (hs : a'.eval s = .map (some b)) (hx : a'.eval x = kv k) (hy : a'.eval y = .bool true)
    (hm : MSet w b n ks) (hk : Good k) (hnot : k ∉ ks) (hn : n < maxLen) (h : ∀ w', MSet w' b (n + 1) (ks ++ [k]) → w.grownBy w' (some b) → K (a'.put o'.dst (.tuple #[])) w') :
    Oper.wp Yba.prog o' a' w K Q := by
  obtain ⟨w', hr, h1, h2⟩ := hm.store k hk hnot hn
  unfold Oper.wp execOp
  simp only [ho, Sem.run_bind, Sem.run_pure, Result.andThen_ok, hs, hx, hy, hr]
  exact h w' h1 h2
theorem step_mapUpdate {ops : Array Oper} {o' : Oper} {a' : Act} {K : Act → World → Prop} {Q : Exit → Act → World → Prop} {E : Prop} (hgd : o'.guard = none) (s x y : Operand)
    (ho : o'.op = .mapUpdate 31 s x y) (k : Key) (hs : a'.eval s = .map (some b)) (hx : a'.eval x = kv k) (hy : a'.eval y = .bool true)
    (hm : MSet w b n ks) (hk : Good k) (hnot : k ∉ ks) (hn : n < maxLen) (h : ∀ w', MSet w' b (n + 1) (ks ++ [k]) → w.grownBy w' (some b) → K (a'.put o'.dst (.tuple #[])) w') :
    if Region.wanted o' (yielded ops a'.tmps) = true then Oper.wp Yba.prog o' a' w K Q else E := by
  have hw : Region.wanted o' (yielded ops a'.tmps) = true := by simp [Region.wanted, hgd]
  rw [if_pos hw]
  exact wp_mapUpdate s x y ho k hs hx hy hm hk hnot hn h
theorem wpList_mapUpdate {ops : Array Oper} {rest : List Oper} {o' : Oper} {a' : Act} {Q : Exit → Act → World → Prop} (hgd : o'.guard = none) (s x y : Operand)
    (ho : o'.op = .mapUpdate 31 s x y) (k : Key) (hs : a'.eval s = .map (some b)) (hx : a'.eval x = kv k) (hy : a'.eval y = .bool true)
    (hm : MSet w b n ks) (hk : Good k) (hnot : k ∉ ks) (hn : n < maxLen) (h : ∀ w', MSet w' b (n + 1) (ks ++ [k]) → w.grownBy w' (some b) → wpList Yba.prog ops Q rest (a'.put o'.dst (.tuple #[])) w') :
    wpList Yba.prog ops Q (o' :: rest) a' w :=
  wpList_plain hgd fun _ hK => wp_mapUpdate s x y ho k hs hx hy hm hk hnot hn fun w' h1 h2 => hK _ _ (h w' h1 h2)
end

theorem Row.setOut {w : World} {e : TypeId} {size g o n cap : Nat} {xs : List Value} (h : Row w e size g o n cap xs) (off : Nat) (v : Value) (ho : off < o ∨ o + xs.length ≤ off) : Row (w.setCell ⟨g, off, none⟩ v) e size g o n cap xs := by
  obtain ⟨cur, hg, h1, h2, h3, h4, h5⟩ := h
  refine ⟨cur.setIfInBounds off v, ?_, h1, h2, by simpa using h3, h4, fun j u hu => ?_⟩
  · simp [World.setCell, Array.getElem?_modify, hg]
  · have hj := (List.getElem?_eq_some_iff.1 hu).1
    rw [Array.getElem?_setIfInBounds_ne (by omega)]
    exact h5 j u hu
theorem Row.setFar {w : World} {e : TypeId} {size g o n cap : Nat} {xs : List Value} (h : Row w e size g o n cap xs) (a : Addr) (v : Value) (ho : g ≠ a.block) : Row (w.setCell a v) e size g o n cap xs := h.same (Below.heap_setCell _ _ _ _ ho)
theorem Mach.setFar {w : World} {m : Nat} {name : ByteArray} {maxB : Int} {h : Nat} {L : Int} {mp : Nat} {wt : Value} {added : Int} {fv : Value} (hm : Mach w m name maxB h L mp wt added fv) (a : Addr) (v : Value) (ho : m ≠ a.block) : Mach (w.setCell a v) m name maxB h L mp wt added fv := hm.same (Below.heap_setCell _ _ _ _ ho)
theorem MSet.setFar {w : World} {b n : Nat} {ks : List Key} (hm : MSet w b n ks) (a : Addr) (v : Value) (ho : b ≠ a.block) : MSet (w.setCell a v) b n ks := hm.same (Below.heap_setCell _ _ _ _ ho)

/-- The world behind a round of 'forgetOld'. -/
def dropped (w : World) (g o m : Nat) (v : Value) : World :=
  (((((w.setCell ⟨g, o, none⟩ (.string ⟨#[]⟩)).setCell ⟨g, o + 1, none⟩ (.int .u64 0)).setCell ⟨g, o + 2, none⟩ (.int .u64 0)).setCell ⟨g, o + 3, none⟩ (.int .i64 0)).setCell ⟨g, o + 4, none⟩ (.pointer none)).setCell ⟨m, 53, none⟩ v
theorem dropped_ok {w : World} {g o m : Nat} {name : ByteArray} {maxB : Int} {h : Nat} {L : Int} {mp : Nat} {wt : Value} {added : Int} {fv : Value} (hm : Mach w m name maxB h L mp wt added fv) {o' n' cap' : Nat} {xs : List Value} (hr : Row w 41 5 g o' n' cap' xs)
    (ho : o + 4 < o' ∨ o' + xs.length ≤ o) {n : Nat} {ks : List Key} (hs : MSet w mp n ks) (hgm : g ≠ m) (hgp : g ≠ mp) (hmp : m ≠ mp) (v : Value) :
    Mach (dropped w g o m v) m name maxB h L mp wt added v ∧ Row (dropped w g o m v) 41 5 g o' n' cap' xs ∧ MSet (dropped w g o m v) mp n ks ∧ Kept (fun k => k = m ∨ k = mp ∨ k = g) w (dropped w g o m v) := by
  unfold dropped
  refine ⟨?_, ?_, ?_, ?_⟩
  · exact ((((((hm.setFar _ _ (Ne.symm hgm)).setFar _ _ (Ne.symm hgm)).setFar _ _ (Ne.symm hgm)).setFar _ _ (Ne.symm hgm)).setFar _ _ (Ne.symm hgm)).setForget v)
  · exact ((((((hr.setOut o _ (by omega)).setOut (o + 1) _ (by omega)).setOut (o + 2) _ (by omega)).setOut (o + 3) _ (by omega)).setOut (o + 4) _ (by omega)).setFar _ _ hgm)
  · exact ((((((hs.setFar _ _ (Ne.symm hgp)).setFar _ _ (Ne.symm hgp)).setFar _ _ (Ne.symm hgp)).setFar _ _ (Ne.symm hgp)).setFar _ _ (Ne.symm hgp)).setFar _ _ (Ne.symm hmp))
  · exact ((((((Kept.setCell _ _ _ (by simp)).trans (Kept.setCell _ _ _ (by simp))).trans (Kept.setCell _ _ _ (by simp))).trans (Kept.setCell _ _ _ (by simp))).trans (Kept.setCell _ _ _ (by simp))).trans (Kept.setCell _ _ _ (by simp)))

def old (now : Int) (e : Ent) : Bool := decide (e.2 ≤ now)
def Fit (es : List Ent) : Prop := (∀ e ∈ es, Good e.1 ∧ -4000000000000000000 ≤ e.2 ∧ e.2 ≤ 4000000000000000000) ∧ (es.map (·.1)).Nodup

set_option maxRecDepth 400000 in
set_option maxHeartbeats 800000 in
theorem forget_any (m : Nat) (name : ByteArray) (maxB : Int) (h : Nat) (L : Int) (mp : Nat) (wt : Value) (added : Int) (g o cap n : Nat) (es : List Ent) (now : Int) (w : World)
    (hm : Mach w m name maxB h L mp wt added (.slice (some ⟨g, o, none⟩) es.length cap)) (hr : Row w 41 5 g o es.length cap (ents es)) (hs : MSet w mp n (es.map (·.1)))
    (hfit : Fit es) (hn1 : -4000000000000000000 ≤ now) (hn2 : now ≤ 4000000000000000000) :
    Calls Yba.prog 12 #[.pointer (some ⟨m, 0, none⟩), tv now] w fun e w' => e = .returned (.tuple #[]) ∧ ∃ o' cap', Mach w' m name maxB h L mp wt added (.slice (some ⟨g, o', none⟩) (es.dropWhile (old now)).length cap') ∧
      Row w' 41 5 g o' (es.dropWhile (old now)).length cap' (ents (es.dropWhile (old now))) ∧ MSet w' mp n ((es.dropWhile (old now)).map (·.1)) ∧ Kept (fun k => k = m ∨ k = mp ∨ k = g) w w' := by
  have HM : Hid (Mach w m name maxB h L mp wt added (.slice (some ⟨g, o, none⟩) es.length cap)) := hm
  have HR : Hid (Row w 41 5 g o es.length cap (ents es)) := hr
  have HS : Hid (MSet w mp n (es.map (·.1))) := hs
  have HF : Hid (Fit es) := hfit
  have hml := hm.lt
  have hgl := hr.lt
  have hpl := hs.lt
  clear hm hr hs hfit
  unfold tv
  go_enter Yba.func12, Yba.ntmps12
  go_wp2_with fail
  go_loopg [4] es.length (fun gh s wr => ∃ (es1 : List Ent) (o1 cap1 : Nat), gh = es1.length ∧ es1.dropWhile (old now) = es.dropWhile (old now) ∧ Fit es1 ∧ Mach wr m name maxB h L mp wt added (.slice (some ⟨g, o1, none⟩) es1.length cap1) ∧
      Row wr 41 5 g o1 es1.length cap1 (ents es1) ∧ MSet wr mp n (es1.map (·.1)) ∧ Kept (fun k => k = m ∨ k = mp ∨ k = g) w wr ∧ wr.heap[w.heap.size]? = some (.cells #[.int .u64 (now % 1000000000), .int .i64 (now / 1000000000), .pointer none] 29 (0, 0)))
  case atStart =>
    refine ⟨es, o, cap, rfl, rfl, HF.out, HM.out.same (Below.heap_alloc _ _ _ hml), HR.out.same (Below.heap_alloc _ _ _ hgl), HS.out.same (Below.heap_alloc _ _ _ hpl), Kept.alloc _ _ _, heap_alloc_new _ _⟩
  case round =>
    obtain ⟨es1, o1, cap1, hg, hdw, hf1, hm1, hr1, hs1, hk1, hb1⟩ := hrel
    obtain ⟨_, _, _, _, _, _, c52, c53⟩ := hm1.cells
    have t0 : wr.cell? ⟨w.heap.size, 0, none⟩ = some (.int .u64 (now % 1000000000)) := by simp [World.cell?, hb1]
    have t1 : wr.cell? ⟨w.heap.size, 1, none⟩ = some (.int .i64 (now / 1000000000)) := by simp [World.cell?, hb1]
    have t2 : wr.cell? ⟨w.heap.size, 2, none⟩ = some (.pointer none) := by simp [World.cell?, hb1]
    have hsz := hk1.size
    have hgm : g ≠ m := hm1.not_row hr1 (by decide)
    have hgp : g ≠ mp := hr1.not_mset hs1
    have hmp : m ≠ mp := hm1.not_mset hs1
    have HG : Hid (gk = es1.length) := hg
    have HDW : Hid (List.dropWhile (old now) es1 = List.dropWhile (old now) es) := hdw
    have HF1 : Hid (Fit es1) := hf1
    have HM1 : Hid (Mach wr m name maxB h L mp wt added (.slice (some ⟨g, o1, none⟩) es1.length cap1)) := hm1
    have HR1 : Hid (Row wr 41 5 g o1 es1.length cap1 (ents es1)) := hr1
    have HS1 : Hid (MSet wr mp n (es1.map (·.1))) := hs1
    have HK1 : Hid (Kept (fun k => k = m ∨ k = mp ∨ k = g) w wr) := hk1
    have HB1 : Hid (wr.heap[w.heap.size]? = some (.cells #[.int .u64 (now % 1000000000), .int .i64 (now / 1000000000), .pointer none] 29 (0, 0))) := hb1
    clear hg hdw hf1 hm1 hr1 hs1 hk1 hb1
    rcases es1 with _ | ⟨⟨k, at1⟩, es2⟩
    · simp only [List.length_nil] at c53
      go_wp2_with fail
      go_quiet (fail)
      go_wp2
      go_end0
      refine ⟨rfl, o1, cap1, ?_⟩
      have := HDW.out
      simp only [List.dropWhile_nil] at this
      rw [← this]
      exact ⟨HM1.out, HR1.out, HS1.out, ⟨HK1.out.os, HK1.out.tape, HK1.out.output, HK1.out.size, HK1.out.block⟩⟩
    · have r0 := HR1.out.cell 0 (u := .string k.1) rfl
      have r1 := HR1.out.cell 1 (u := .int .u64 (k.2 : Int)) rfl
      have r2 := HR1.out.cell 2 (u := .int .u64 (at1 % 1000000000)) rfl
      have r3 := HR1.out.cell 3 (u := .int .i64 (at1 / 1000000000)) rfl
      have r4 := HR1.out.cell 4 (u := .pointer none) rfl
      simp only [List.length_cons] at c53
      simp only [Nat.add_zero] at r0
      have hlen0 : (0 : Int) < (es2.length : Int) + 1 := by omega
      have hlen : (0 : Int) < ((es2.length + 1 : Nat) : Int) := by omega
      have hgw := World.block_lt_of_cell? wr _ r0
      have hmw := World.block_lt_of_cell? wr _ c53
      have hbw := World.block_lt_of_cell? wr _ t0
      simp only at hgw hmw hbw
      have HGK : Hid (Good k) := (HF1.out.1 (k, at1) (by simp)).1
      have HNK : Hid (k ∉ es2.map (·.1)) := (List.nodup_cons.1 HF1.out.2).1
      by_cases hlt : now < at1
      · have hdec : decide (now < at1) = true := by simp [hlt]
        go_wp2_with fail
        go_region_held3 (fun w' => w'.cell? ⟨m, 53, none⟩ = some (.slice (some ⟨g, o1, none⟩) (es2.length + 1) cap1) ∧ w'.cell? ⟨w.heap.size, 0, none⟩ = some (.int .u64 (now % 1000000000)) ∧ w'.cell? ⟨w.heap.size, 1, none⟩ = some (.int .i64 (now / 1000000000)) ∧ w'.cell? ⟨w.heap.size, 2, none⟩ = some (.pointer none) ∧
            w'.cell? ⟨g, o1 + 2, none⟩ = some (.int .u64 (at1 % 1000000000)) ∧ w'.cell? ⟨g, o1 + 3, none⟩ = some (.int .i64 (at1 / 1000000000)) ∧ w'.cell? ⟨g, o1 + 4, none⟩ = some (.pointer none))
          (first | go_keep | (go_split_ands; refine ⟨?_, ?_, ?_, ?_, ?_, ?_, ?_⟩ <;> (rw [hbel.cell (by simp; omega)]; assumption)))
          (first | (go_at_call 16; refine (before_any now at1 _).mono ?_; rintro e w' ⟨he, hbel⟩; rw [hdec] at he; subst he))
        have hm1 : Mach w' m name maxB h L mp wt added (.slice (some ⟨g, o1, none⟩) (es2.length + 1) cap1) := HM1.out.same (hbel.block m hmw)
        have hr1 : Row w' 41 5 g o1 (es2.length + 1) cap1 (ent (k, at1) ++ ents es2) := HR1.out.same (hbel.block g hgw)
        have hs1 : MSet w' mp n (k :: es2.map (·.1)) := HS1.out.same (hbel.block mp HS1.out.lt)
        have hk1 : Kept (fun k => k = m ∨ k = mp ∨ k = g) w w' := HK1.out.trans ((Kept.drew _ wr).trans (Kept.of_below hbel))
        have hb1 : w'.heap[w.heap.size]? = some (.cells #[.int .u64 (now % 1000000000), .int .i64 (now / 1000000000), .pointer none] 29 (0, 0)) := (hbel.block _ hbw).trans HB1.out
        have HBEL : Hid (Below wr.drew.heap.size wr.drew w') := hbel
        clear hbel t0 t1 t2 r0 r1 r2 r3 r4 c52 c53 HM1 HR1 HS1 HK1 HB1
        rename World => W1
        obtain ⟨_, _, _, _, _, _, c52, c53⟩ := hm1.cells
        have r0 := hr1.cell 0 (u := .string k.1) rfl
        have r1 := hr1.cell 1 (u := .int .u64 (k.2 : Int)) rfl
        simp only [Nat.add_zero] at r0
        have HM1 : Hid (Mach W1 m name maxB h L mp wt added (.slice (some ⟨g, o1, none⟩) (es2.length + 1) cap1)) := hm1
        have HR1 : Hid (Row W1 41 5 g o1 (es2.length + 1) cap1 (ent (k, at1) ++ ents es2)) := hr1
        have HS1 : Hid (MSet W1 mp n (k :: es2.map (·.1))) := hs1
        have HK1 : Hid (Kept (fun k => k = m ∨ k = mp ∨ k = g) w W1) := hk1
        have HB1 : Hid (W1.heap[w.heap.size]? = some (.cells #[.int .u64 (now % 1000000000), .int .i64 (now / 1000000000), .pointer none] 29 (0, 0))) := hb1
        clear hm1 hr1 hs1 hk1 hb1
        go_wp2
        go_end0
        refine ⟨rfl, o1, cap1, ?_⟩
        have := HDW.out
        rw [List.dropWhile_cons_of_neg (by simp [old]; omega)] at this
        rw [← this]
        exact ⟨HM1.out, HR1.out, HS1.out, HK1.out⟩
      · have hdec : decide (now < at1) = false := by simp; omega
        go_wp2_with fail
        go_region_held3 (fun w' => w'.cell? ⟨m, 53, none⟩ = some (.slice (some ⟨g, o1, none⟩) (es2.length + 1) cap1) ∧ w'.cell? ⟨w.heap.size, 0, none⟩ = some (.int .u64 (now % 1000000000)) ∧ w'.cell? ⟨w.heap.size, 1, none⟩ = some (.int .i64 (now / 1000000000)) ∧ w'.cell? ⟨w.heap.size, 2, none⟩ = some (.pointer none) ∧
            w'.cell? ⟨g, o1 + 2, none⟩ = some (.int .u64 (at1 % 1000000000)) ∧ w'.cell? ⟨g, o1 + 3, none⟩ = some (.int .i64 (at1 / 1000000000)) ∧ w'.cell? ⟨g, o1 + 4, none⟩ = some (.pointer none))
          (first | go_keep | (go_split_ands; refine ⟨?_, ?_, ?_, ?_, ?_, ?_, ?_⟩ <;> (rw [hbel.cell (by simp; omega)]; assumption)))
          (first | (go_at_call 16; refine (before_any now at1 _).mono ?_; rintro e w' ⟨he, hbel⟩; rw [hdec] at he; subst he))
        have hm1 : Mach w' m name maxB h L mp wt added (.slice (some ⟨g, o1, none⟩) (es2.length + 1) cap1) := HM1.out.same (hbel.block m hmw)
        have hr1 : Row w' 41 5 g o1 (es2.length + 1) cap1 (ent (k, at1) ++ ents es2) := HR1.out.same (hbel.block g hgw)
        have hs1 : MSet w' mp n (k :: es2.map (·.1)) := HS1.out.same (hbel.block mp HS1.out.lt)
        have hk1 : Kept (fun k => k = m ∨ k = mp ∨ k = g) w w' := HK1.out.trans ((Kept.drew _ wr).trans (Kept.of_below hbel))
        have hb1 : w'.heap[w.heap.size]? = some (.cells #[.int .u64 (now % 1000000000), .int .i64 (now / 1000000000), .pointer none] 29 (0, 0)) := (hbel.block _ hbw).trans HB1.out
        have HBEL : Hid (Below wr.drew.heap.size wr.drew w') := hbel
        clear hbel t0 t1 t2 r0 r1 r2 r3 r4 c52 c53 HM1 HR1 HS1 HK1 HB1
        rename World => W1
        obtain ⟨_, _, _, _, _, _, c52, c53⟩ := hm1.cells
        have r0 := hr1.cell 0 (u := .string k.1) rfl
        have r1 := hr1.cell 1 (u := .int .u64 (k.2 : Int)) rfl
        simp only [Nat.add_zero] at r0
        have HM1 : Hid (Mach W1 m name maxB h L mp wt added (.slice (some ⟨g, o1, none⟩) (es2.length + 1) cap1)) := hm1
        have HR1 : Hid (Row W1 41 5 g o1 (es2.length + 1) cap1 (ent (k, at1) ++ ents es2)) := hr1
        have HS1 : Hid (MSet W1 mp n (k :: es2.map (·.1))) := hs1
        have HK1 : Hid (Kept (fun k => k = m ∨ k = mp ∨ k = g) w W1) := hk1
        have HB1 : Hid (W1.heap[w.heap.size]? = some (.cells #[.int .u64 (now % 1000000000), .int .i64 (now / 1000000000), .pointer none] 29 (0, 0))) := hb1
        clear hm1 hr1 hs1 hk1 hb1
        have hgw1 := World.block_lt_of_cell? W1 _ r0
        have hmw1 := World.block_lt_of_cell? W1 _ c53
        simp only at hgw1 hmw1
        go_wp2_with fail
        go_region_held3 (fun w' => w'.cell? ⟨m, 52, none⟩ = some (.map (some mp)) ∧ w'.cell? ⟨m, 53, none⟩ = some (.slice (some ⟨g, o1, none⟩) (es2.length + 1) cap1) ∧ w'.cell? ⟨g, o1, none⟩ = some (.string k.1) ∧ w'.cell? ⟨g, o1 + 1, none⟩ = some (.int .u64 (k.2 : Int)))
          (first | go_keep | (go_split_ands; refine ⟨?_, ?_, ?_, ?_⟩ <;> (rw [hgr.cell_far _ (by simp; omega) (by simp; omega)]; assumption)))
          ((refine step_delete (by rfl) _ _ (by rfl) k (by rfl) (by rfl) (HS1.out.same rfl) HGK.out HNK.out ?_; intro w2 hms hgr))
        have hm2 : Mach w2 m name maxB h L mp wt added (.slice (some ⟨g, o1, none⟩) (es2.length + 1) cap1) := HM1.out.same (hgr.block m hmw1 (by simp; omega))
        have hr2 : Row w2 41 5 g o1 (es2.length + 1) cap1 (ent (k, at1) ++ ents es2) := HR1.out.same (hgr.block g hgw1 (by simp; omega))
        have HK2 : Hid (Kept (fun k => k = m ∨ k = mp ∨ k = g) w w2) := HK1.out.trans ((Kept.drew _ W1).trans (Kept.of_grown hgr (by rintro k hk; cases hk; simp)))
        have HB2 : Hid (w2.heap[w.heap.size]? = some (.cells #[.int .u64 (now % 1000000000), .int .i64 (now / 1000000000), .pointer none] 29 (0, 0))) := by
          refine (hgr.block _ ?_ (by simp; omega)).trans HB1.out
          exact (Array.getElem?_eq_some_iff.1 HB1.out).1
        have HMS : Hid (MSet w2 mp n (es2.map (·.1))) := hms
        have HM2 : Hid (Mach w2 m name maxB h L mp wt added (.slice (some ⟨g, o1, none⟩) (es2.length + 1) cap1)) := hm2
        have HR2 : Hid (Row w2 41 5 g o1 (es2.length + 1) cap1 (ent (k, at1) ++ ents es2)) := hr2
        clear c52 c53 r0 r1 HM1 HR1 HS1 HK1 HB1
        obtain ⟨_, _, _, _, _, _, c52, c53⟩ := hm2.cells
        have f53 := hm2.frozen 53
        have r0 := hr2.cell 0 (u := .string k.1) rfl
        have r1 := hr2.cell 1 (u := .int .u64 (k.2 : Int)) rfl
        have r2 := hr2.cell 2 (u := .int .u64 (at1 % 1000000000)) rfl
        have r3 := hr2.cell 3 (u := .int .i64 (at1 / 1000000000)) rfl
        have r4 := hr2.cell 4 (u := .pointer none) rfl
        have q0 := hr2.frozen o1
        have q1 := hr2.frozen (o1 + 1)
        have q2 := hr2.frozen (o1 + 2)
        have q3 := hr2.frozen (o1 + 3)
        have q4 := hr2.frozen (o1 + 4)
        simp only [Nat.add_zero] at r0
        have hcapge : 1 ≤ cap1 := by have := hr2.le; omega
        have HLE : Hid (es2.length + 1 ≤ cap1) := hr2.le
        clear hm2 hr2 hms hgr
        have hdw2 : es2.dropWhile (old now) = es.dropWhile (old now) := by
          have := HDW.out
          rwa [List.dropWhile_cons_of_pos (by simp [old]; omega)] at this
        have HDW2 : Hid (es2.dropWhile (old now) = es.dropWhile (old now)) := hdw2
        have HF2 : Hid (Fit es2) := ⟨fun e he => HF1.out.1 e (by simp [he]), (List.nodup_cons.1 HF1.out.2).2⟩
        clear hdw2
        by_cases hc : cap1 = 1
        · subst hc
          have hnil : es2 = [] := by
            have := HLE.out
            exact List.eq_nil_of_length_eq_zero (by omega)
          subst hnil
          have HD : Hid (Row w2 41 5 g o1 0 0 []) := HR2.out.empty o1 (Nat.le_refl _)
          go_wp2
          go_roundg 0
          case measure => have := HG.out; simp at this; omega
          case rel =>
            obtain ⟨d1, d2, d3, d4⟩ := dropped_ok HM2.out HD.out (o := o1) (.inr (by simp)) HMS.out hgm hgp hmp (.slice (some ⟨g, o1, none⟩) 0 0)
            exact ⟨[], o1, 0, rfl, HDW2.out, HF2.out, d1, d2, d3, HK2.out.trans d4, (d4.block _ ((Array.getElem?_eq_some_iff.1 HB2.out).1) (by omega)).trans HB2.out⟩
        · have HD : Hid (Row w2 41 5 g (o1 + 5) es2.length (cap1 - 1) (ents es2)) := HR2.out.tail rfl
          go_wp2
          go_roundg es2.length
          case measure => have := HG.out; simp at this; omega
          case rel =>
            obtain ⟨d1, d2, d3, d4⟩ := dropped_ok HM2.out HD.out (o := o1) (.inl (by omega)) HMS.out hgm hgp hmp (.slice (some ⟨g, o1 + 5, none⟩) es2.length (cap1 - 1))
            exact ⟨es2, o1 + 5, cap1 - 1, rfl, HDW2.out, HF2.out, d1, d2, d3, HK2.out.trans d4, (d4.block _ ((Array.getElem?_eq_some_iff.1 HB2.out).1) (by omega)).trans HB2.out⟩
end Go.Proofs.Ybulkctoc.HT
