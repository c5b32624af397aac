/- THE CONTRACT OF 'hear' (5). -/
import Derived.Test.YbulkctocHost
import Derived.Test.YbulkctocBytes
import Derived.Test.YbulkctocRemember
namespace Go.Proofs.Ybulkctoc.HT
open Go.ChangeShapes Go.WideShapes Go.ChangeAt Go.RowKit
set_option linter.unusedVariables false
attribute [local go_sem ↓] Go.wp_at_zero Go.wp_at_succ

theorem toList_ne {a b : ByteArray} (h : a ≠ b) : (a.toList == b.toList) = false := by
  rw [beq_eq_false_iff_ne]
  intro e
  rw [ByteArray.toList_eq, ByteArray.toList_eq] at e
  exact h (ByteArray.ext (Array.toList_inj.1 e))
theorem below2n (w : World) (a b : Obj) (q : Nat) : Below w.heap.size w (((w.alloc a).alloc b).drewN q) := by
  have hb := ((Below.refl w.heap.size w).alloc (Nat.le_refl _) a).alloc (by simp) b
  exact ⟨hb.os, hb.tape, hb.output, hb.size, hb.block⟩

set_option maxRecDepth 400000 in
set_option maxHeartbeats 800000 in
theorem hear_early (m : Nat) (name : ByteArray) (maxB : Int) (h : Nat) (L : Int) (mp : Nat) (wt : Value) (added : Int) (fv : Value) (origin : ByteArray) (id age : Int) (pa : Option Addr) (pn pc : Nat) (now : Int) (w : World)
    (hm : Mach w m name maxB h L mp wt added fv) (ha0 : 0 ≤ age) (ha1 : age < 4294967296) (he : origin = name ∨ L < age * 1000000 ∨ maxB < pn) :
    Calls Yba.prog 5 #[.pointer (some ⟨m, 0, none⟩), .agg #[.string origin, .int .u64 id, .int .u32 age, .slice pa pn pc], tv now] w fun e w' => e = .returned (.tuple #[]) ∧ Below w.heap.size w w' := by
  obtain ⟨c0, c19, c24, c41, c43, c51, c52, c53⟩ := hm.cells
  have hml := hm.lt
  clear hm c24 c41 c43 c52 c53
  unfold tv
  by_cases h1 : origin = name
  · subst h1
    go_enter Yba.func5, Yba.ntmps5
    go_wp2_with fail
    go_quiet (fail)
    go_wp2
    refine bodyPost_ret (results_none rfl _ _ _) rfl ?_
    exact ⟨rfl, below2n w _ _ _⟩
  · have hb1 := toList_ne h1
    by_cases h2 : L < age * 1000000
    · go_enter Yba.func5, Yba.ntmps5
      go_wp2_with fail
      go_quiet (fail)
      go_wp2
      refine bodyPost_ret (results_none rfl _ _ _) rfl ?_
      exact ⟨rfl, below2n w _ _ _⟩
    · have h3 : maxB < pn := by
        rcases he with he | he | he
        · exact absurd he h1
        · exact absurd he h2
        · exact he
      clear he
      go_enter Yba.func5, Yba.ntmps5
      go_wp2_with fail
      go_quiet (fail)
      go_wp2
      refine bodyPost_ret (results_none rfl _ _ _) rfl ?_
      exact ⟨rfl, below2n w _ _ _⟩

theorem step_append_copy {w : World} {ops : Array Oper} {o' : Oper} {a' : Act} {K : Act → World → Prop} {Q : Exit → Act → World → Prop} {E : Prop} (hgd : o'.guard = none) (s x : Operand)
    (ho : o'.op = .call { callee := .builtin .append, args := #[s, x], argTypes := #[24, 24] }) (p : Option Addr) (n c : Nat) (xs : List Int) (hs : a'.eval s = .slice none 0 0) (hx : a'.eval x = .slice p n c) (hB : BIn w p n xs) (hn : n ≤ 100000000)
    (h : ∀ p' c' w', BIn w' p' n xs → w.grownBy w' none → (0 < n → ∀ a, p' = some a → w.heap.size ≤ a.block) → K (a'.put o'.dst (.slice p' n c')) w') :
    if Region.wanted o' (yielded ops a'.tmps) = true then Oper.wp Yba.prog o' a' w K Q else E := by
  have hw : Region.wanted o' (yielded ops a'.tmps) = true := by simp [Region.wanted, hgd]
  rw [if_pos hw]
  obtain ⟨p', c', w', hr, h1, h2, h3⟩ := run_append_copy w o'.type p n c xs hB hn
  unfold Oper.wp execOp
  simp only [ho, resolve, invoke, builtin, Sem.run_bind, Sem.run_pure, Result.andThen_ok, List.map_toArray, List.map_cons, List.map_nil, hs, hx, hr]
  exact h p' c' w' h1 h2 h3
theorem Kept.drewN (S : Nat → Prop) (w : World) (q : Nat) : Kept S w (w.drewN q) := ⟨rfl, rfl, rfl, Nat.le_refl _, fun _ _ _ => rfl⟩
theorem method_deliver (a : Addr) (w : World) : (method 283 42 (.pointer (some a)) "Deliver").run Yba.prog w = .ok (37, .pointer (some a)) w := by kernel_rfl
theorem below2nKept {S : Nat → Prop} (w : World) (a b : Obj) (q : Nat) : Kept S w (((w.alloc a).alloc b).drewN q) := Kept.of_below (below2n w a b q)
theorem heap_alloc_at (W : World) (o : Obj) (n : Nat) (hn : W.heap.size = n) : (W.alloc o).heap[n]? = some o := by
  subst hn
  exact heap_alloc_new W o
theorem MSet.yes {w : World} {b n : Nat} {ks : List Key} (h : MSet w b n ks) (k : Key) (hk : Good k) (hin : k ∈ ks) : (Instr.lookup 31 (.map (some b)) (kv k) false).run Yba.prog w = .ok (.bool true) w := by
  obtain ⟨x, hr, hx⟩ := h.look k hk
  rw [hr, hx.2 hin]
theorem MSet.no {w : World} {b n : Nat} {ks : List Key} (h : MSet w b n ks) (k : Key) (hk : Good k) (hin : k ∉ ks) : (Instr.lookup 31 (.map (some b)) (kv k) false).run Yba.prog w = .ok (.bool false) w := by
  obtain ⟨x, hr, hx⟩ := h.look k hk
  cases x with
  | false => exact hr
  | true => exact absurd (hx.1 rfl) hin

/-- What 'hear' leaves where the broadcast is dropped behind 'forgetOld'. -/
def Dropped (m : Nat) (name : ByteArray) (maxB : Int) (h : Nat) (L : Int) (mp : Nat) (g n : Nat) (es : List Ent) (w w' : World) : Prop :=
  ∃ o' cap', Mach w' m name maxB h L mp (.slice none 0 0) 0 (.slice (some ⟨g, o', none⟩) es.length cap') ∧ Row w' 41 5 g o' es.length cap' (ents es) ∧ MSet w' mp n (es.map (·.1)) ∧ Kept (fun k => k = m ∨ k = mp ∨ k = g) w w'
/-- What 'hear' leaves where the broadcast is taken in. -/
def Taken (m : Nat) (name : ByteArray) (maxB : Int) (h : Nat) (L : Int) (mp : Nat) (g n : Nat) (es : List Ent) (origin : ByteArray) (id : Nat) (age : Int) (pa : Option Addr) (pn pc : Nat) (bs : List Int) (now : Int) (w w' : World) : Prop :=
  ∃ g' o' cap' g1 cap1 nb bb p' c', Mach w' m name maxB h L mp (.slice (some ⟨g1, 0, none⟩) 1 cap1) 1 (.slice (some ⟨g', o', none⟩) (es.length + 1) cap') ∧ Row w' 41 5 g' o' (es.length + 1) cap' (ents (es ++ [((origin, id), now + 2 * L)])) ∧
    MSet w' mp (n + 1) (es.map (·.1) ++ [(origin, id)]) ∧ HostIs w' h 1 0 origin (.slice p' pn c') now ∧ BIn w' p' pn bs ∧ News w' g1 cap1 nb bb origin id age (.slice pa pn pc) (now + -(age * 1000000)) ∧ Kept (fun k => k = m ∨ k = mp ∨ k = g ∨ k = h) w w'

set_option maxRecDepth 400000 in
set_option maxHeartbeats 800000 in
theorem hear_on (m : Nat) (name : ByteArray) (maxB : Int) (h : Nat) (L : Int) (mp : Nat) (g o cap n : Nat) (es : List Ent) (origin : ByteArray) (id : Nat) (age : Int) (pa : Option Addr) (pn pc : Nat) (bs : List Int) (s0 : ByteArray) (pv0 : Value) (ns0 : Int) (now : Int) (es' : List Ent) (hes : es.dropWhile (old now) = es') (w : World)
    (hm : Mach w m name maxB h L mp (.slice none 0 0) 0 (.slice (some ⟨g, o, none⟩) es.length cap)) (hr : Row w 41 5 g o es.length cap (ents es)) (hs : MSet w mp n (es.map (·.1))) (hfit : Fit es) (hgood : Good (origin, id))
    (hh : HostIs w h 0 0 s0 pv0 ns0) (hbs : BIn w pa pn bs) (hpn : pn ≤ 100000000) (hpb : 0 < pn → ∀ a, pa = some a → ¬ (a.block = m ∨ a.block = mp ∨ a.block = g ∨ a.block = h)) (hn : n < maxLen) (hlen : es.length ≤ 1000000)
    (ha0 : 0 ≤ age) (ha1 : age < 4294967296) (h1 : origin ≠ name) (h2 : ¬ L < age * 1000000) (h3 : ¬ maxB < pn) (hL0 : 0 ≤ L) (hL1 : L ≤ 1000000000000) (hn1 : -3000000000000000000 ≤ now) (hn2 : now ≤ 3000000000000000000) :
    Calls Yba.prog 5 #[.pointer (some ⟨m, 0, none⟩), .agg #[.string origin, .int .u64 (id : Int), .int .u32 age, .slice pa pn pc], tv now] w fun e w' => e = .returned (.tuple #[]) ∧
      (((origin, id) ∈ es'.map (·.1) ∨ 8192 ≤ es'.length) → Dropped m name maxB h L mp g n es' w w') ∧
      (¬ ((origin, id) ∈ es'.map (·.1) ∨ 8192 ≤ es'.length) → Taken m name maxB h L mp g n es' origin id age pa pn pc bs now w w') := by
  obtain ⟨c0, c19, c24, c41, c43, c51, c52, c53⟩ := hm.cells
  have hml := hm.lt
  have hgl := hr.lt
  have hpl := hs.lt
  have hhl : h < w.heap.size := (Array.getElem?_eq_some_iff.1 hh).1
  have hgm : g ≠ m := hm.not_row hr (by decide)
  have hgp : g ≠ mp := hr.not_mset hs
  have hmp : m ≠ mp := hm.not_mset hs
  have hhp : h ≠ mp := hs.not_cells hh
  have hhm : h ≠ m := by
    rintro rfl
    obtain ⟨cur, hg, _⟩ := hm
    rw [hh] at hg
    cases hg
  have hhg : h ≠ g := by
    rintro rfl
    obtain ⟨cur, hg, _⟩ := hr
    rw [hh] at hg
    cases hg
  have hb1 := toList_ne h1
  have HM : Hid (Mach w m name maxB h L mp (.slice none 0 0) 0 (.slice (some ⟨g, o, none⟩) es.length cap)) := hm
  have HR : Hid (Row w 41 5 g o es.length cap (ents es)) := hr
  have HS : Hid (MSet w mp n (es.map (·.1))) := hs
  have HF : Hid (Fit es) := hfit
  have HGOOD : Hid (Good (origin, id)) := hgood
  have HH : Hid (HostIs w h 0 0 s0 pv0 ns0) := hh
  have HBS : Hid (BIn w pa pn bs) := hbs
  have HPB : Hid (0 < pn → ∀ a, pa = some a → ¬ (a.block = m ∨ a.block = mp ∨ a.block = g ∨ a.block = h)) := hpb
  have HNL : Hid (n < maxLen ∧ es.length ≤ 1000000) := ⟨hn, hlen⟩
  have HES : Hid (es.dropWhile (old now) = es') := hes
  clear hes hm hr hs hfit hgood hh hbs hpb hn hlen h1 c24 c41 c43 c52 c53
  unfold tv
  go_enter Yba.func5, Yba.ntmps5
  go_wp2_with fail
  go_quiet (fail)
  go_wp2_with fail
  refine (forget_any m name maxB h L mp (.slice none 0 0) 0 g o cap n es now _ ?_ ?_ ?_ HF.out (by omega) (by omega)).mono ?_
  · exact (mach_alloc (w := (((w.alloc _).alloc _).drewN nq)) (mach_alloc (mach_alloc HM.out _) _) _)
  · exact (Row.alloc (w := (((w.alloc _).alloc _).drewN nq)) ((HR.out.alloc _).alloc _) _)
  · exact (MSet.alloc (w := (((w.alloc _).alloc _).drewN nq)) (((HS.out.alloc _).alloc _).same rfl) _)
  rintro e w1 ⟨rfl, o1, cap1, hm1, hr1, hs1, hk1⟩
  have HK1 : Hid (Kept (fun k => k = m ∨ k = mp ∨ k = g) w w1) := (below2nKept w _ _ nq).trans ((Kept.alloc _ _ _).trans hk1)
  have hbb : w1.heap[w.heap.size]? = some (bcObj origin id age (.slice pa pn pc)) := by
    refine (hk1.block _ (by simp; omega) (by simp; omega)).trans ?_
    exact (Below.heap_alloc _ _ _ (by simp; omega)).trans ((Below.heap_alloc _ _ _ (by simp)).trans (heap_alloc_new w _))
  have hbt : w1.heap[w.heap.size + 1]? = some (tmObj now) := by
    refine (hk1.block _ (by simp) (by simp; omega)).trans ?_
    exact (Below.heap_alloc _ _ _ (by simp)).trans (heap_alloc2_new w _ _)
  have hbk : w1.heap[w.heap.size + 1 + 1]? = some (.cells #[.string origin, .int .u64 (id : Int)] 38 (0, 0)) := by
    refine (hk1.block _ (by simp) (by simp; omega)).trans ?_
    exact heap_alloc_at _ _ _ (by simp)
  have hsz1 : w.heap.size + 1 + 1 + 1 ≤ w1.heap.size := by simpa using hk1.size
  rw [HES.out] at hm1 hr1 hs1
  have hlen' : es'.length ≤ 1000000 := by
    have := (List.dropWhile_sublist (old now) (l := es)).length_le
    rw [HES.out] at this
    have := HNL.out.2
    omega
  obtain ⟨_, _, d24, d41, d43, d51, d52, d53⟩ := hm1.cells
  have hM1 : ∀ q, Mach (w1.drewN q) m name maxB h L mp (.slice none 0 0) 0 (.slice (some ⟨g, o1, none⟩) es'.length cap1) := fun q => hm1
  have k0 : w1.cell? ⟨w.heap.size + 1 + 1, 0, none⟩ = some (.string origin) := cellOf hbk 0 rfl
  have k1 : w1.cell? ⟨w.heap.size + 1 + 1, 1, none⟩ = some (.int .u64 (id : Int)) := cellOf hbk 1 rfl
  have b0 : w1.cell? ⟨w.heap.size, 0, none⟩ = some (.string origin) := cellOf hbb 0 rfl
  have b3 : w1.cell? ⟨w.heap.size, 3, none⟩ = some (.slice pa pn pc) := cellOf hbb 3 rfl
  have t0 : w1.cell? ⟨w.heap.size + 1, 0, none⟩ = some (.int .u64 (now % 1000000000)) := cellOf hbt 0 rfl
  have t1 : w1.cell? ⟨w.heap.size + 1, 1, none⟩ = some (.int .i64 (now / 1000000000)) := cellOf hbt 1 rfl
  have t2 : w1.cell? ⟨w.heap.size + 1, 2, none⟩ = some (.pointer none) := cellOf hbt 2 rfl
  have hlk : ∀ q, (Builtin.len_ #[31] 3 #[.map (some mp)]).run Yba.prog (w1.drewN q) = .ok (.int .i64 es'.length) (w1.drewN q) := fun q => by
    have := (hs1.same (w' := w1.drewN q) rfl).len 3
    simpa using this
  by_cases hin : (origin, id) ∈ es'.map (·.1)
  · have hyes : ∀ q, (Instr.lookup 31 (.map (some mp)) (.agg #[.string origin, .int .u64 (id : Int)]) false).run Yba.prog (w1.drewN q) = .ok (.bool true) (w1.drewN q) := fun q => (hs1.same (w' := w1.drewN q) rfl).yes _ HGOOD.out hin
    have HM1 : Hid (Mach w1 m name maxB h L mp (.slice none 0 0) 0 (.slice (some ⟨g, o1, none⟩) es'.length cap1)) := hm1
    have HR1 : Hid (Row w1 41 5 g o1 es'.length cap1 (ents es')) := hr1
    have HS1 : Hid (MSet w1 mp n (es'.map (·.1))) := hs1
    have HIN : Hid ((origin, id) ∈ es'.map (·.1)) := hin
    clear hm1 hr1 hs1 hin hbb hbt hbk hM1 hk1
    go_wp2_with fail
    go_quiet (fail)
    go_wp2
    refine bodyPost_ret (results_none rfl _ _ _) rfl ?_
    exact ⟨rfl, fun _ => ⟨o1, cap1, HM1.out, HR1.out, HS1.out.same rfl, ⟨HK1.out.os, HK1.out.tape, HK1.out.output, HK1.out.size, HK1.out.block⟩⟩, fun hc => absurd (.inl HIN.out) hc⟩
  · have hno : ∀ q, (Instr.lookup 31 (.map (some mp)) (.agg #[.string origin, .int .u64 (id : Int)]) false).run Yba.prog (w1.drewN q) = .ok (.bool false) (w1.drewN q) := fun q => (hs1.same (w' := w1.drewN q) rfl).no _ HGOOD.out hin
    have HM1 : Hid (Mach w1 m name maxB h L mp (.slice none 0 0) 0 (.slice (some ⟨g, o1, none⟩) es'.length cap1)) := hm1
    have HR1 : Hid (Row w1 41 5 g o1 es'.length cap1 (ents es')) := hr1
    have HS1 : Hid (MSet w1 mp n (es'.map (·.1))) := hs1
    have HIN : Hid ((origin, id) ∉ es'.map (·.1)) := hin
    have HBB : Hid (w1.heap[w.heap.size]? = some (bcObj origin id age (.slice pa pn pc))) := hbb
    have HBT : Hid (w1.heap[w.heap.size + 1]? = some (tmObj now)) := hbt
    clear hm1 hr1 hs1 hin hbb hbt hbk hM1 hk1
    by_cases h8 : 8192 ≤ es'.length
    · have h8' : (8192 : Int) ≤ (es'.length : Int) := by omega
      go_wp2_with fail
      go_quiet (fail)
      go_wp2
      refine bodyPost_ret (results_none rfl _ _ _) rfl ?_
      exact ⟨rfl, fun _ => ⟨o1, cap1, HM1.out, HR1.out, HS1.out.same rfl, ⟨HK1.out.os, HK1.out.tape, HK1.out.output, HK1.out.size, HK1.out.block⟩⟩, fun hc => absurd (.inr h8) hc⟩
    · have h8' : ¬ (8192 : Int) ≤ (es'.length : Int) := by omega
      go_wp2_with fail
      go_quiet (fail)
      go_wp2_with fail
      refine (remember_any m name maxB h L mp (.slice none 0 0) 0 g o1 cap1 n es' (origin, id) now (w1.drewN nq) (HM1.out.same rfl) (HR1.out.same rfl) (HS1.out.same rfl) HGOOD.out HIN.out HNL.out.1 hlen' hL0 hL1 hn1 hn2).mono ?_
      rintro e w2 ⟨rfl, g2, o2, cap2, hm2, hr2, hs2, hk2, hg2⟩
      have HK2 : Hid (Kept (fun k => k = m ∨ k = mp ∨ k = g) w w2) := HK1.out.trans ((Kept.drewN _ w1 nq).trans hk2)
      have hbb2 : w2.heap[w.heap.size]? = some (bcObj origin id age (.slice pa pn pc)) := (hk2.block _ (by simp; omega) (by simp; omega)).trans HBB.out
      have hbt2 : w2.heap[w.heap.size + 1]? = some (tmObj now) := (hk2.block _ (by simp; omega) (by simp; omega)).trans HBT.out
      have HH2 : Hid (HostIs w2 h 0 0 s0 pv0 ns0) := (HK2.out.block h hhl (by simp; omega)).trans HH.out
      have HB2 : Hid (BIn w2 pa pn bs) := HBS.out.kept HK2.out (fun h0 a ha hc => HPB.out h0 a ha (by omega))
      have hsz2 : w.heap.size + 1 + 1 + 1 ≤ w2.heap.size := by have := hk2.size; simp at this; omega
      have hg2m : g2 ≠ m := hm2.not_row hr2 (by decide)
      have hg2h : g2 ≠ h := by rcases hg2 with rfl | hh; exact Ne.symm hhg; simp at hh; omega
      clear d24 d41 d43 d51 d52 d53 k0 k1 b0 b3 t0 t1 t2 hlk hno c0 c19 c51
      obtain ⟨_, _, d24, _, _, _, _, _⟩ := hm2.cells
      have b0 : w2.cell? ⟨w.heap.size, 0, none⟩ = some (.string origin) := cellOf hbb2 0 rfl
      have b1 : w2.cell? ⟨w.heap.size, 1, none⟩ = some (.int .u64 (id : Int)) := cellOf hbb2 1 rfl
      have b2 : w2.cell? ⟨w.heap.size, 2, none⟩ = some (.int .u32 age) := cellOf hbb2 2 rfl
      have b3 : w2.cell? ⟨w.heap.size, 3, none⟩ = some (.slice pa pn pc) := cellOf hbb2 3 rfl
      have t0 : w2.cell? ⟨w.heap.size + 1, 0, none⟩ = some (.int .u64 (now % 1000000000)) := cellOf hbt2 0 rfl
      have t1 : w2.cell? ⟨w.heap.size + 1, 1, none⟩ = some (.int .i64 (now / 1000000000)) := cellOf hbt2 1 rfl
      have t2 : w2.cell? ⟨w.heap.size + 1, 2, none⟩ = some (.pointer none) := cellOf hbt2 2 rfl
      have HM2 : Hid (Mach w2 m name maxB h L mp (.slice none 0 0) 0 (.slice (some ⟨g2, o2, none⟩) (es'.length + 1) cap2)) := hm2
      have HR2 : Hid (Row w2 41 5 g2 o2 (es'.length + 1) cap2 (ents (es' ++ [((origin, id), now + 2 * L)]))) := hr2
      have HS2 : Hid (MSet w2 mp (n + 1) (es'.map (·.1) ++ [(origin, id)])) := hs2
      clear hm2 hr2 hs2 hk2 hbb2 hbt2 hg2 HM HR HS HF HM1 HR1 HS1 HK1 HBB HBT HES
      have hmeth := method_deliver
      go_wp2_with fail
      go_region_held3 (fun w' => w'.cell? ⟨m, 24, none⟩ = some (.iface 42 (.pointer (some ⟨h, 0, none⟩))) ∧ w'.cell? ⟨w.heap.size, 0, none⟩ = some (.string origin) ∧ w'.cell? ⟨w.heap.size, 3, none⟩ = some (.slice pa pn pc) ∧
            w'.cell? ⟨w.heap.size + 1, 0, none⟩ = some (.int .u64 (now % 1000000000)) ∧ w'.cell? ⟨w.heap.size + 1, 1, none⟩ = some (.int .i64 (now / 1000000000)) ∧ w'.cell? ⟨w.heap.size + 1, 2, none⟩ = some (.pointer none))
        (first | go_keep | (go_split_ands; refine ⟨?_, ?_, ?_, ?_, ?_, ?_⟩ <;> (rw [hgr3.cell_far _ (by simp; omega) (by simp)]; assumption)) | (go_split_ands; refine ⟨?_, ?_, ?_, ?_, ?_, ?_⟩ <;> exact hk4.cell (by assumption) (by simp; omega)))
        (first | (go_at_call 37; refine (deliver_any h 0 0 s0 pv0 ns0 origin p3 pn c3 now w3 ((hgr3.block h (by simp; omega) (by simp)).trans HH2.out) (by omega) (by omega)).mono ?_; rintro e w4 ⟨rfl, hh4, hk4⟩)
               | (refine step_append_copy (by rfl) _ _ (by rfl) pa pn pc bs (by rfl) (by rfl) (HB2.out.kept (Kept.drew (fun _ => False) w2) (by simp)) hpn ?_; intro p3 c3 w3 hB3 hgr3 hp3))
      clear hmeth
      have hsz3 : w2.heap.size ≤ w3.heap.size := by simpa using hgr3.size
      have hsz4 := hk4.size
      have HK4 : Hid (Kept (fun k => k = m ∨ k = mp ∨ k = g ∨ k = h) w w4) := (HK2.out.mono (by omega)).trans ((Kept.drew _ w2).trans ((Kept.of_grown hgr3 (by simp)).trans (hk4.mono (by omega))))
      have HK24 : Hid (Kept (fun k => k = h) w2 w4) := (Kept.drew _ w2).trans ((Kept.of_grown hgr3 (by simp)).trans hk4)
      have HM4 : Hid (Mach w4 m name maxB h L mp (.slice none 0 0) 0 (.slice (some ⟨g2, o2, none⟩) (es'.length + 1) cap2)) := HK24.out.mach HM2.out (Ne.symm hhm)
      have HR4 : Hid (Row w4 41 5 g2 o2 (es'.length + 1) cap2 (ents (es' ++ [((origin, id), now + 2 * L)]))) := HK24.out.row HR2.out hg2h
      have HS4 : Hid (MSet w4 mp (n + 1) (es'.map (·.1) ++ [(origin, id)])) := HK24.out.mset HS2.out (Ne.symm hhp)
      have HH4 : Hid (HostIs w4 h (0 + 1) 0 origin (.slice p3 pn c3) now) := hh4
      have HB4 : Hid (BIn w4 p3 pn bs) := hB3.kept hk4 (fun h0 a ha hc => by have := hp3 h0 a ha; simp at this hc; omega)
      have HP3 : Hid (0 < pn → ∀ a, p3 = some a → w2.heap.size ≤ a.block) := fun h0 a ha => by simpa using hp3 h0 a ha
      have b0' := HK24.out.cell b0 (by simp; omega)
      have b1' := HK24.out.cell b1 (by simp; omega)
      have b2' := HK24.out.cell b2 (by simp; omega)
      have b3' := HK24.out.cell b3 (by simp; omega)
      have t0' := HK24.out.cell t0 (by simp; omega)
      have t1' := HK24.out.cell t1 (by simp; omega)
      have t2' := HK24.out.cell t2 (by simp; omega)
      clear b0 b1 b2 b3 t0 t1 t2 d24 hh4 hk4 hB3 hgr3 hp3 HM2 HR2 HS2 HB2 HH2
      have hwr : IntKind.i64.wrap (-(age * 1000000)) = -(age * 1000000) := IntWalk.i64_in _ (by omega)
      have htv : tv (now + -(age * 1000000)) = .agg #[.int .u64 ((now + -(age * 1000000)) % 1000000000), .int .i64 ((now + -(age * 1000000)) / 1000000000), .pointer none] := rfl
      go_wp2_with fail
      go_region_held3 (fun w' => w'.cell? ⟨w.heap.size, 0, none⟩ = some (.string origin) ∧ w'.cell? ⟨w.heap.size, 1, none⟩ = some (.int .u64 (id : Int)) ∧ w'.cell? ⟨w.heap.size, 2, none⟩ = some (.int .u32 age) ∧ w'.cell? ⟨w.heap.size, 3, none⟩ = some (.slice pa pn pc) ∧
            w'.cell? ⟨w.heap.size + 1, 0, none⟩ = some (.int .u64 (now % 1000000000)) ∧ w'.cell? ⟨w.heap.size + 1, 1, none⟩ = some (.int .i64 (now / 1000000000)) ∧ w'.cell? ⟨w.heap.size + 1, 2, none⟩ = some (.pointer none))
        (first | go_keep | (go_split_ands; refine ⟨?_, ?_, ?_, ?_, ?_, ?_, ?_⟩ <;> (rw [hbel.cell (by simp; omega)]; assumption)) | (go_split_ands; refine ⟨?_, ?_, ?_, ?_, ?_, ?_, ?_⟩ <;> exact hk6.cell (by assumption) (by simp; omega)))
        (first | (go_at_call 4; refine (add_any now (-(age * 1000000)) _ (by omega) (by omega) (by omega) (by omega)).mono ?_; rintro e w5 ⟨rfl, hbel⟩)
               | (go_at_call 14; refine (add_broadcast m name maxB h L mp (.slice (some ⟨g2, o2, none⟩) (es'.length + 1) cap2) origin id age pa pn pc (now + -(age * 1000000)) w5 (HM4.out.same (hbel.block m (by simp; omega)))).mono ?_; rintro e w6 ⟨rfl, g1, cap1', nb, bb, hm6, hn6, hk6, q1, q2, q3⟩))
      have HK46 : Hid (Kept (fun k => k = m) w4 w6) := (Kept.drew _ w4).trans ((Kept.of_below hbel).trans hk6)
      have HM6 : Hid (Mach w6 m name maxB h L mp (.slice (some ⟨g1, 0, none⟩) 1 cap1') 1 (.slice (some ⟨g2, o2, none⟩) (es'.length + 1) cap2)) := hm6
      have HN6 : Hid (News w6 g1 cap1' nb bb origin id age (.slice pa pn pc) (now + -(age * 1000000))) := hn6
      clear hm6 hn6
      go_wp2
      go_end0
      refine ⟨rfl, fun hc => ?_, fun _ => ⟨g2, o2, cap2, g1, cap1', nb, bb, p3, c3, HM6.out, HK46.out.row HR4.out hg2m, HK46.out.mset HS4.out (Ne.symm hmp), ?_, ?_, HN6.out, HK4.out.trans (HK46.out.mono (fun k hk => .inl hk))⟩⟩
      · rcases hc with hc | hc
        · exact absurd hc HIN.out
        · exact absurd hc h8
      · exact (HK46.out.block h (by omega) hhm).trans HH4.out
      · refine HB4.out.kept HK46.out (fun h0 a ha hc => ?_)
        have := HP3.out h0 a ha
        omega
end Go.Proofs.Ybulkctoc.HT
