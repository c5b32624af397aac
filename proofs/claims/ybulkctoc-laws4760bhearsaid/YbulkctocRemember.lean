/- THE CONTRACT OF 'remember' (13). -/
import Derived.Test.YbulkctocForget
import Derived.Deep.RegionLaw
import Derived.Deep.DrawnRows
namespace Go.Proofs.Ybulkctoc.HT
open Go.ChangeShapes Go.WideShapes Go.ChangeAt Go.RowKit
set_option linter.unusedVariables false
attribute [local go_sem ↓] Go.wp_at_zero Go.wp_at_succ

theorem Row.alloc {w : World} {e : TypeId} {size g o n cap : Nat} {xs : List Value} (h : Row w e size g o n cap xs) (ob : Obj) : Row (w.alloc ob) e size g o n cap xs := h.same (Below.heap_alloc _ _ _ h.lt)
theorem MSet.alloc {w : World} {b n : Nat} {ks : List Key} (h : MSet w b n ks) (ob : Obj) : MSet (w.alloc ob) b n ks := h.same (Below.heap_alloc _ _ _ h.lt)
theorem Mach.alloc {w : World} {m : Nat} {name : ByteArray} {maxB : Int} {h : Nat} {L : Int} {mp : Nat} {wt : Value} {added : Int} {fv : Value} (hm : Mach w m name maxB h L mp wt added fv) (ob : Obj) : Mach (w.alloc ob) m name maxB h L mp wt added fv := hm.same (Below.heap_alloc _ _ _ hm.lt)
theorem cell_block {w : World} {b : Nat} {cs : Array Value} {t : TypeId} {fr : Nat × Nat} (h : w.heap[b]? = some (.cells cs t fr)) (j : Nat) {v : Value} (hv : cs[j]? = some v) : w.cell? ⟨b, j, none⟩ = some v := by simp [World.cell?, h, hv]

theorem remember_leaf {m : Nat} {name : ByteArray} {maxB : Int} {h : Nat} {L : Int} {mp : Nat} {wt : Value} {added : Int} {g o cap n : Nat} {es : List Ent} {k : Key} {at1 : Int} {w w1 w2 w3 : World} {ob : Obj} {g' o2 cap' : Nat}
    (hml : m < w.heap.size) (hpl : mp < w.heap.size) (hgm : g ≠ m) (hgp : g ≠ mp) (hmp : m ≠ mp) (hsz1 : w.heap.size + 2 ≤ w1.heap.size) (HMS : MSet w1 mp (n + 1) (es.map (·.1) ++ [k])) (HK1 : Kept (fun k => k = m ∨ k = mp ∨ k = g) w w1)
    (hbel : Below w1.drew.heap.size w1.drew w2) (hrow3 : Row w3 41 5 g' o2 (es.length + 1) cap' (ents es ++ ent (k, at1))) (hgr3 : (w2.alloc ob).grownBy w3 (some g)) (hat : g' = g ∨ g' = (w2.alloc ob).heap.size)
    (HM3 : Mach w3 m name maxB h L mp wt added (.slice (some ⟨g, o, none⟩) es.length cap)) :
    ∃ g1 o1 cap1, Mach (w3.setCell ⟨m, 53, none⟩ (.slice (some ⟨g', o2, none⟩) (es.length + 1) cap')) m name maxB h L mp wt added (.slice (some ⟨g1, o1, none⟩) (es.length + 1) cap1) ∧
      Row (w3.setCell ⟨m, 53, none⟩ (.slice (some ⟨g', o2, none⟩) (es.length + 1) cap')) 41 5 g1 o1 (es.length + 1) cap1 (ents (es ++ [(k, at1)])) ∧ MSet (w3.setCell ⟨m, 53, none⟩ (.slice (some ⟨g', o2, none⟩) (es.length + 1) cap')) mp (n + 1) (es.map (·.1) ++ [k]) ∧
      Kept (fun k => k = m ∨ k = mp ∨ k = g) w (w3.setCell ⟨m, 53, none⟩ (.slice (some ⟨g', o2, none⟩) (es.length + 1) cap')) ∧ (g1 = g ∨ w.heap.size ≤ g1) := by
  have hsz2 := hbel.size
  simp only [World.size_drew] at hsz2
  have ha : (w2.alloc ob).heap.size = w2.heap.size + 1 := by simp
  have hge : g' = g ∨ w.heap.size ≤ g' := by omega
  refine ⟨g', o2, cap', HM3.setForget _, ?_, ?_, ?_, hge⟩
  · rw [ents_snoc]
    exact hrow3.setFar _ _ (by show g' ≠ m; omega)
  · exact (((HMS.same (hbel.block mp (by simp; omega))).alloc _).same (hgr3.block mp (by omega) (by simp; omega))).setFar _ _ (Ne.symm hmp)
  · exact HK1.trans ((Kept.drew _ _).trans ((Kept.of_below hbel).trans ((Kept.alloc _ _ _).trans ((Kept.of_grown hgr3 (by rintro k hk; cases hk; simp)).trans (Kept.setCell _ _ _ (by simp))))))

set_option maxRecDepth 400000 in
set_option maxHeartbeats 4000000 in
theorem remember_any (m : Nat) (name : ByteArray) (maxB : Int) (h : Nat) (L : Int) (mp : Nat) (wt : Value) (added : Int) (g o cap n : Nat) (es : List Ent) (k : Key) (now : Int) (w : World)
    (hm : Mach w m name maxB h L mp wt added (.slice (some ⟨g, o, none⟩) es.length cap)) (hr : Row w 41 5 g o es.length cap (ents es)) (hs : MSet w mp n (es.map (·.1)))
    (hk : Good k) (hnot : k ∉ es.map (·.1)) (hn : n < maxLen) (hlen : es.length ≤ 1000000) (hL0 : 0 ≤ L) (hL1 : L ≤ 1000000000000) (hn1 : -3000000000000000000 ≤ now) (hn2 : now ≤ 3000000000000000000) :
    Calls Yba.prog 13 #[.pointer (some ⟨m, 0, none⟩), kv k, tv now] w fun e w' => e = .returned (.tuple #[]) ∧ ∃ g' o' cap', Mach w' m name maxB h L mp wt added (.slice (some ⟨g', o', none⟩) (es.length + 1) cap') ∧
      Row w' 41 5 g' o' (es.length + 1) cap' (ents (es ++ [(k, now + 2 * L)])) ∧ MSet w' mp (n + 1) (es.map (·.1) ++ [k]) ∧ Kept (fun k => k = m ∨ k = mp ∨ k = g) w w' ∧ (g' = g ∨ w.heap.size ≤ g') := by
  obtain ⟨i0, hi0, hz0, hz1, hz2⟩ := info_parts info41
  have hml := hm.lt
  have hgl := hr.lt
  have hpl := hs.lt
  have hgm : g ≠ m := hm.not_row hr (by decide)
  have hgp : g ≠ mp := hr.not_mset hs
  have hmp : m ≠ mp := hm.not_mset hs
  obtain ⟨c0, c19, c24, c41, c43, c51, c52, c53⟩ := hm.cells
  have HM : Hid (Mach w m name maxB h L mp wt added (.slice (some ⟨g, o, none⟩) es.length cap)) := hm
  have HR : Hid (Row w 41 5 g o es.length cap (ents es)) := hr
  have HS : Hid (MSet w mp n (es.map (·.1))) := hs
  have HK : Hid (Good k) := hk
  have HN : Hid (k ∉ es.map (·.1)) := hnot
  have HNL : Hid (n < maxLen) := hn
  have HE : Hid (es.length ≤ 1000000) := hlen
  clear hm hr hs hk hnot hn hlen c0 c19 c24 c41 c43
  unfold tv kv
  obtain ⟨w1, hrun, hms, hgr⟩ := ((((HS.out.alloc (.cells #[.string k.1, .int .u64 (k.2 : Int)] 38)).alloc (.cells #[.int .u64 (now % 1000000000), .int .i64 (now / 1000000000), .pointer none] 29)).same (w' := ((w.alloc (.cells #[.string k.1, .int .u64 (k.2 : Int)] 38)).alloc (.cells #[.int .u64 (now % 1000000000), .int .i64 (now / 1000000000), .pointer none] 29)).drew) rfl)).store k HK.out HN.out HNL.out
  unfold kv at hrun
  have HMS : Hid (MSet w1 mp (n + 1) (es.map (·.1) ++ [k])) := hms
  have HGR : Hid (((w.alloc (.cells #[.string k.1, .int .u64 (k.2 : Int)] 38)).alloc (.cells #[.int .u64 (now % 1000000000), .int .i64 (now / 1000000000), .pointer none] 29)).drew.grownBy w1 (some mp)) := hgr
  clear hms hgr
  go_enter Yba.func13, Yba.ntmps13
  go_wp2_with fail
  go_region_held3 (fun w' => w'.cell? ⟨m, 52, none⟩ = some (.map (some mp)) ∧ w'.cell? ⟨w.heap.size, 0, none⟩ = some (.string k.1) ∧ w'.cell? ⟨w.heap.size, 1, none⟩ = some (.int .u64 (k.2 : Int)))
    (first | go_keep | (go_split_ands; refine ⟨?_, ?_, ?_⟩ <;> (rw [HGR.out.cell_far _ (by simp; omega) (by simp; omega)]; assumption)))
    (fail)
  have hm1 : Mach w1 m name maxB h L mp wt added (.slice (some ⟨g, o, none⟩) es.length cap) := ((HM.out.alloc _).alloc _).same (HGR.out.block m (by simp; omega) (by simp; omega))
  have hr1 : Row w1 41 5 g o es.length cap (ents es) := ((HR.out.alloc _).alloc _).same (HGR.out.block g (by simp; omega) (by simp; omega))
  have hb0 : w1.heap[w.heap.size]? = some (.cells #[.string k.1, .int .u64 (k.2 : Int)] 38 (0, 0)) := (HGR.out.block _ (by simp; omega) (by simp; omega)).trans ((Below.heap_alloc _ _ _ (by simp)).trans (heap_alloc_new w _))
  have hb1 : w1.heap[w.heap.size + 1]? = some (.cells #[.int .u64 (now % 1000000000), .int .i64 (now / 1000000000), .pointer none] 29 (0, 0)) := (HGR.out.block _ (by simp) (by simp; omega)).trans (heap_alloc2_new w _ _)
  have HK1 : Hid (Kept (fun k => k = m ∨ k = mp ∨ k = g) w w1) := (Kept.alloc _ _ _).trans ((Kept.alloc _ _ _).trans ((Kept.drew _ _).trans (Kept.of_grown HGR.out (by rintro k hk; cases hk; simp))))
  have hsz1 : w.heap.size + 2 ≤ w1.heap.size := by simpa using HGR.out.size
  have HM1 : Hid (Mach w1 m name maxB h L mp wt added (.slice (some ⟨g, o, none⟩) es.length cap)) := hm1
  have HR1 : Hid (Row w1 41 5 g o es.length cap (ents es)) := hr1
  clear HM HR HS c51 c52 c53 hrun
  obtain ⟨_, _, _, _, _, c51, c52, c53⟩ := hm1.cells
  have k0 := cell_block hb0 0 rfl
  have k1 := cell_block hb0 1 rfl
  have t0 := cell_block hb1 0 rfl
  have t1 := cell_block hb1 1 rfl
  have t2 := cell_block hb1 2 rfl
  have hfr := hm1.frozen 53
  clear hm1 hr1 hb0 hb1
  have hwr : IntKind.i64.wrap (2 * L) = 2 * L := IntWalk.i64_in _ (by omega)
  have htv : tv (now + 2 * L) = .agg #[.int .u64 ((now + 2 * L) % 1000000000), .int .i64 ((now + 2 * L) / 1000000000), .pointer none] := rfl
  go_wp2_with fail
  go_region_law
    (first | (go_simp; go_at_call 4; refine (add_any now (2 * L) _ (by omega) (by omega) (by omega) (by omega)).mono ?_; rintro e w2 ⟨rfl, hbel⟩; have hsz2 := hbel.size; simp only [World.size_drew] at hsz2; have k0b : w2.cell? ⟨w.heap.size, 0, none⟩ = some (.string k.1) := (hbel.cell (by simp; omega)).trans k0; have k1b : w2.cell? ⟨w.heap.size, 1, none⟩ = some (.int .u64 (k.2 : Int)) := (hbel.cell (by simp; omega)).trans k1; have c53b : w2.cell? ⟨m, 53, none⟩ = some (.slice (some ⟨g, o, none⟩) es.length cap) := (hbel.cell (by simp; omega)).trans c53; have c53d : ∀ ob, (w2.alloc ob).cell? ⟨m, 53, none⟩ = some (.slice (some ⟨g, o, none⟩) es.length cap) := fun ob => (World.cell?_of_block (Below.heap_alloc w2 ob m (by omega))).trans c53b)
           | (refine step_append_row _ (by rfl) _ _ 32 (by rfl) 41 i0 _ 5 48 Yba.underlying32 hi0 hz0 hz1 hz2 rfl g o es.length cap (ents es) (by rfl) ((HR1.out.same (hbel.block g (by simp; omega))).alloc _) ⟨w2.heap.size, 0, none⟩ (ent (k, now + 2 * L)) (by rfl) rfl
                (World.news_of_block (cs := #[.string k.1, .int .u64 (k.2 : Int), .int .u64 ((now + 2 * L) % 1000000000), .int .i64 ((now + 2 * L) / 1000000000), .pointer none]) (t := 41) (fr := (0, 0)) (heap_alloc_new w2 _)) (by simp [ent, Value.oneCell']) (by have := HE.out; unfold maxLen; omega) (by have := HE.out; omega) ?_; intro g' o2 cap' w3 hrow3 hgr3 hat; have HM3 : Hid (Mach w3 m name maxB h L mp wt added (.slice (some ⟨g, o, none⟩) es.length cap)) := ((HM1.out.same (hbel.block m (by simp; omega))).alloc _).same (hgr3.block m (by simp; omega) (by simp; omega)); have hf3 := HM3.out.frozen 53; have c53c := HM3.out.cells.2.2.2.2.2.2.2))
  all_goals
    go_wp2
    go_end0
    exact ⟨rfl, remember_leaf hml hpl hgm hgp hmp hsz1 HMS.out HK1.out hbel hrow3 hgr3 hat HM3.out⟩
end Go.Proofs.Ybulkctoc.HT
