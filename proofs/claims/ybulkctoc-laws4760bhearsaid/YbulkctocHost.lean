/- THE CONTRACTS OF 'Deliver' (37) AND 'addBroadcast' (14). -/
import Derived.Test.YbulkctocForget
import Derived.Deep.RegionLaw
import Derived.Deep.DrawnRows
namespace Go.Proofs.Ybulkctoc.HT
open Go.ChangeShapes Go.WideShapes Go.ChangeAt Go.RowKit
set_option linter.unusedVariables false
attribute [local go_sem ↓] Go.wp_at_zero Go.wp_at_succ

theorem setCell_block {w : World} {b : Nat} {cs : Array Value} {t : TypeId} {fr : Nat × Nat} (h : w.heap[b]? = some (.cells cs t fr)) (o : Nat) (v : Value) : (w.setCell ⟨b, o, none⟩ v).heap[b]? = some (.cells (cs.setIfInBounds o v) t fr) := by
  simp [World.setCell, Array.getElem?_modify, h]
theorem cellOf {w : World} {b : Nat} {cs : Array Value} {t : TypeId} {fr : Nat × Nat} (h : w.heap[b]? = some (.cells cs t fr)) (j : Nat) {v : Value} (hv : cs[j]? = some v) : w.cell? ⟨b, j, none⟩ = some v := by simp [World.cell?, h, hv]
theorem frozenOf {w : World} {b : Nat} {cs : Array Value} {t : TypeId} (h : w.heap[b]? = some (.cells cs t (0, 0))) (j : Nat) : w.frozen? ⟨b, j, none⟩ = false := by simp [World.frozen?, h]

theorem kset (w : World) (h o : Nat) (v : Value) : Kept (fun k => k = h) w (w.setCell ⟨h, o, none⟩ v) := Kept.setCell _ _ _ rfl
def HostIs (w : World) (h : Nat) (c o : Int) (s : ByteArray) (pv : Value) (ns : Int) : Prop :=
  w.heap[h]? = some (.cells #[.int .i64 c, .int .i64 o, .string s, pv, .int .u64 (ns % 1000000000), .int .i64 (ns / 1000000000), .pointer none] 44 (0, 0))

set_option maxRecDepth 400000 in
set_option maxHeartbeats 400000 in
theorem deliver_any (h : Nat) (c o : Int) (s : ByteArray) (pv : Value) (ns : Int) (origin : ByteArray) (pa : Option Addr) (pn pc : Nat) (now : Int) (w : World) (hh : HostIs w h c o s pv ns) (hc0 : 0 ≤ c) (hc1 : c ≤ 1000) :
    Calls Yba.prog 37 #[.pointer (some ⟨h, 0, none⟩), .string origin, .slice pa pn pc, tv now] w fun e w' => e = .returned (.tuple #[]) ∧ HostIs w' h (c + 1) o origin (.slice pa pn pc) now ∧ Kept (fun k => k = h) w w' := by
  have hl : h < w.heap.size := (Array.getElem?_eq_some_iff.1 hh).1
  have c0 := cellOf hh 0 rfl
  have c2 := cellOf hh 2 rfl
  have c3 := cellOf hh 3 rfl
  have c4 := cellOf hh 4 rfl
  have c5 := cellOf hh 5 rfl
  have c6 := cellOf hh 6 rfl
  have f0 := frozenOf hh 0
  have f2 := frozenOf hh 2
  have f3 := frozenOf hh 3
  have f4 := frozenOf hh 4
  have f5 := frozenOf hh 5
  have f6 := frozenOf hh 6
  have HH : Hid (HostIs w h c o s pv ns) := hh
  clear hh
  unfold tv
  go_enter Yba.func37, Yba.ntmps37
  go_wp2
  go_end0
  refine ⟨rfl, ?_, ?_⟩
  · have e := setCell_block (setCell_block (setCell_block (setCell_block (setCell_block (setCell_block HH.out 0 (.int .i64 (c + 1))) 2 (.string origin)) 3 (.slice pa pn pc)) 4 (.int .u64 (now % 1000000000))) 5 (.int .i64 (now / 1000000000))) 6 (.pointer none)
    simp only [List.setIfInBounds_toArray, List.set_cons_succ, List.set_cons_zero] at e
    exact (Below.heap_alloc _ _ _ (by simpa [World.setCell] using hl)).trans e
  · exact (kset _ _ _ _).trans ((kset _ _ _ _).trans ((kset _ _ _ _).trans ((kset _ _ _ _).trans ((kset _ _ _ _).trans ((kset _ _ _ _).trans (Kept.alloc _ _ _))))))

theorem mach_alloc {w : World} {m : Nat} {name : ByteArray} {maxB : Int} {h : Nat} {L : Int} {mp : Nat} {wt : Value} {added : Int} {fv : Value} (hm : Mach w m name maxB h L mp wt added fv) (ob : Obj) : Mach (w.alloc ob) m name maxB h L mp wt added fv := hm.same (Below.heap_alloc _ _ _ hm.lt)
theorem heap_alloc_drew (W : World) (o : Obj) (n : Nat) (hn : W.heap.size = n) : (W.alloc o).drew.heap[n]? = some o := by
  subst hn
  exact heap_alloc_new W o
theorem size_setCell (w : World) (a : Addr) (v : Value) : (w.setCell a v).heap.size = w.heap.size := by simp [World.setCell]
def bcObj (origin : ByteArray) (id age : Int) (pv : Value) : Obj := .cells #[.string origin, .int .u64 id, .int .u32 age, pv] 76
def tmObj (ns : Int) : Obj := .cells #[.int .u64 (ns % 1000000000), .int .i64 (ns / 1000000000), .pointer none] 29
def nwObj (bb : Nat) (ns : Int) : Obj := .cells #[.string ⟨#[]⟩, .int .u64 0, .int .u64 0, .pointer none, .int .u16 0, .int .u64 0, .int .u8 0, .string ⟨#[]⟩, .int .u8 0, .string ⟨#[]⟩, .int .u64 0, .pointer (some ⟨bb, 0, none⟩), .int .u64 (ns % 1000000000), .int .i64 (ns / 1000000000), .pointer none, .int .i64 0, .int .u64 1, .bool false, .bool true] 98
/-- The one piece of news that waits: the broadcast (origin, id, age, pv), sent at ns. -/
def News (w : World) (g cap nb bb : Nat) (origin : ByteArray) (id age : Int) (pv : Value) (ns : Int) : Prop :=
  Row w 80 1 g 0 1 cap [.pointer (some ⟨nb, 0, none⟩)] ∧ w.heap[nb]? = some (nwObj bb ns) ∧ w.heap[bb]? = some (bcObj origin id age pv)
theorem add_leaf {m : Nat} {name : ByteArray} {maxB : Int} {h : Nat} {L : Int} {mp : Nat} {fv : Value} {origin : ByteArray} {id age : Int} {pv : Value} {sent : Int} {w w3 : World} {g cap : Nat} (ob : Obj) (hl : m < w.heap.size)
    (HM3 : Mach w3 m name maxB h L mp (.slice none 0 0) 1 fv)
    (hown : w3.ownsRow w.heap.size 80 1 (.slice (some ⟨g, 0, none⟩) 1 cap) 1 [.pointer (some ⟨w.heap.size + 1 + 1, 0, none⟩)])
    (hgr : (((((w.setCell ⟨m, 43, none⟩ (.int .u64 1)).alloc (bcObj origin id age pv)).alloc (tmObj sent)).alloc (nwObj w.heap.size sent)).alloc ob).drew.grownBy w3 none) :
    ∃ g1 cap1 nb bb, Mach (w3.setCell ⟨m, 41, none⟩ (.slice (some ⟨g, 0, none⟩) 1 cap)) m name maxB h L mp (.slice (some ⟨g1, 0, none⟩) 1 cap1) 1 fv ∧ News (w3.setCell ⟨m, 41, none⟩ (.slice (some ⟨g, 0, none⟩) 1 cap)) g1 cap1 nb bb origin id age pv sent ∧
      Kept (fun k => k = m) w (w3.setCell ⟨m, 41, none⟩ (.slice (some ⟨g, 0, none⟩) 1 cap)) ∧ w.heap.size ≤ g1 ∧ w.heap.size ≤ nb ∧ w.heap.size ≤ bb := by
  have hb := (hown.lt g rfl).1
  refine ⟨g, cap, w.heap.size + 1 + 1, w.heap.size, HM3.setWaiting _, ⟨(Row.of_owns hown).setFar _ _ (by show g ≠ m; omega), ?_, ?_⟩, ?_, hb, by omega, Nat.le_refl _⟩
  · refine (Below.heap_setCell _ _ _ _ (by show w.heap.size + 1 + 1 ≠ m; omega)).trans ((hgr.block _ (by simp) (by simp)).trans ((Below.heap_alloc _ _ _ (by simp)).trans ?_))
    have e := heap_alloc_new ((((w.setCell ⟨m, 43, none⟩ (.int .u64 1)).alloc (bcObj origin id age pv)).alloc (tmObj sent))) (nwObj w.heap.size sent)
    simpa using e
  · refine (Below.heap_setCell _ _ _ _ (by show w.heap.size ≠ m; omega)).trans ((hgr.block _ (by simp; omega) (by simp)).trans ((Below.heap_alloc _ _ _ (by simp; omega)).trans ((Below.heap_alloc _ _ _ (by simp; omega)).trans ((Below.heap_alloc _ _ _ (by simp)).trans ?_))))
    have e := heap_alloc_new (w.setCell ⟨m, 43, none⟩ (.int .u64 1)) (bcObj origin id age pv)
    simpa using e
  · exact (kset _ _ _ _).trans ((Kept.alloc _ _ _).trans ((Kept.alloc _ _ _).trans ((Kept.alloc _ _ _).trans ((Kept.alloc _ _ _).trans ((Kept.drew _ _).trans ((Kept.of_grown hgr (by simp)).trans (kset _ _ _ _)))))))

set_option maxRecDepth 400000 in
set_option maxHeartbeats 2000000 in
theorem add_broadcast (m : Nat) (name : ByteArray) (maxB : Int) (h : Nat) (L : Int) (mp : Nat) (fv : Value) (origin : ByteArray) (id age : Int) (pa : Option Addr) (pn pc : Nat) (sent : Int) (w : World)
    (hm : Mach w m name maxB h L mp (.slice none 0 0) 0 fv) :
    Calls Yba.prog 14 #[.pointer (some ⟨m, 41, none⟩), .agg #[.string origin, .int .u64 id, .int .u32 age, .slice pa pn pc], tv sent] w fun e w' => e = .returned (.tuple #[]) ∧
      ∃ g1 cap1 nb bb, Mach w' m name maxB h L mp (.slice (some ⟨g1, 0, none⟩) 1 cap1) 1 fv ∧ News w' g1 cap1 nb bb origin id age (.slice pa pn pc) sent ∧ Kept (fun k => k = m) w w' ∧ w.heap.size ≤ g1 ∧ w.heap.size ≤ nb ∧ w.heap.size ≤ bb := by
  obtain ⟨_, _, _, c41, c43, _, _, _⟩ := hm.cells
  have f41 := hm.frozen 41
  have f43 := hm.frozen 43
  have hl := hm.lt
  have hl1 : m < w.heap.size + 1 := by omega
  have hl2 : m < w.heap.size + 1 + 1 := by omega
  have hl3 : m < w.heap.size + 1 + 1 + 1 := by omega
  obtain ⟨i0, hi0, hz0, hz1, hz2⟩ := info_parts info80
  have HM : Hid (Mach w m name maxB h L mp (.slice none 0 0) 0 fv) := hm
  clear hm
  unfold tv
  go_enter Yba.func14, Yba.ntmps14
  go_wp2_with fail
  go_region_law
    ((refine step_append_lies _ (by rfl) _ _ 67 (by rfl) w.heap.size 80 i0 _ 1 8 Yba.underlying67 hi0 hz0 hz1 hz2 rfl (by decide) (.slice none 0 0) 0 [] (by rfl) (World.ownsRow_nil _ _ _ _) ⟨w.heap.size + 1 + 1 + 1, 0, none⟩ 1 1 [.pointer (some ⟨w.heap.size + 1 + 1, 0, none⟩)] (by rfl) rfl
        (World.news_of_block (cs := #[.pointer (some ⟨w.heap.size + 1 + 1, 0, none⟩)]) (t := 80) (fr := (0, 0)) (heap_alloc_drew _ _ _ (by simp))) (by simp [Value.oneCell']) (by decide) (by decide) (by decide) (by simp; omega) (w.heap.size + 4) (by simp) ?_; intro g cap w3 hown hgr hat hlt;
        have HM3 : Hid (Mach w3 m name maxB h L mp (.slice none 0 0) 1 fv) := (mach_alloc (mach_alloc (mach_alloc (mach_alloc (HM.out.setAdded 1) _) _) _) _).same (hgr.block m (by simp; omega) (by simp [Value.ownBlock])); have c41c := HM3.out.cells.2.2.2.1; have f41c := HM3.out.frozen 41))
  all_goals
    go_wp2
    go_end0
    exact ⟨rfl, add_leaf _ hl HM3.out hown hgr⟩
end Go.Proofs.Ybulkctoc.HT
