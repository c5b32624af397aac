import Derived.Test.YbulkctocRel
import Derived.Test.YbulkctocTailC
import Derived.Deep.CutRange
import Derived.Deep.CutBlock
namespace Go.Proofs.Ybulkctoc.HT
open Go.ChangeShapes Go.WideShapes Go.ChangeAt Go.RowKit
set_option linter.unusedVariables false
attribute [local go_sem ↓] Go.wp_at_zero Go.wp_at_succ

theorem lr0 (w : World) : LR w [] (w.heap.size + 1 + 1) 0 0 (w.heap.size + 1 + 1 + 1) 0 0 (w.heap.size + 1 + 1 + 1 + 1) 0 0
    (((((w.alloc (.cells #[.int .u64 0, .int .i64 0, .pointer none] 29)).alloc (.map #[] 0)).alloc (.cells #[] 41)).alloc (.cells #[] 38)).alloc (.cells #[] 2)) := by
  refine ⟨?_, ?_, ?_, ?_, by omega, by omega, by omega, ⟨by simp, by simp⟩, ?_, ?_⟩
  · exact Row.made #[] ((Below.heap_alloc _ _ _ (by simp)).trans ((Below.heap_alloc _ _ _ (by simp)).trans (heap_alloc_at _ _ _ (by simp)))) rfl
  · exact Row.made #[] ((Below.heap_alloc _ _ _ (by simp)).trans (heap_alloc_at _ _ _ (by simp))) rfl
  · exact Row.made #[] (heap_alloc_at _ _ _ (by simp)) rfl
  · have := MSet.made (w.alloc (.cells #[.int .u64 0, .int .i64 0, .pointer none] 29))
    rw [World.size_alloc] at this
    exact ((this.alloc _).alloc _).alloc _
  · exact (Below.heap_alloc _ _ _ (by simp; omega)).trans ((Below.heap_alloc _ _ _ (by simp; omega)).trans ((Below.heap_alloc _ _ _ (by simp; omega)).trans ((Below.heap_alloc _ _ _ (by simp)).trans (heap_alloc_new _ _))))
  · exact (((((Below.refl _ w).alloc (Nat.le_refl _) _).alloc (by simp) _).alloc (by simp; omega) _).alloc (by simp; omega) _).alloc (by simp; omega) _

theorem add_zero_any (d : Int) (w : World) (h3 : -4000000000000000000 ≤ d) (h4 : d ≤ 4000000000000000000) :
    Calls Yba.prog 4 #[.agg #[.int .u64 0, .int .i64 0, .pointer none], .int .i64 d] w fun e w' => e = .returned (.agg #[.int .u64 (d % 1000000000), .int .i64 (d / 1000000000), .pointer none]) ∧ Below w.heap.size w w' := by
  have h := add_any 0 d w (by omega) (by omega) h3 h4
  rw [Int.zero_add] at h
  exact h
theorem ent_zz (z : ByteArray) (j : Nat) : ent ((z, j), 1099511627776 * 1000000) = [.string z, .int .u64 (j : Int), .int .u64 776000000, .int .i64 1099511627, .pointer none] := by
  simp [ent]
theorem zero74 (w : World) : (zeroValue 74).run Yba.prog w = .ok (.agg #[.string ⟨#[]⟩, .string ⟨#[]⟩, .slice none 0 0, .string ⟨#[]⟩, .string ⟨#[]⟩, .slice none 0 0, .int .i64 0, .int .i64 0, .int .i64 0, .int .i64 0, .int .i64 0, .int .i64 0, .int .i64 0, .int .i64 0, .int .i64 0, .int .i64 0, .int .i64 0, .int .i64 0, .int .i64 0, .int .i64 0, .int .i64 0, .int .i64 0, .pointer none, .pointer none, .nilIface, .map none, .slice none 0 0, .map none, .slice none 0 0, .int .i64 0, .map none, .map none, .map none, .map none, .map none, .slice none 0 0, .map none, .map none, .map none, .slice none 0 0, .int .i64 0, .slice none 0 0, .map none, .int .u64 0, .int .i64 0, .int .u64 0, .int .i64 0, .pointer none, .int .u64 0, .int .i64 0, .pointer none, .int .i64 0, .map none, .slice none 0 0, .int .u32 0, .int .u64 0, .int .i64 0, .pointer none, .int .u64 0, .int .i64 0, .pointer none, .pointer none, .pointer none, .slice none 0 0, .map none]) w := by kernel_rfl
def machObj (name : ByteArray) (maxB : Int) (h : Nat) (L : Int) (mp : Nat) (fv : Value) : Obj := .cells #[.string name, .string ⟨#[]⟩, .slice none 0 0, .string ⟨#[]⟩, .string ⟨#[]⟩, .slice none 0 0, .int .i64 0, .int .i64 0, .int .i64 0, .int .i64 0, .int .i64 0, .int .i64 0, .int .i64 0, .int .i64 0, .int .i64 0, .int .i64 0, .int .i64 0, .int .i64 0, .int .i64 0, .int .i64 maxB, .int .i64 0, .int .i64 0, .pointer none, .pointer none, .iface 42 (.pointer (some ⟨h, 0, none⟩)), .map none, .slice none 0 0, .map none, .slice none 0 0, .int .i64 0, .map none, .map none, .map none, .map none, .map none, .slice none 0 0, .map none, .map none, .map none, .slice none 0 0, .int .i64 0, .slice none 0 0, .map none, .int .u64 0, .int .i64 0, .int .u64 0, .int .i64 0, .pointer none, .int .u64 0, .int .i64 0, .pointer none, .int .i64 L, .map (some mp), fv, .int .u32 0, .int .u64 0, .int .i64 0, .pointer none, .int .u64 0, .int .i64 0, .pointer none, .pointer none, .pointer none, .slice none 0 0, .map none] 74
theorem mach_made {w : World} {m : Nat} {name : ByteArray} {maxB : Int} {h : Nat} {L : Int} {mp : Nat} {fv : Value} (hh : w.heap[m]? = some (machObj name maxB h L mp fv)) : Mach w m name maxB h L mp (.slice none 0 0) 0 fv :=
  ⟨_, hh, rfl, rfl, rfl, rfl, rfl, rfl, rfl, rfl⟩
def hostObj : Obj := .cells #[.int .i64 0, .int .i64 0, .string ⟨#[]⟩, .slice none 0 0, .int .u64 0, .int .i64 0, .pointer none] 44
theorem host_made {w : World} {h : Nat} (hh : w.heap[h]? = some hostObj) : HostIs w h 0 0 ⟨#[]⟩ (.slice none 0 0) 0 := hh
theorem below2 (w : World) (a b : Obj) : Below w.heap.size w ((w.alloc a).alloc b) := ((Below.refl w.heap.size w).alloc (Nat.le_refl _) a).alloc (by simp) b
theorem below1 (w : World) (a : Obj) : Below w.heap.size w (w.alloc a) := (Below.refl w.heap.size w).alloc (Nat.le_refl _) a

set_option maxRecDepth 400000 in
set_option maxHeartbeats 40000000 in
theorem law_walk (name origin : ByteArray) (sm : Bool) (reuse id : Nat) (age : Int) (pa : Option Addr) (pn pc : Nat) (mb : Nat) (lm nm : Int) (qa : Option Addr) (qn qc : Nat) (ps : List (Key × Nat)) (fl : Bool) (w : World) (h0 : qn ≤ 1024) (h1 : pn ≤ 1048576)
    (hlm0 : 0 ≤ lm) (hlm1 : lm < 65536) (hps : PIn w qa qn ps) (hname : name.size ≤ maxLen) (horig : origin.size ≤ maxLen) (hid : id < 18446744073709551616) (hreuse : reuse < 256) (hmb : mb < 256) (hnm0 : -2147483648 ≤ nm) (hnm1 : nm ≤ 2147483647) (hage0 : 0 ≤ age) (hage1 : age < 4294967296) (bs : List Int) (hbs : BIn w pa pn bs) (hpb : 0 < pn → ∀ a, pa = some a → a.block < w.heap.size) :
    Calls Yba.prog 3 #[.string name, .string origin, .bool sm, .int .u8 reuse, .int .u64 id, .int .u32 age, .slice pa pn pc, .int .u8 mb, .int .u16 lm, .int .i32 nm, .slice qa qn qc, .bool fl] w fun e w' => e = .returned (.bool true) ∧ Below w.heap.size w w' := by
  have hmm := @run_makeMap Yba.prog
  have e1 : ¬ (1024 : Int) < (qn : Int) := by omega
  have e2 : ¬ (1048576 : Int) < (pn : Int) := by omega
  obtain ⟨i41, hi41, hz41, hs41, hb41⟩ := info_parts info41
  obtain ⟨i38, hi38, hz38, hs38, hb38⟩ := info_parts info38
  obtain ⟨i2, hi2, hz2, hs2, hb2⟩ := info_parts info2
  have HI : Hid ((Yba.prog.info? 41 = some i41 ∧ i41.zero = some (.agg #[.string ⟨#[]⟩, .int .u64 0, .int .u64 0, .int .i64 0, .pointer none]) ∧ i41.size = 5 ∧ i41.bytes = 48) ∧ (Yba.prog.info? 38 = some i38 ∧ i38.zero = some (.agg #[.string ⟨#[]⟩, .int .u64 0]) ∧ i38.size = 2 ∧ i38.bytes = 24) ∧ (Yba.prog.info? 2 = some i2 ∧ i2.zero = some (.int .i64 0) ∧ i2.size = 1 ∧ i2.bytes = 8)) := ⟨⟨hi41, hz41, hs41, hb41⟩, ⟨hi38, hz38, hs38, hb38⟩, ⟨hi2, hz2, hs2, hb2⟩⟩
  have HPS : Hid (PIn w qa qn ps) := hps
  clear hi41 hz41 hs41 hb41 hi38 hz38 hs38 hb38 hi2 hz2 hs2 hb2 hps
  go_enter Yba.func3, Yba.ntmps3
  go_wp2_with fail
  go_loopg [28, 29, 30, 31, 70] qn (fun gh fv kvv av cum idx wr => ∃ (i : Nat) (es : List Ent) (c : Int) (gf of cf gk ok ck ga oa ca : Nat), i ≤ qn ∧ gh = qn - i ∧ idx = .int .i64 i ∧ cum = .int .i64 c ∧ 0 ≤ c ∧ c ≤ 65535 * i ∧ es.length ≤ i ∧
      fv = .slice (some ⟨gf, of, none⟩) es.length cf ∧ kvv = .slice (some ⟨gk, ok, none⟩) es.length ck ∧ av = .slice (some ⟨ga, oa, none⟩) es.length ca ∧ LR w es gf of cf gk ok ck ga oa ca wr)
  case atStart => exact ⟨0, [], 0, _, _, _, _, _, _, _, _, _, Nat.zero_le _, rfl, rfl, rfl, by omega, by omega, by simp, rfl, rfl, rfl, lr0 w⟩
  case round =>
    obtain ⟨i, es, c, gf, of, cf, gk', ok, ck, ga, oa, ca, hi, hg, rfl, rfl, hc0, hc1, hei, rfl, rfl, rfl, hlr⟩ := hrel
    have HLR : Hid (LR w es gf of cf gk' ok ck ga oa ca wr) := hlr
    have HG : Hid (gk = qn - i) := hg
    have hsz := hlr.size
    clear hlr hg
    by_cases hiq : i < qn
    · have hiq' : (i : Int) < (qn : Int) := by omega
      have hi0 : (0 : Int) ≤ (i : Int) := by omega
      obtain ⟨hpl, hpg, hpc⟩ := HPS.out
      obtain ⟨pb, po, rfl, hpbl, hpcell⟩ := hpc (by omega)
      obtain ⟨p, hp⟩ : ∃ p, ps[i]? = some p := ⟨ps[i], List.getElem?_eq_getElem (by omega)⟩
      obtain ⟨⟨ks, kid⟩, d⟩ := p
      obtain ⟨q0, q1, q2⟩ := hpcell i _ hp
      have hgd := hpg _ (List.mem_of_getElem? hp)
      have HGD : Hid (Good (ks, kid)) := hgd.1
      have hd : d < 65536 := hgd.2
      have q0 := (HLR.out.below.cell (p := ⟨pb, po + i * 3, none⟩) hpbl).trans q0
      have q1 := (HLR.out.below.cell (p := ⟨pb, po + i * 3 + 1, none⟩) hpbl).trans q1
      have q2 := (HLR.out.below.cell (p := ⟨pb, po + i * 3 + 2, none⟩) hpbl).trans q2
      simp only at q0 q1 q2
      clear hpl hpg hpc hpcell hp hgd
      have hsz' : w.heap.size + 2 ≤ wr.heap.size := by omega
      by_cases hin : (ks, kid) ∈ es.map (·.1)
      · have hyes : (Instr.lookup 31 (.map (some (w.heap.size + 1))) (.agg #[.string ks, .int .u64 (kid : Int)]) false).run Yba.prog ((wr.alloc (.cells #[.string ks, .int .u64 (kid : Int), .int .u16 (d : Int)] 36)).alloc (.cells #[.string ks, .int .u64 (kid : Int)] 38)) = .ok (.bool true) ((wr.alloc (.cells #[.string ks, .int .u64 (kid : Int), .int .u16 (d : Int)] 36)).alloc (.cells #[.string ks, .int .u64 (kid : Int)] 38)) := ((HLR.out.ms.alloc _).alloc _).yes _ HGD.out hin
        clear hin
        go_wp2_with fail
        go_roundg (qn - (i + 1))
        case measure => rw [HG.out]; omega
        case rel => exact ⟨i + 1, es, c + d, gf, of, cf, gk', ok, ck, ga, oa, ca, by omega, rfl, rfl, rfl, by omega, by push_cast; omega, by omega, rfl, rfl, rfl, HLR.out.grow (below2 _ _ _)⟩
      · have hno : (Instr.lookup 31 (.map (some (w.heap.size + 1))) (.agg #[.string ks, .int .u64 (kid : Int)]) false).run Yba.prog ((wr.alloc (.cells #[.string ks, .int .u64 (kid : Int), .int .u16 (d : Int)] 36)).alloc (.cells #[.string ks, .int .u64 (kid : Int)] 38)) = .ok (.bool false) ((wr.alloc (.cells #[.string ks, .int .u64 (kid : Int), .int .u16 (d : Int)] 36)).alloc (.cells #[.string ks, .int .u64 (kid : Int)] 38)) := ((HLR.out.ms.alloc _).alloc _).no _ HGD.out hin
        obtain ⟨w1, hrun, m1, g1⟩ := ((HLR.out.ms.alloc (.cells #[.string ks, .int .u64 (kid : Int), .int .u16 (d : Int)] 36)).alloc (.cells #[.string ks, .int .u64 (kid : Int)] 38)).store (ks, kid) HGD.out hin (by unfold maxLen; omega)
        unfold kv at hrun
        have HM1 : Hid (MSet w1 (w.heap.size + 1) (es.length + 1) (es.map (·.1) ++ [(ks, kid)])) := m1
        have hz1 : wr.heap.size + 1 + 1 ≤ w1.heap.size := by simpa using g1.size
        have HG1 : Hid (wr.grownBy w1 (some (w.heap.size + 1))) := ((World.grownBy_alloc wr _ _).trans (World.grownBy_alloc _ _ _)).trans g1
        have HKB : Hid (w1.heap[wr.heap.size + 1]? = some (.cells #[.string ks, .int .u64 (kid : Int)] 38 (0, 0))) := (g1.block _ (by simp) (by simp; omega)).trans (heap_alloc2_new wr _ _)
        have HBS : Hid (w1.heap[w.heap.size]? = some (.cells #[.int .u64 0, .int .i64 0, .pointer none] 29 (0, 0))) := (HG1.out.block _ (by omega) (by simp)).trans HLR.out.base
        have k0 : w1.cell? ⟨wr.heap.size + 1, 0, none⟩ = some (.string ks) := cellOf HKB.out 0 rfl
        have k1 : w1.cell? ⟨wr.heap.size + 1, 1, none⟩ = some (.int .u64 (kid : Int)) := cellOf HKB.out 1 rfl
        have t0 : w1.cell? ⟨w.heap.size, 0, none⟩ = some (.int .u64 0) := cellOf HBS.out 0 rfl
        have t1 : w1.cell? ⟨w.heap.size, 1, none⟩ = some (.int .i64 0) := cellOf HBS.out 1 rfl
        have t2 : w1.cell? ⟨w.heap.size, 2, none⟩ = some (.pointer none) := cellOf HBS.out 2 rfl
        have HIN : Hid ((ks, kid) ∉ es.map (·.1)) := hin
        have HRF : Hid (Row w1 41 5 gf of es.length cf (ents (nsOf es))) := HLR.out.rf.same (HG1.out.block gf HLR.out.rf.lt (by have := HLR.out.bf; simp; omega))
        have hgf := HLR.out.bf
        have hgfl := HLR.out.rf.lt
        have hgk := HLR.out.bk
        have hgkl := HLR.out.rk.lt
        have hga := HLR.out.ba
        have hgal := HLR.out.ra.lt
        have hfk : gf ≠ gk' := HLR.out.rf.apart HLR.out.rk (by decide)
        have hfa : gf ≠ ga := HLR.out.rf.apart HLR.out.ra (by decide)
        have hka : gk' ≠ ga := HLR.out.rk.apart HLR.out.ra (by decide)
        have hwr : IntKind.i64.wrap ((c + (d : Int)) * 1000000) = (c + (d : Int)) * 1000000 := IntWalk.i64_in _ (by omega)
        clear m1 g1 hin
        go_wp2_with fail
        go_region_held3 (fun w' => w'.cell? ⟨wr.heap.size + 1, 0, none⟩ = some (.string ks) ∧ w'.cell? ⟨wr.heap.size + 1, 1, none⟩ = some (.int .u64 (kid : Int)) ∧ w'.cell? ⟨w.heap.size, 0, none⟩ = some (.int .u64 0) ∧ w'.cell? ⟨w.heap.size, 1, none⟩ = some (.int .i64 0) ∧ w'.cell? ⟨w.heap.size, 2, none⟩ = some (.pointer none))
          (first | go_keep | (go_split_ands; refine ⟨?_, ?_, ?_, ?_, ?_⟩ <;> (rw [hbel.cell (by simp; omega)]; assumption)) | (go_split_ands; refine ⟨?_, ?_, ?_, ?_, ?_⟩ <;> (rw [g2.cell_far _ (by simp; omega) (by simp; omega)]; assumption)))
          (first | (go_at_call 4; refine (add_zero_any ((c + (d : Int)) * 1000000) _ (by omega) (by omega)).mono ?_; rintro e wa0 ⟨rfl, hbel⟩; have hza := hbel.size; simp only [World.size_drew] at hza)
                 | (refine step_append_row _ (by rfl) _ _ 32 (by rfl) 41 i41 _ 5 48 Yba.underlying32 HI.out.1.1 HI.out.1.2.1 HI.out.1.2.2.1 HI.out.1.2.2.2 rfl gf of es.length cf (ents (nsOf es)) (by rfl) ((HRF.out.same (hbel.block gf (by simp; omega))).alloc _) ⟨wa0.heap.size, 0, none⟩ (ent ((ks, kid), (c + (d : Int)) * 1000000)) (by rfl) rfl
                      (World.news_of_block (cs := #[.string ks, .int .u64 (kid : Int), .int .u64 (((c + (d : Int)) * 1000000) % 1000000000), .int .i64 (((c + (d : Int)) * 1000000) / 1000000000), .pointer none]) (t := 41) (fr := (0, 0)) (heap_alloc_new wa0 _)) (by simp [ent, Value.oneCell']) (by unfold maxLen; omega) (by omega) ?_; intro gf' of' cf' w2 r2 g2 l2))
        have hz2 : wa0.heap.size + 1 ≤ w2.heap.size := by simpa using g2.size
        have HL2 : Hid (gf' = gf ∨ gf' = (wa0.alloc (.cells #[.string ks, .int .u64 (kid : Int), .int .u64 (((c + (d : Int)) * 1000000) % 1000000000), .int .i64 (((c + (d : Int)) * 1000000) / 1000000000), .pointer none] 41)).heap.size) := l2
        have HR2 : Hid (Row w2 41 5 gf' of' (es.length + 1) cf' (ents (nsOf es) ++ ent ((ks, kid), (c + (d : Int)) * 1000000))) := r2
        have HG2 : Hid ((wa0.alloc (.cells #[.string ks, .int .u64 (kid : Int), .int .u64 (((c + (d : Int)) * 1000000) % 1000000000), .int .i64 (((c + (d : Int)) * 1000000) / 1000000000), .pointer none] 41)).grownBy w2 (some gf)) := g2
        have HBEL : Hid (Below w1.heap.size w1 wa0) := ⟨hbel.os, hbel.tape, hbel.output, hbel.size, hbel.block⟩
        have HRK : Hid (Row w2 38 2 gk' ok es.length ck (keyCells es)) := ((HLR.out.rk.same (HG1.out.block gk' hgkl (by simp; omega))).same (HBEL.out.block gk' (by omega))).same ((g2.block gk' (by simp; omega) (by simp; omega)).trans (Below.heap_alloc _ _ _ (by omega)))
        have HRA : Hid (Row w2 2 1 ga oa es.length ca (atCells es)) := ((HLR.out.ra.same (HG1.out.block ga hgal (by simp; omega))).same (HBEL.out.block ga (by omega))).same ((g2.block ga (by simp; omega) (by simp; omega)).trans (Below.heap_alloc _ _ _ (by omega)))
        clear l2 r2 g2 hbel k0 k1 t0 t1 t2 hrun hno
        go_wp2_with (at_builtin; refine wpList_append_row _ rfl _ _ 33 rfl 38 i38 _ 2 24 Yba.underlying33 HI.out.2.1.1 HI.out.2.1.2.1 HI.out.2.1.2.2.1 HI.out.2.1.2.2.2 rfl gk' ok es.length ck (keyCells es) rfl (HRK.out.alloc _) ⟨w2.heap.size, 0, none⟩ [.string ks, .int .u64 (kid : Int)] rfl rfl (World.news_of_block (cs := #[.string ks, .int .u64 (kid : Int)]) (t := 38) (fr := (0, 0)) (heap_alloc_new w2 _)) (by simp [Value.oneCell']) (by unfold maxLen; omega) (by omega) ?_)
        intro gk2 ok2 ck2 w3 r3 g3 l3
        have hz3 : w2.heap.size + 1 ≤ w3.heap.size := by simpa using g3.size
        have HL3 : Hid (gk2 = gk' ∨ gk2 = (w2.alloc (.cells #[.string ks, .int .u64 (kid : Int)] 38)).heap.size) := l3.imp (fun h => h) (fun h => h.trans (by simp))
        have HR3 : Hid (Row w3 38 2 gk2 ok2 (es.length + 1) ck2 (keyCells es ++ [.string ks, .int .u64 (kid : Int)])) := r3
        have HG3 : Hid ((w2.alloc (.cells #[.string ks, .int .u64 (kid : Int)] 38)).grownBy w3 (some gk')) := g3
        have HRA3 : Hid (Row w3 2 1 ga oa es.length ca (atCells es)) := HRA.out.same ((g3.block ga (by simp; have := HRA.out.lt; omega) (by simp; omega)).trans (Below.heap_alloc _ _ _ HRA.out.lt))
        clear l3 r3 g3
        go_wp2_with (at_builtin; refine wpList_append_row _ rfl _ _ 34 rfl 2 i2 _ 1 8 Yba.underlying34 HI.out.2.2.1 HI.out.2.2.2.1 HI.out.2.2.2.2.1 HI.out.2.2.2.2.2 rfl ga oa es.length ca (atCells es) rfl (HRA3.out.alloc _) ⟨w3.heap.size, 0, none⟩ [.int .i64 (c + (d : Int))] rfl rfl (World.news_of_block (cs := #[.int .i64 (c + (d : Int))]) (t := 2) (fr := (0, 0)) (heap_alloc_new w3 _)) (by simp [Value.oneCell']) (by unfold maxLen; omega) (by omega) ?_)
        intro ga2 oa2 ca2 w4 r4 g4 l4
        have HLR4 : Hid (LR w (es ++ [((ks, kid), c + (d : Int))]) gf' of' cf' gk2 ok2 ck2 ga2 oa2 ca2 w4) := HLR.out.step HGD.out (by omega) (by omega) HIN.out HG1.out HM1.out (HBEL.out.trans ((below1 _ _).mono HBEL.out.size)) HR2.out HG2.out HL2.out (below1 _ _) HR3.out HG3.out HL3.out (below1 _ _) r4 g4 (l4.imp (fun h => h) (fun h => h.trans (by simp)))
        clear r4 g4 l4
        go_wp2_with fail
        go_roundg (qn - (i + 1))
        case measure => rw [HG.out]; omega
        case rel => exact ⟨i + 1, es ++ [((ks, kid), c + (d : Int))], c + d, gf', of', cf', gk2, ok2, ck2, ga2, oa2, ca2, by omega, rfl, rfl, rfl, by omega, by push_cast; omega, by simp; omega, by simp, by simp, by simp, HLR4.out⟩
    · have hiq' : ¬ (i : Int) < (qn : Int) := by omega
      have hel : es.length ≤ 1024 := by omega
      clear hc0 hc1 hei hi HG hiq
      go_upto_if 107 with fail
      go_cut [28, 29, 30, 35, 36] from 107 to 133 (fun fv kvv av s35 s36 wx => ∃ (es : List Ent) (gf of cf gk ok ck ga oa ca : Nat), es.length ≤ 9216 ∧ fv = .slice (some ⟨gf, of, none⟩) es.length cf ∧ kvv = .slice (some ⟨gk, ok, none⟩) es.length ck ∧ av = .slice (some ⟨ga, oa, none⟩) es.length ca ∧ LR w es gf of cf gk ok ck ga oa ca wx)
      case first =>
        cases fl with
        | false =>
          go_wp2
          go_meet
          exact ⟨es, gf, of, cf, gk', ok, ck, ga, oa, ca, by omega, rfl, rfl, rfl, HLR.out⟩
        | true =>
          go_wp2_with fail
          go_loopg [28, 29, 30, 35] 8192 (fun gh fv kvv av idx wr => ∃ (j : Nat) (es : List Ent) (gf of cf gk ok ck ga oa ca : Nat), j ≤ 8192 ∧ gh = 8192 - j ∧ idx = .int .i64 j ∧ es.length ≤ 1024 + j ∧
              fv = .slice (some ⟨gf, of, none⟩) es.length cf ∧ kvv = .slice (some ⟨gk, ok, none⟩) es.length ck ∧ av = .slice (some ⟨ga, oa, none⟩) es.length ca ∧ LR w es gf of cf gk ok ck ga oa ca wr)
          case atStart => exact ⟨0, es, gf, of, cf, gk', ok, ck, ga, oa, ca, by omega, rfl, rfl, by omega, rfl, rfl, rfl, HLR.out⟩
          case round =>
            clear HLR hel hsz
            clear es gf of cf gk' ok ck ga oa ca
            obtain ⟨j, es, gf, of, cf, gk', ok, ck, ga, oa, ca, hj, hg, rfl, hel, rfl, rfl, rfl, hlr⟩ := hrel
            rename_i gk2nd _
            have HLR : Hid (LR w es gf of cf gk' ok ck ga oa ca wr) := hlr
            have HG : Hid (_ = 8192 - j) := hg
            have hsz := hlr.size
            clear hlr hg
            by_cases hjq : j < 8192
            · have hjq' : (j : Int) < 8192 := by omega
              have hj0 : (0 : Int) ≤ (j : Int) := by omega
              have HGD : Hid (Good ((⟨#[122, 122, 102, 117, 108, 108]⟩ : ByteArray), j)) := ⟨by show (6 : Nat) ≤ maxLen; decide, by show j < _; omega⟩
              have hsz' : w.heap.size + 2 ≤ wr.heap.size := by omega
              by_cases hin : ((⟨#[122, 122, 102, 117, 108, 108]⟩ : ByteArray), j) ∈ es.map (·.1)
              · have hyes : (Instr.lookup 31 (.map (some (w.heap.size + 1))) (.agg #[.string ⟨#[122, 122, 102, 117, 108, 108]⟩, .int .u64 (j : Int)]) false).run Yba.prog (wr.alloc (.cells #[.string ⟨#[122, 122, 102, 117, 108, 108]⟩, .int .u64 (j : Int)] 38)) = .ok (.bool true) (wr.alloc (.cells #[.string ⟨#[122, 122, 102, 117, 108, 108]⟩, .int .u64 (j : Int)] 38)) := (HLR.out.ms.alloc _).yes _ HGD.out hin
                clear hin
                go_wp2_with fail
                go_roundg (8192 - (j + 1))
                case measure => rw [HG.out]; omega
                case rel => exact ⟨j + 1, es, gf, of, cf, gk', ok, ck, ga, oa, ca, by omega, rfl, rfl, by omega, rfl, rfl, rfl, HLR.out.grow (below1 _ _)⟩
              · have hno : (Instr.lookup 31 (.map (some (w.heap.size + 1))) (.agg #[.string ⟨#[122, 122, 102, 117, 108, 108]⟩, .int .u64 (j : Int)]) false).run Yba.prog (wr.alloc (.cells #[.string ⟨#[122, 122, 102, 117, 108, 108]⟩, .int .u64 (j : Int)] 38)) = .ok (.bool false) (wr.alloc (.cells #[.string ⟨#[122, 122, 102, 117, 108, 108]⟩, .int .u64 (j : Int)] 38)) := (HLR.out.ms.alloc _).no _ HGD.out hin
                obtain ⟨w1, hrun, m1, g1⟩ := (HLR.out.ms.alloc (.cells #[.string ⟨#[122, 122, 102, 117, 108, 108]⟩, .int .u64 (j : Int)] 38)).store ((⟨#[122, 122, 102, 117, 108, 108]⟩ : ByteArray), j) HGD.out hin (by unfold maxLen; omega)
                unfold kv at hrun
                have HM1 : Hid (MSet w1 (w.heap.size + 1) (es.length + 1) (es.map (·.1) ++ [((⟨#[122, 122, 102, 117, 108, 108]⟩ : ByteArray), j)])) := m1
                have hz1 : wr.heap.size + 1 ≤ w1.heap.size := by simpa using g1.size
                have HG1 : Hid (wr.grownBy w1 (some (w.heap.size + 1))) := (World.grownBy_alloc wr _ _).trans g1
                have HKB : Hid (w1.heap[wr.heap.size]? = some (.cells #[.string ⟨#[122, 122, 102, 117, 108, 108]⟩, .int .u64 (j : Int)] 38 (0, 0))) := (g1.block _ (by simp) (by simp; omega)).trans (heap_alloc_new wr _)
                have HBS : Hid (w1.heap[w.heap.size]? = some (.cells #[.int .u64 0, .int .i64 0, .pointer none] 29 (0, 0))) := (HG1.out.block _ (by omega) (by simp)).trans HLR.out.base
                have k0 : w1.cell? ⟨wr.heap.size, 0, none⟩ = some (.string ⟨#[122, 122, 102, 117, 108, 108]⟩) := cellOf HKB.out 0 rfl
                have k1 : w1.cell? ⟨wr.heap.size, 1, none⟩ = some (.int .u64 (j : Int)) := cellOf HKB.out 1 rfl
                have t0 : w1.cell? ⟨w.heap.size, 0, none⟩ = some (.int .u64 0) := cellOf HBS.out 0 rfl
                have t1 : w1.cell? ⟨w.heap.size, 1, none⟩ = some (.int .i64 0) := cellOf HBS.out 1 rfl
                have t2 : w1.cell? ⟨w.heap.size, 2, none⟩ = some (.pointer none) := cellOf HBS.out 2 rfl
                have HIN : Hid (((⟨#[122, 122, 102, 117, 108, 108]⟩ : ByteArray), j) ∉ es.map (·.1)) := hin
                have HRF : Hid (Row w1 41 5 gf of es.length cf (ents (nsOf es))) := HLR.out.rf.same (HG1.out.block gf HLR.out.rf.lt (by have := HLR.out.bf; simp; omega))
                have hgf := HLR.out.bf
                have hgfl := HLR.out.rf.lt
                have hgk := HLR.out.bk
                have hgkl := HLR.out.rk.lt
                have hga := HLR.out.ba
                have hgal := HLR.out.ra.lt
                have hfk : gf ≠ gk' := HLR.out.rf.apart HLR.out.rk (by decide)
                have hfa : gf ≠ ga := HLR.out.rf.apart HLR.out.ra (by decide)
                have hka : gk' ≠ ga := HLR.out.rk.apart HLR.out.ra (by decide)
                clear m1 g1 hin
                go_wp2_with fail
                go_region_held3 (fun w' => w'.cell? ⟨wr.heap.size, 0, none⟩ = some (.string ⟨#[122, 122, 102, 117, 108, 108]⟩) ∧ w'.cell? ⟨wr.heap.size, 1, none⟩ = some (.int .u64 (j : Int)) ∧ w'.cell? ⟨w.heap.size, 0, none⟩ = some (.int .u64 0) ∧ w'.cell? ⟨w.heap.size, 1, none⟩ = some (.int .i64 0) ∧ w'.cell? ⟨w.heap.size, 2, none⟩ = some (.pointer none))
                  (first | go_keep | (go_split_ands; refine ⟨?_, ?_, ?_, ?_, ?_⟩ <;> (rw [hbel.cell (by simp; omega)]; assumption)) | (go_split_ands; refine ⟨?_, ?_, ?_, ?_, ?_⟩ <;> (rw [g2.cell_far _ (by simp; omega) (by simp; omega)]; assumption)))
                  (first | (go_at_call 4; refine (add_zero_any 1099511627776000000 _ (by omega) (by omega)).mono ?_; rintro e wa0 ⟨rfl, hbel⟩; have hza := hbel.size; simp only [World.size_drew] at hza)
                         | (refine step_append_row _ (by rfl) _ _ 32 (by rfl) 41 i41 _ 5 48 Yba.underlying32 HI.out.1.1 HI.out.1.2.1 HI.out.1.2.2.1 HI.out.1.2.2.2 rfl gf of es.length cf (ents (nsOf es)) (by rfl) ((HRF.out.same (hbel.block gf (by simp; omega))).alloc _) ⟨wa0.heap.size, 0, none⟩ [.string ⟨#[122, 122, 102, 117, 108, 108]⟩, .int .u64 (j : Int), .int .u64 776000000, .int .i64 1099511627, .pointer none] (by rfl) rfl
                              (World.news_of_block (cs := #[.string ⟨#[122, 122, 102, 117, 108, 108]⟩, .int .u64 (j : Int), .int .u64 776000000, .int .i64 1099511627, .pointer none]) (t := 41) (fr := (0, 0)) (heap_alloc_new wa0 _)) (by simp [Value.oneCell']) (by unfold maxLen; omega) (by omega) ?_; intro gf' of' cf' w2 r2 g2 l2))
                have hz2 : wa0.heap.size + 1 ≤ w2.heap.size := by simpa using g2.size
                have HL2 : Hid (gf' = gf ∨ gf' = (wa0.alloc (.cells #[.string ⟨#[122, 122, 102, 117, 108, 108]⟩, .int .u64 (j : Int), .int .u64 776000000, .int .i64 1099511627, .pointer none] 41)).heap.size) := l2
                have HR2 : Hid (Row w2 41 5 gf' of' (es.length + 1) cf' (ents (nsOf es) ++ ent (((⟨#[122, 122, 102, 117, 108, 108]⟩ : ByteArray), j), 1099511627776 * 1000000))) := by
                  rw [ent_zz]
                  exact r2
                have HG2 : Hid ((wa0.alloc (.cells #[.string ⟨#[122, 122, 102, 117, 108, 108]⟩, .int .u64 (j : Int), .int .u64 776000000, .int .i64 1099511627, .pointer none] 41)).grownBy w2 (some gf)) := g2
                have HBEL : Hid (Below w1.heap.size w1 wa0) := ⟨hbel.os, hbel.tape, hbel.output, hbel.size, hbel.block⟩
                have HRK : Hid (Row w2 38 2 gk' ok es.length ck (keyCells es)) := ((HLR.out.rk.same (HG1.out.block gk' hgkl (by simp; omega))).same (HBEL.out.block gk' (by omega))).same ((g2.block gk' (by simp; omega) (by simp; omega)).trans (Below.heap_alloc _ _ _ (by omega)))
                have HRA : Hid (Row w2 2 1 ga oa es.length ca (atCells es)) := ((HLR.out.ra.same (HG1.out.block ga hgal (by simp; omega))).same (HBEL.out.block ga (by omega))).same ((g2.block ga (by simp; omega) (by simp; omega)).trans (Below.heap_alloc _ _ _ (by omega)))
                clear l2 r2 g2 hbel k0 k1 t0 t1 t2 hrun hno
                go_wp2_with (at_builtin; refine wpList_append_row _ rfl _ _ 33 rfl 38 i38 _ 2 24 Yba.underlying33 HI.out.2.1.1 HI.out.2.1.2.1 HI.out.2.1.2.2.1 HI.out.2.1.2.2.2 rfl gk' ok es.length ck (keyCells es) rfl (HRK.out.alloc _) ⟨w2.heap.size, 0, none⟩ [.string ⟨#[122, 122, 102, 117, 108, 108]⟩, .int .u64 (j : Int)] rfl rfl (World.news_of_block (cs := #[.string ⟨#[122, 122, 102, 117, 108, 108]⟩, .int .u64 (j : Int)]) (t := 38) (fr := (0, 0)) (heap_alloc_new w2 _)) (by simp [Value.oneCell']) (by unfold maxLen; omega) (by omega) ?_)
                intro gk2 ok2 ck2 w3 r3 g3 l3
                have hz3 : w2.heap.size + 1 ≤ w3.heap.size := by simpa using g3.size
                have HL3 : Hid (gk2 = gk' ∨ gk2 = (w2.alloc (.cells #[.string ⟨#[122, 122, 102, 117, 108, 108]⟩, .int .u64 (j : Int)] 38)).heap.size) := l3.imp (fun h => h) (fun h => h.trans (by simp))
                have HR3 : Hid (Row w3 38 2 gk2 ok2 (es.length + 1) ck2 (keyCells es ++ [.string ⟨#[122, 122, 102, 117, 108, 108]⟩, .int .u64 (j : Int)])) := r3
                have HG3 : Hid ((w2.alloc (.cells #[.string ⟨#[122, 122, 102, 117, 108, 108]⟩, .int .u64 (j : Int)] 38)).grownBy w3 (some gk')) := g3
                have HRA3 : Hid (Row w3 2 1 ga oa es.length ca (atCells es)) := HRA.out.same ((g3.block ga (by simp; have := HRA.out.lt; omega) (by simp; omega)).trans (Below.heap_alloc _ _ _ HRA.out.lt))
                clear l3 r3 g3
                go_wp2_with (at_builtin; refine wpList_append_row _ rfl _ _ 34 rfl 2 i2 _ 1 8 Yba.underlying34 HI.out.2.2.1 HI.out.2.2.2.1 HI.out.2.2.2.2.1 HI.out.2.2.2.2.2 rfl ga oa es.length ca (atCells es) rfl (HRA3.out.alloc _) ⟨w3.heap.size, 0, none⟩ [.int .i64 1099511627776] rfl rfl (World.news_of_block (cs := #[.int .i64 1099511627776]) (t := 2) (fr := (0, 0)) (heap_alloc_new w3 _)) (by simp [Value.oneCell']) (by unfold maxLen; omega) (by omega) ?_)
                intro ga2 oa2 ca2 w4 r4 g4 l4
                have HLR4 : Hid (LR w (es ++ [(((⟨#[122, 122, 102, 117, 108, 108]⟩ : ByteArray), j), 1099511627776)]) gf' of' cf' gk2 ok2 ck2 ga2 oa2 ca2 w4) := HLR.out.step HGD.out (by omega) (by omega) HIN.out HG1.out HM1.out (HBEL.out.trans ((below1 _ _).mono HBEL.out.size)) HR2.out HG2.out HL2.out (below1 _ _) HR3.out HG3.out HL3.out (below1 _ _) r4 g4 (l4.imp (fun h => h) (fun h => h.trans (by simp)))
                clear r4 g4 l4
                go_wp2_with fail
                go_roundg (8192 - (j + 1))
                case measure => rw [HG.out]; omega
                case rel => exact ⟨j + 1, es ++ [(((⟨#[122, 122, 102, 117, 108, 108]⟩ : ByteArray), j), 1099511627776)], gf', of', cf', gk2, ok2, ck2, ga2, oa2, ca2, by omega, rfl, rfl, by simp; omega, by simp, by simp, by simp, HLR4.out⟩
            · have hjq' : ¬ (j : Int) < 8192 := by omega
              go_wp2
              go_meet
              exact ⟨es, gf, of, cf, gk', ok, ck, ga, oa, ca, by omega, rfl, rfl, rfl, HLR.out⟩
      case rest =>
        obtain ⟨es1, gf1, of1, cf1, gk1, ok1, ck1, ga1, oa1, ca1, hel1, rfl, rfl, rfl, hlr⟩ := hcut
        have HL : Hid (LR w es1 gf1 of1 cf1 gk1 ok1 ck1 ga1 oa1 ca1 wc) := hlr
        have HRK : Hid (Row wc 38 2 gk1 ok1 es1.length ck1 (keyCells es1)) := hlr.rk
        clear hlr HLR
        go_upto_if 134 with fail
        go_cut [1, 4, 37] from 134 to 156 (fun s1 s4 s37 wx => ∃ (o' : ByteArray) (id' : Nat), s1 = .string o' ∧ s4 = .int .u64 (id' : Int) ∧ Good (o', id') ∧ LR w es1 gf1 of1 cf1 gk1 ok1 ck1 ga1 oa1 ca1 wx)
        case first =>
          cases sm with
          | true =>
            go_wp2
            go_meet
            exact ⟨name, id, rfl, rfl, ⟨hname, hid⟩, HL.out⟩
          | false =>
            by_cases hne : 0 < es1.length
            · have hne' : (0 : Int) < (es1.length : Int) := by omega
              by_cases hodd : reuse % 2 = 1
              · have hodd' : (reuse : Int) % 2 = 1 := by omega
                have hix : reuse / 2 % es1.length < es1.length := Nat.mod_lt _ hne
                obtain ⟨e, he⟩ : ∃ e, es1[reuse / 2 % es1.length]? = some e := ⟨_, List.getElem?_eq_getElem hix⟩
                have hge := (HL.out.fit.1 e (List.mem_of_getElem? he)).1
                have HGE : Hid (Good e.1) := hge
                have x0 := HRK.out.cell (reuse / 2 % es1.length * 2) (keyCells_at he).1
                have x1 := HRK.out.cell (reuse / 2 % es1.length * 2 + 1) (keyCells_at he).2
                rw [← Nat.add_assoc] at x1
                have hixa : (0 : Int) ≤ (reuse : Int) / 2 % (es1.length : Int) := Int.emod_nonneg _ (by omega)
                have hixb : (reuse : Int) / 2 % (es1.length : Int) < (es1.length : Int) := Int.emod_lt_of_pos _ (by omega)
                clear he hge
                go_wp2
                go_meet
                exact ⟨e.1.1, e.1.2, rfl, rfl, HGE.out, HL.out.grow (below1 _ _)⟩
              · have hodd' : ¬ (reuse : Int) % 2 = 1 := by omega
                go_wp2
                go_meet
                exact ⟨origin, id, rfl, rfl, ⟨horig, hid⟩, HL.out⟩
            · have hne' : ¬ (0 : Int) < (es1.length : Int) := by omega
              go_wp2
              go_meet
              exact ⟨origin, id, rfl, rfl, ⟨horig, hid⟩, HL.out⟩
        case rest =>
          obtain ⟨o', id', rfl, rfl, hgood, hlr⟩ := hcut
          have HL2 : Hid (LR w es1 gf1 of1 cf1 gk1 ok1 ck1 ga1 oa1 ca1 wc) := hlr
          have HGOOD : Hid (Good (o', id')) := hgood
          clear hlr hgood HL HRK
          have hbase := HL2.out.base
          have t0 : wc.cell? ⟨w.heap.size, 0, none⟩ = some (.int .u64 0) := cellOf hbase 0 rfl
          have t1 : wc.cell? ⟨w.heap.size, 1, none⟩ = some (.int .i64 0) := cellOf hbase 1 rfl
          have t2 : wc.cell? ⟨w.heap.size, 2, none⟩ = some (.pointer none) := cellOf hbase 2 rfl
          have hszc := HL2.out.size
          have hl29 : w.heap.size < wc.heap.size := by omega
          have hz74 := zero74
          have hbsc : BIn wc pa pn bs := hbs.below HL2.out.below hpb
          clear hbase
          go_wp2_with fail
          refine (add_zero_any (nm * 1000000) _ (by omega) (by omega)).mono ?_
          rintro e w5 ⟨rfl, hbel5⟩
          have hz5 : wc.heap.size + 1 + 1 ≤ w5.heap.size := by simpa using hbel5.size
          have hh5 : w5.heap[wc.heap.size]? = some hostObj := (hbel5.block _ (by simp; omega)).trans ((Below.heap_alloc _ _ _ (by simp)).trans (heap_alloc_new wc _))
          have hm5 : w5.heap[wc.heap.size + 1]? = some (machObj name (mb % 12) wc.heap.size (lm * 1000000) (w.heap.size + 1) (.slice (some ⟨gf1, of1, none⟩) es1.length cf1)) := (hbel5.block _ (by simp)).trans (heap_alloc2_new wc _ _)
          have HB5 : Hid (Below wc.heap.size wc w5) := (below2 wc _ _).trans (hbel5.mono (by simp; omega))
          have HL5 : Hid (LR w es1 gf1 of1 cf1 gk1 ok1 ck1 ga1 oa1 ca1 w5) := HL2.out.grow HB5.out
          have HH5 : Hid (w5.heap[wc.heap.size]? = some hostObj) := hh5
          have HM5 : Hid (w5.heap[wc.heap.size + 1]? = some (machObj name (mb % 12) wc.heap.size (lm * 1000000) (w.heap.size + 1) (.slice (some ⟨gf1, of1, none⟩) es1.length cf1))) := hm5
          have HBS5 : Hid (BIn w5 pa pn bs) := hbsc.below HB5.out (fun h0 a ha => by have := hpb h0 a ha; omega)
          have HPB : Hid (0 < pn → ∀ a, pa = some a → a.block < w.heap.size) := hpb
          clear hbel5 hh5 hm5 hbsc hbs hpb t0 t1 t2 hz74
          go_wp2_with fail
          have HMZ : Hid (Mach ((w5.alloc (.cells #[.int .u64 (nm * 1000000 % 1000000000), .int .i64 (nm * 1000000 / 1000000000), .pointer none] 29)).alloc (.cells #[.string o', .int .u64 (id' : Int), .int .u32 age, .slice pa pn pc] 76)) (wc.heap.size + 1) name (mb % 12) wc.heap.size (lm * 1000000) (w.heap.size + 1) (.slice none 0 0) 0 (.slice (some ⟨gf1, of1, none⟩) es1.length cf1)) :=
            mach_alloc (mach_alloc (mach_made HM5.out) _) _
          by_cases hE : o' = name ∨ lm < age ∨ (mb % 12 : Int) < pn
          · refine (hear_early _ name (mb % 12) _ (lm * 1000000) _ _ _ _ o' id' age pa pn pc (nm * 1000000) _ HMZ.out hage0 hage1 (by rcases hE with h | h | h; exact .inl h; exact .inr (.inl (by omega)); exact .inr (.inr h))).mono ?_
            rintro e w6 ⟨rfl, hb6⟩
            by_cases ha : o' = name
            · have ha' : (o'.toList == name.toList) = true := by rw [ha]; simp
              have hh6 : w6.heap[wc.heap.size]? = some hostObj := (hb6.block _ (by simp; omega)).trans ((Below.heap_alloc _ _ _ (by simp; omega)).trans ((Below.heap_alloc _ _ _ (by omega)).trans HH5.out))
              have hm6 : w6.heap[wc.heap.size + 1]? = some (machObj name (mb % 12) wc.heap.size (lm * 1000000) (w.heap.size + 1) (.slice (some ⟨gf1, of1, none⟩) es1.length cf1)) := (hb6.block _ (by simp; omega)).trans ((Below.heap_alloc _ _ _ (by simp; omega)).trans ((Below.heap_alloc _ _ _ (by omega)).trans HM5.out))
              have HL6 : Hid (LR w es1 gf1 of1 cf1 gk1 ok1 ck1 ga1 oa1 ca1 w6) := (HL5.out.grow (below2 w5 _ _)).grow hb6
              have hl6 : (Builtin.len_ #[31] 3 #[.map (some (w.heap.size + 1))]).run Yba.prog w6 = .ok (.int .i64 es1.length) w6 := by
                have := HL6.out.ms.len 3
                simpa using this
              have x0 : w6.cell? ⟨wc.heap.size, 0, none⟩ = some (.int .i64 0) := cellOf hh6 0 rfl
              have x1 : w6.cell? ⟨wc.heap.size, 1, none⟩ = some (.int .i64 0) := cellOf hh6 1 rfl
              obtain ⟨_, _, _, y41, y43, _, y52, y53⟩ := (mach_made hm6).cells
              clear hh6 hm6 hb6
              go_wp2
              go_ret
              exact ⟨by simp, HL6.out.below⟩
            · have ha' := toList_ne ha
              by_cases hb : lm < age
              · have hb' : (lm : Int) < age := hb
                have hh6 : w6.heap[wc.heap.size]? = some hostObj := (hb6.block _ (by simp; omega)).trans ((Below.heap_alloc _ _ _ (by simp; omega)).trans ((Below.heap_alloc _ _ _ (by omega)).trans HH5.out))
                have hm6 : w6.heap[wc.heap.size + 1]? = some (machObj name (mb % 12) wc.heap.size (lm * 1000000) (w.heap.size + 1) (.slice (some ⟨gf1, of1, none⟩) es1.length cf1)) := (hb6.block _ (by simp; omega)).trans ((Below.heap_alloc _ _ _ (by simp; omega)).trans ((Below.heap_alloc _ _ _ (by omega)).trans HM5.out))
                have HL6 : Hid (LR w es1 gf1 of1 cf1 gk1 ok1 ck1 ga1 oa1 ca1 w6) := (HL5.out.grow (below2 w5 _ _)).grow hb6
                have hl6 : (Builtin.len_ #[31] 3 #[.map (some (w.heap.size + 1))]).run Yba.prog w6 = .ok (.int .i64 es1.length) w6 := by
                  have := HL6.out.ms.len 3
                  simpa using this
                have x0 : w6.cell? ⟨wc.heap.size, 0, none⟩ = some (.int .i64 0) := cellOf hh6 0 rfl
                have x1 : w6.cell? ⟨wc.heap.size, 1, none⟩ = some (.int .i64 0) := cellOf hh6 1 rfl
                obtain ⟨_, _, _, y41, y43, _, y52, y53⟩ := (mach_made hm6).cells
                clear hh6 hm6 hb6
                go_wp2
                go_ret
                exact ⟨by simp, HL6.out.below⟩
              · have hc : (mb % 12 : Int) < pn := by
                  rcases hE with h | h | h
                  · exact absurd h ha
                  · exact absurd h hb
                  · exact h
                clear hE
                have hh6 : w6.heap[wc.heap.size]? = some hostObj := (hb6.block _ (by simp; omega)).trans ((Below.heap_alloc _ _ _ (by simp; omega)).trans ((Below.heap_alloc _ _ _ (by omega)).trans HH5.out))
                have hm6 : w6.heap[wc.heap.size + 1]? = some (machObj name (mb % 12) wc.heap.size (lm * 1000000) (w.heap.size + 1) (.slice (some ⟨gf1, of1, none⟩) es1.length cf1)) := (hb6.block _ (by simp; omega)).trans ((Below.heap_alloc _ _ _ (by simp; omega)).trans ((Below.heap_alloc _ _ _ (by omega)).trans HM5.out))
                have HL6 : Hid (LR w es1 gf1 of1 cf1 gk1 ok1 ck1 ga1 oa1 ca1 w6) := (HL5.out.grow (below2 w5 _ _)).grow hb6
                have hl6 : (Builtin.len_ #[31] 3 #[.map (some (w.heap.size + 1))]).run Yba.prog w6 = .ok (.int .i64 es1.length) w6 := by
                  have := HL6.out.ms.len 3
                  simpa using this
                have x0 : w6.cell? ⟨wc.heap.size, 0, none⟩ = some (.int .i64 0) := cellOf hh6 0 rfl
                have x1 : w6.cell? ⟨wc.heap.size, 1, none⟩ = some (.int .i64 0) := cellOf hh6 1 rfl
                obtain ⟨_, _, _, y41, y43, _, y52, y53⟩ := (mach_made hm6).cells
                clear hh6 hm6 hb6
                go_wp2
                go_ret
                exact ⟨by simp, HL6.out.below⟩
          · have ha : o' ≠ name := fun h => hE (.inl h)
            have hb : ¬ lm < age := fun h => hE (.inr (.inl h))
            have hc : ¬ (mb % 12 : Int) < pn := fun h => hE (.inr (.inr h))
            have ha' := toList_ne ha
            have hgk := HL5.out.bk
            have hga := HL5.out.ba
            have hgf := HL5.out.bf
            have hgkl := HL2.out.rk.lt
            have hgal := HL2.out.ra.lt
            have hgfl := HL2.out.rf.lt
            have hfk : gf1 ≠ gk1 := HL5.out.rf.apart HL5.out.rk (by decide)
            have hfa : gf1 ≠ ga1 := HL5.out.rf.apart HL5.out.ra (by decide)
            refine (hear_on (wc.heap.size + 1) name (mb % 12) wc.heap.size (lm * 1000000) (w.heap.size + 1) gf1 of1 cf1 es1.length (nsOf es1) o' id' age pa pn pc bs ⟨#[]⟩ (.slice none 0 0) 0 (nm * 1000000) (nsOf (es1.dropWhile (old nm))) (dropWhile_ns nm es1) _
              (by rw [nsOf_length]; exact HMZ.out) (by rw [nsOf_length]; exact ((HL5.out.rf.alloc _).alloc _)) (by rw [nsOf_keys]; exact (HL5.out.ms.alloc _).alloc _) HL5.out.fit.ns HGOOD.out
              ((Below.heap_alloc _ _ _ (by simp; omega)).trans ((Below.heap_alloc _ _ _ (by omega)).trans HH5.out)) (HBS5.out.below (below2 w5 _ _) (fun h0 a hh => by have := HPB.out h0 a hh; have := HL5.out.size; omega)) (by omega)
              (fun h0 a hh hq => by have := HPB.out h0 a hh; omega) (by unfold maxLen; omega) (by rw [nsOf_length]; omega) hage0 hage1 ha (by omega) hc (by omega) (by omega) (by omega) (by omega)).mono ?_
            rintro e w6 ⟨rfl, hA, hB⟩
            have HA : Hid (((o', id') ∈ (nsOf (es1.dropWhile (old nm))).map (·.1) ∨ 8192 ≤ (nsOf (es1.dropWhile (old nm))).length) → Dropped (wc.heap.size + 1) name (mb % 12) wc.heap.size (lm * 1000000) (w.heap.size + 1) gf1 es1.length (nsOf (es1.dropWhile (old nm))) ((w5.alloc (.cells #[.int .u64 (nm * 1000000 % 1000000000), .int .i64 (nm * 1000000 / 1000000000), .pointer none] 29)).alloc (.cells #[.string o', .int .u64 (id' : Int), .int .u32 age, .slice pa pn pc] 76)) w6) := hA
            have HB : Hid (¬ ((o', id') ∈ (nsOf (es1.dropWhile (old nm))).map (·.1) ∨ 8192 ≤ (nsOf (es1.dropWhile (old nm))).length) → Taken (wc.heap.size + 1) name (mb % 12) wc.heap.size (lm * 1000000) (w.heap.size + 1) gf1 es1.length (nsOf (es1.dropWhile (old nm))) o' id' age pa pn pc bs (nm * 1000000) ((w5.alloc (.cells #[.int .u64 (nm * 1000000 % 1000000000), .int .i64 (nm * 1000000 / 1000000000), .pointer none] 29)).alloc (.cells #[.string o', .int .u64 (id' : Int), .int .u32 age, .slice pa pn pc] 76)) w6) := hB
            clear hA hB hE
            obtain ⟨wt, added, g7, o7, n7, cap7, cnt, xs7, ks7, hV⟩ : ∃ wt added g7 o7 n7 cap7 cnt xs7 ks7, View (wc.heap.size + 1) wc.heap.size (w.heap.size + 1) gf1 name (mb % 12) (lm * 1000000) (es1.dropWhile (old nm)) ((w5.alloc (.cells #[.int .u64 (nm * 1000000 % 1000000000), .int .i64 (nm * 1000000 / 1000000000), .pointer none] 29)).alloc (.cells #[.string o', .int .u64 (id' : Int), .int .u32 age, .slice pa pn pc] 76)) w6 wt added g7 o7 n7 cap7 cnt xs7 ks7 := by
              by_cases hq : (o', id') ∈ (nsOf (es1.dropWhile (old nm))).map (·.1) ∨ 8192 ≤ (nsOf (es1.dropWhile (old nm))).length
              · exact (HA.out hq).view
              · exact (HB.out hq).view
            have HV := (show Hid _ from hV)
            have HRK6 : Hid (Row w6 38 2 gk1 ok1 es1.length ck1 (keyCells es1)) := hV.kept.row ((HL5.out.rk.alloc _).alloc _) (by omega)
            have HRA6 : Hid (Row w6 2 1 ga1 oa1 es1.length ca1 (atCells es1)) := hV.kept.row ((HL5.out.ra.alloc _).alloc _) (by omega)
            have HT6 : Hid (w6.heap[w5.heap.size]? = some (tmObj (nm * 1000000))) := (hV.kept.block _ (by simp; omega) (by omega)).trans ((Below.heap_alloc _ _ _ (by simp)).trans (heap_alloc_new w5 _))
            have HBL6 : Hid (Below w.heap.size w w6) := HL5.out.below.trans (((below2 w5 _ _).mono HL5.out.below.size).trans (hV.kept.below (by have := HL5.out.size; simp; omega) (fun k hk => by omega)))
            clear hV
            go_upto_block 4 with fail
            go_cut [45] from 252 to 265 (fun s wx => w6 = wx ∧ ∃ j : Nat, j ≤ es1.length ∧ s = .int .i64 j ∧ es1.dropWhile (old nm) = es1.drop j)
            case first =>
              go_wp2_with fail
              go_loopg [45] es1.length (fun gh s wx => w6 = wx ∧ ∃ j : Nat, j ≤ es1.length ∧ gh = es1.length - j ∧ s = .int .i64 j ∧ es1.dropWhile (old nm) = (es1.drop j).dropWhile (old nm))
              case atStart => exact ⟨rfl, 0, Nat.zero_le _, rfl, rfl, rfl⟩
              case round =>
                obtain ⟨rfl, j, hj, hg, rfl, hdw⟩ := hrel
                have HG : Hid (_ = es1.length - j) := hg
                have HDW : Hid (es1.dropWhile (old nm) = (es1.drop j).dropWhile (old nm)) := hdw
                clear hg hdw
                by_cases hjn : j < es1.length
                · have hjn' : (j : Int) < (es1.length : Int) := by omega
                  have hj0 : (0 : Int) ≤ (j : Int) := by omega
                  obtain ⟨e, he⟩ : ∃ e, es1[j]? = some e := ⟨_, List.getElem?_eq_getElem hjn⟩
                  have x0 := HRA6.out.cell j (atCells_at he)
                  have HE : Hid (es1[j]? = some e) := he
                  clear he
                  by_cases hle : e.2 ≤ nm
                  · go_wp2_with fail
                    go_roundg (es1.length - (j + 1))
                    case measure => rw [HG.out]; omega
                    case rel => exact ⟨rfl, j + 1, by omega, rfl, rfl, drop_go HDW.out HE.out hle⟩
                  · go_wp2
                    go_meet
                    exact ⟨rfl, j, hj, rfl, drop_stop HDW.out (.inr ⟨e, HE.out, by omega⟩)⟩
                · have hjn' : ¬ (j : Int) < (es1.length : Int) := by omega
                  go_wp2
                  go_meet
                  exact ⟨rfl, j, hj, rfl, drop_stop HDW.out (.inl (by omega))⟩
            case rest =>
              obtain ⟨rfl, j, hj, rfl, hdw⟩ := hcut
              rw [hdw] at HV HA HB
              clear hdw
              obtain ⟨rn, hrn⟩ : ∃ rn, es1.length - j = rn := ⟨_, rfl⟩
              have HRN : Hid (rn + j = es1.length) := by show _ = _; omega
              go_upto_region 50 with fail
              go_cut [46] from 266 to 268 (fun s wx => w6 = wx ∧ s = .int .i64 (rn : Int))
              case first =>
                go_wp2
                go_meet
                exact ⟨rfl, by congr 1; omega⟩
              case rest =>
                obtain ⟨rfl, rfl⟩ := hcut
                obtain ⟨_, _, _, y41, y43, _, y52, y53⟩ := HV.out.mach.cells
                go_upto_region 51 with fail
                go_cut [284] from 269 to 283 (fun s wx => s = .bool false ∧ ∃ q, wx = w6.drewN q)
                case first =>
                  by_cases hjn : j < es1.length
                  · obtain ⟨e, he⟩ : ∃ e, es1[j]? = some e := ⟨_, List.getElem?_eq_getElem hjn⟩
                    have hrp : (0 : Int) < (rn : Int) := by have := HRN.out; omega
                    have hrp2 : 0 < rn := by omega
                    have hrp3 : decide (0 < rn) = true := by simp [hrp2]
                    have hn7 : (0 : Int) < (n7 : Int) := by have := HV.out.len; simp at this; omega
                    have k0 := HRK6.out.cell (j * 2) (keyCells_at he).1
                    have k1 := HRK6.out.cell (j * 2 + 1) (keyCells_at he).2
                    rw [← Nat.add_assoc] at k1
                    have f0 : w6.cell? ⟨g7, o7, none⟩ = some (.string e.1.1) := by
                      have := HV.out.row.cell 0 (u := .string e.1.1) (by rw [drop_head he]; rfl)
                      simpa using this
                    have f1 : w6.cell? ⟨g7, o7 + 1, none⟩ = some (.int .u64 (e.1.2 : Int)) := HV.out.row.cell 1 (u := .int .u64 (e.1.2 : Int)) (by rw [drop_head he]; rfl)
                    have hjn' : (j : Int) < (es1.length : Int) := by omega
                    have hj0 : (0 : Int) ≤ (j : Int) := by omega
                    clear he
                    go_quiet (fail)
                    go_wp2
                    go_meet
                    exact ⟨rfl, _, rfl⟩
                  · have hr0 : rn = 0 := by have := HRN.out; omega
                    subst hr0
                    go_quiet (fail)
                    go_wp2
                    go_meet
                    exact ⟨rfl, _, rfl⟩
                case rest =>
                  obtain ⟨rfl, q, rfl⟩ := hcut
                  go_wp2_with fail
                  go_loopg [47] rn (fun gh s wx => ∃ i q : Nat, j ≤ i ∧ i ≤ es1.length ∧ gh = es1.length - i ∧ s = .int .i64 i ∧ wx = w6.drewN q)
                  case atStart => exact ⟨j, q, Nat.le_refl _, hj, hrn.symm, rfl, rfl⟩
                  case round =>
                    obtain ⟨i4, q4, hji, hin, hg, rfl, rfl⟩ := hrel
                    have HG : Hid (_ = es1.length - i4) := hg
                    clear hg
                    by_cases hi4 : i4 < es1.length
                    · have hi4' : (i4 : Int) < (es1.length : Int) := by omega
                      have hi40 : (0 : Int) ≤ (i4 : Int) := by omega
                      obtain ⟨e, he⟩ : ∃ e, es1[i4]? = some e := ⟨_, List.getElem?_eq_getElem hi4⟩
                      have k0 := HRK6.out.cell (i4 * 2) (keyCells_at he).1
                      have k1 := HRK6.out.cell (i4 * 2 + 1) (keyCells_at he).2
                      rw [← Nat.add_assoc] at k1
                      have hyes : ∀ q, (Instr.lookup 31 (.map (some (w.heap.size + 1))) (.agg #[.string e.1.1, .int .u64 (e.1.2 : Int)]) false).run Yba.prog (w6.drewN q) = .ok (.bool true) (w6.drewN q) := fun q => (HV.out.set.same (w' := w6.drewN q) rfl).yes e.1 (HL5.out.fit.1 e (List.mem_of_getElem? he)).1 (HV.out.sub e (mem_drop_of hji he))
                      clear he
                      go_wp2_with fail
                      go_quiet (fail)
                      go_wp2_with fail
                      go_roundg (es1.length - (i4 + 1))
                      case measure => rw [HG.out]; omega
                      case rel => exact ⟨i4 + 1, _, by omega, by omega, rfl, rfl, rfl⟩
                    · have hi4' : ¬ (i4 : Int) < (es1.length : Int) := by omega
                      clear hi4 hji hin HG
                      go_wp2_with fail
                      go_loopg [48, 49] rn (fun gh kn s wx => ∃ (i : Nat) (b : Bool), j ≤ i ∧ i ≤ es1.length ∧ gh = es1.length - i ∧ s = .int .i64 i ∧ kn = .bool b ∧ (b = true ↔ (o', id') ∈ ((es1.take i).drop j).map (·.1)) ∧ wx = w6.drewN q4)
                      case atStart => exact ⟨j, false, Nat.le_refl _, hj, hrn.symm, rfl, rfl, by simp, rfl⟩
                      case round =>
                        obtain ⟨i5, b5, hji, hin, hg, rfl, rfl, hb5, rfl⟩ := hrel
                        have HG : Hid (_ = es1.length - i5) := hg
                        have HB5' : Hid (b5 = true ↔ (o', id') ∈ ((es1.take i5).drop j).map (·.1)) := hb5
                        clear hg hb5
                        by_cases hi5 : i5 < es1.length
                        · have hi5' : (i5 : Int) < (es1.length : Int) := by omega
                          have hi50 : (0 : Int) ≤ (i5 : Int) := by omega
                          obtain ⟨e, he⟩ : ∃ e, es1[i5]? = some e := ⟨_, List.getElem?_eq_getElem hi5⟩
                          have k0 := HRK6.out.cell (i5 * 2) (keyCells_at he).1
                          have k1 := HRK6.out.cell (i5 * 2 + 1) (keyCells_at he).2
                          rw [← Nat.add_assoc] at k1
                          have HE : Hid (((es1.take (i5 + 1)).drop j).map (·.1) = ((es1.take i5).drop j).map (·.1) ++ [e.1]) := seen_succ hji he
                          clear he
                          by_cases s1 : e.1.1 = o'
                          · have s1' : (e.1.1.toList == o'.toList) = true := by rw [s1]; simp
                            by_cases s2 : e.1.2 = id'
                            · have s2' : ((e.1.2 : Int) == (id' : Int)) = true := by rw [s2]; simp
                              have HS : Hid (e.1 = (o', id')) := Prod.ext s1 s2
                              clear s1 s2
                              go_wp2_with fail
                              go_roundg (es1.length - (i5 + 1))
                              case measure => rw [HG.out]; omega
                              case rel => exact ⟨i5 + 1, true, by omega, by omega, rfl, rfl, rfl, by rw [HE.out, HS.out]; simp, rfl⟩
                            · have s2' : ((e.1.2 : Int) == (id' : Int)) = false := by simp; omega
                              have HS : Hid ((o', id') ≠ e.1) := fun h => s2 (by rw [← h])
                              clear s1 s2
                              go_wp2_with fail
                              go_roundg (es1.length - (i5 + 1))
                              case measure => rw [HG.out]; omega
                              case rel => exact ⟨i5 + 1, b5, by omega, by omega, rfl, rfl, rfl, by rw [HE.out, HB5'.out, List.mem_append, List.mem_singleton]; exact ⟨.inl, fun h => h.elim (fun h => h) (fun h => absurd h HS.out)⟩, rfl⟩
                          · have s1' : (e.1.1.toList == o'.toList) = false := toList_ne s1
                            have HS : Hid ((o', id') ≠ e.1) := fun h => s1 (by rw [← h])
                            clear s1
                            go_wp2_with fail
                            go_roundg (es1.length - (i5 + 1))
                            case measure => rw [HG.out]; omega
                            case rel => exact ⟨i5 + 1, b5, by omega, by omega, rfl, rfl, rfl, by rw [HE.out, HB5'.out, List.mem_append, List.mem_singleton]; exact ⟨.inl, fun h => h.elim (fun h => h) (fun h => absurd h HS.out)⟩, rfl⟩
                        · have hi5' : ¬ (i5 : Int) < (es1.length : Int) := by omega
                          have hKN : b5 = true ↔ (o', id') ∈ (es1.drop j).map (·.1) := by
                            have := HB5'.out
                            rwa [List.take_of_length_le (by omega)] at this
                          have HKN : Hid (b5 = true ↔ (o', id') ∈ (es1.drop j).map (·.1)) := hKN
                          clear hKN HB5' HG hji hin hi5
                          clear y41 y43 y52 y53
                          have hl8 : (nsOf (es1.drop j)).length = rn := by rw [nsOf_length, List.length_drop]; exact hrn
                          have HL8 : Hid ((nsOf (es1.drop j)).length = rn) := hl8
                          clear hl8
                          by_cases hK : (o', id') ∈ (es1.drop j).map (·.1) ∨ 8192 ≤ rn
                          · obtain ⟨o8, cap8, hm8, hr8, hs8, hk8⟩ := HA.out (by rw [nsOf_keys, HL8.out]; exact hK)
                            rw [HL8.out] at hm8
                            have hh8 : w6.heap[wc.heap.size]? = some hostObj := (hk8.block _ (by simp; omega) (by omega)).trans ((Below.heap_alloc _ _ _ (by simp; omega)).trans ((Below.heap_alloc _ _ _ (by omega)).trans HH5.out))
                            have hl6 : (Builtin.len_ #[31] 3 #[.map (some (w.heap.size + 1))]).run Yba.prog (w6.drewN q4) = .ok (.int .i64 rn) (w6.drewN q4) := by
                              have := (hs8.same (w' := w6.drewN q4) rfl).len 3
                              rw [List.length_map, HL8.out] at this
                              simpa using this
                            have x0 : w6.cell? ⟨wc.heap.size, 0, none⟩ = some (.int .i64 0) := cellOf hh8 0 rfl
                            have x1 : w6.cell? ⟨wc.heap.size, 1, none⟩ = some (.int .i64 0) := cellOf hh8 1 rfl
                            obtain ⟨_, _, _, y41, y43, _, y52, y53⟩ := hm8.cells
                            clear hm8 hr8 hs8 hk8 hh8
                            cases b5 with
                            | true =>
                              clear hK
                              go_wp2
                              go_ret
                              exact ⟨by simp, below_drewN HBL6.out q4⟩
                            | false =>
                              have h8 : 8192 ≤ rn := by
                                rcases hK with h | h
                                · exact absurd (HKN.out.2 h) (by simp)
                                · exact h
                              have h8' : (8192 : Int) ≤ (rn : Int) := by omega
                              clear hK
                              go_wp2
                              go_ret
                              exact ⟨by simp, below_drewN HBL6.out q4⟩
                          · have hb5 : b5 = false := by
                              cases b5 with
                              | false => rfl
                              | true => exact absurd (.inl (HKN.out.1 rfl)) hK
                            subst hb5
                            have h8 : ¬ (8192 : Int) ≤ (rn : Int) := fun h => hK (.inr (by omega))
                            obtain ⟨g8, o8, cap8, g1, cap1, nb, bb, p8, c8, hm8, hr8, hs8, hh8, hB8, hN8, hk8⟩ := HB.out (by rw [nsOf_keys, HL8.out]; exact hK)
                            clear hK
                            rw [HL8.out] at hm8 hr8
                            rw [nsOf_keys] at hs8
                            have HBP8 : BIn w6 pa pn bs := (HBS5.out.below (below2 w5 _ _) (fun h0 a hh => by have := HPB.out h0 a hh; have := HL5.out.size; omega)).kept hk8 (fun h0 a hh hc => by have := HPB.out h0 a hh; omega)
                            have HTK6 : Hid (TK (wc.heap.size + 1) wc.heap.size (w.heap.size + 1) name (mb % 12) (lm * 1000000) g1 cap1 g8 o8 cap8 rn nb bb (es1.length + 1) (nsOf (es1.drop j)) ((es1.drop j).map (·.1)) o' id' age p8 pa c8 pc pn bs (nm * 1000000) w5.heap.size w6) := ⟨hm8, hr8, hs8, hh8, hB8, HBP8, hN8, HT6.out⟩
                            clear hm8 hr8 hs8 hh8 hB8 hN8 hk8 HBP8
                            go_upto_region 64 with fail
                            go_cut [327] from 323 to 326 (fun s wx => s = .bool false ∧ ∃ x, x = wx ∧ Below w6.heap.size w6 x)
                            case first =>
                              go_wp2
                              go_meet
                              exact ⟨rfl, _, rfl, below_drewN (Below.refl _ _) q4⟩
                            case rest =>
                              obtain ⟨rfl, w7, rfl, hb7⟩ := hcut
                              have HTK7 : Hid (TK (wc.heap.size + 1) wc.heap.size (w.heap.size + 1) name (mb % 12) (lm * 1000000) g1 cap1 g8 o8 cap8 rn nb bb (es1.length + 1) (nsOf (es1.drop j)) ((es1.drop j).map (·.1)) o' id' age p8 pa c8 pc pn bs (nm * 1000000) w5.heap.size w7) := HTK6.out.below hb7
                              have HBL7 : Hid (Below w.heap.size w w7) := HBL6.out.trans (hb7.mono HBL6.out.size)
                              clear hb7
                              go_upto_region 66 with fail
                              go_cut [50] from 375 to 377 (fun s wx => s = .pointer (some ⟨w7.heap.size, 0, none⟩) ∧ ∃ x, x = wx ∧ Below w7.heap.size w7 x ∧ x.heap[w7.heap.size]? = some (.cells #[.string o', .int .u64 (id' : Int)] 38 (0, 0)))
                              case first =>
                                go_wp2
                                go_meet
                                exact ⟨rfl, _, rfl, below1 _ _, heap_alloc_new _ _⟩
                              case rest =>
                                obtain ⟨rfl, w8, rfl, hb8, hkey8⟩ := hcut
                                have HTK8 : Hid (TK (wc.heap.size + 1) wc.heap.size (w.heap.size + 1) name (mb % 12) (lm * 1000000) g1 cap1 g8 o8 cap8 rn nb bb (es1.length + 1) (nsOf (es1.drop j)) ((es1.drop j).map (·.1)) o' id' age p8 pa c8 pc pn bs (nm * 1000000) w5.heap.size w8) := HTK7.out.below hb8
                                rename_i K hK
                                refine hK _ _ ?_
                                exact (tail30 _ _ _ _ _ _ _ _ _ _ _ _ _ _ _ _ _ _ _ _ _ _ _ _ _ _ _ _ _ _ _ _ _ _ _ _ _ _ _ _ _ _ _ _ _ _ _ _ _ _ _ _ _ _ _ _ _ _ _ _ _ _ _ _ _ _ _ _ _ _ _ _ _ _ _ _ _ _ _ _ _ _ _ _ _ _ _ _ _ _ _ _ _ _ _ _ _ _ _ _ _ _ _ _ _ _ _ _ _ _ _ _ _ _ _ _ _ _ _ _ _ _ _ _ _ _ _ _ _ _ _ _ _ _ _ _ _ _ _ _ _ _ _ _ _ _ _ _ _ _ _ _ _ _ _ _ _ _ _ _ _ _ _ _ _ _ _ _ _ _ _ _ _ _ _ _ _ _ _ _ _ _ _ _ _ _ _ _ _ _ _ _ _ _ _ _ _ _ _ _ _ _ _ _ _ _ _ _ _ _ _ _ _ _ _ _ _ _ _ _ _ _ _ _ _ _ _ _ _ _ _ _ _ _ _ _ _ _ _ _ _ _ _ _ _ _ _ _ _ _ _ _ _ _ _ _ _ _ _ _ _ _ _ _ _ _ _ _ _ _ _ _ _ _ _ _ _ _ _ _ _ _ _ _ _ _ _ _ _ _ _ _ _ _ _ _ _ _ _ _ _ _ _ _ _ _ _ _ _ _ _ _ _ _ _ _ _ _ _ _ _ _ _ _ _ _ _ _ _ _ _ _ _ _ _ _ _ _ _ _ _ _ _ _ _ _ _ _ _ _ _ _ _ _ _ _ _ _ _ _ _ _ _ _ _ _ _ _ _ _ _ _ _ _ _ _ _ _ _ _ _ _ _ _ _ _ _ _ _ _ _ _ _ _ _ _ _ _ _ _ _ _ _ _ _ _ _ _ _ _ _ _ _ _ _ _ _ _ _ _ _ _ _ _ _ _ _ _ _ _ _ _ _ _ _ _ _ _ _ _ _ _ _ _ _ _ _ _ _ _ _ _ _ _ _ _ _ _ _ _ _ _ _ _ _ _ _ _ _ _ _ _ _ _ _ _ _ _ _ _ _ _ _ _ _ _ _ _ _ _ _ _ _ _ _ _ _ _ _ _ _ _ _ _ _ _ _ _ _ _ _ _ _ _ _ _ _ _ _ _ _ _ _ _ _ _ _ _ _ _ _ _ _ _ _ _ _ _ _ _ _ _ _ _ _ _ _ _ _ _ _ _ _ _ _ _ _ _ _ _ _ name (mb % 12) (lm * 1000000) g1 cap1 g8 o8 cap8 rn nb bb (es1.length + 1) _ _ o' id' age p8 pa c8 pc pn bs nm w5.heap.size w7.heap.size w w8 HTK8 hkey8 (HBL7.out.trans (hb8.mono HBL7.out.size)) HL8.out (by rw [List.length_map, List.length_drop]; exact hrn) HGOOD.out (by omega) (by omega) (by omega) hnm0 hnm1 hage0 hage1)
end Go.Proofs.Ybulkctoc.HT
