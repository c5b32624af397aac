/- WHAT THE LAW's LAST CHECKS READ, WHERE THE BROADCAST WAS TAKEN IN. -/
import Derived.Test.YbulkctocView
namespace Go.Proofs.Ybulkctoc.HT
open Go.ChangeShapes Go.WideShapes Go.ChangeAt Go.RowKit
set_option linter.unusedVariables false

structure TK (m h mp : Nat) (name : ByteArray) (maxB L : Int) (g1 cap1 g8 o8 cap8 rn nb bb cnt : Nat) (rs : List Ent) (ks : List Key) (origin : ByteArray) (id : Nat) (age : Int) (p8 pa : Option Addr) (c8 pc pn : Nat) (bs : List Int) (now : Int) (tb : Nat) (x : World) : Prop where
  mach : Mach x m name maxB h L mp (.slice (some ⟨g1, 0, none⟩) 1 cap1) 1 (.slice (some ⟨g8, o8, none⟩) (rn + 1) cap8)
  row : Row x 41 5 g8 o8 (rn + 1) cap8 (ents (rs ++ [((origin, id), now + 2 * L)]))
  set : MSet x mp cnt (ks ++ [(origin, id)])
  host : HostIs x h 1 0 origin (.slice p8 pn c8) now
  b1 : BIn x p8 pn bs
  b2 : BIn x pa pn bs
  news : News x g1 cap1 nb bb origin id age (.slice pa pn pc) (now + -(age * 1000000))
  tm : x.heap[tb]? = some (tmObj now)

section
variable {m h mp : Nat} {name : ByteArray} {maxB L : Int} {g1 cap1 g8 o8 cap8 rn nb bb cnt : Nat} {rs : List Ent} {ks : List Key} {origin : ByteArray} {id : Nat} {age : Int} {p8 pa : Option Addr} {c8 pc pn : Nat} {bs : List Int} {now : Int} {tb : Nat} {x y : World}
theorem heap_lt {w : World} {b : Nat} {o : Obj} (h : w.heap[b]? = some o) : b < w.heap.size := (Array.getElem?_eq_some_iff.1 h).1
theorem TK.below (t : TK m h mp name maxB L g1 cap1 g8 o8 cap8 rn nb bb cnt rs ks origin id age p8 pa c8 pc pn bs now tb x) (hb : Below x.heap.size x y) : TK m h mp name maxB L g1 cap1 g8 o8 cap8 rn nb bb cnt rs ks origin id age p8 pa c8 pc pn bs now tb y :=
  ⟨t.mach.same (hb.block _ t.mach.lt), t.row.same (hb.block _ t.row.lt), t.set.same (hb.block _ t.set.lt), (hb.block _ (heap_lt t.host)).trans t.host, t.b1.kept (Kept.of_below (S := fun _ => False) hb) (fun _ _ _ h => h), t.b2.kept (Kept.of_below (S := fun _ => False) hb) (fun _ _ _ h => h),
    ⟨t.news.1.same (hb.block _ t.news.1.lt), (hb.block _ (heap_lt t.news.2.1)).trans t.news.2.1, (hb.block _ (heap_lt t.news.2.2)).trans t.news.2.2⟩, (hb.block _ (heap_lt t.tm)).trans t.tm⟩
theorem TK.times (t : TK m h mp name maxB L g1 cap1 g8 o8 cap8 rn nb bb cnt rs ks origin id age p8 pa c8 pc pn bs now tb x) : x.cell? ⟨tb, 0, none⟩ = some (.int .u64 (now % 1000000000)) ∧ x.cell? ⟨tb, 1, none⟩ = some (.int .i64 (now / 1000000000)) ∧ x.cell? ⟨tb, 2, none⟩ = some (.pointer none) :=
  ⟨cellOf t.tm 0 rfl, cellOf t.tm 1 rfl, cellOf t.tm 2 rfl⟩
theorem TK.hosts (t : TK m h mp name maxB L g1 cap1 g8 o8 cap8 rn nb bb cnt rs ks origin id age p8 pa c8 pc pn bs now tb x) : x.cell? ⟨h, 0, none⟩ = some (.int .i64 1) ∧ x.cell? ⟨h, 1, none⟩ = some (.int .i64 0) ∧ x.cell? ⟨h, 2, none⟩ = some (.string origin) ∧ x.cell? ⟨h, 3, none⟩ = some (.slice p8 pn c8) ∧
    x.cell? ⟨h, 4, none⟩ = some (.int .u64 (now % 1000000000)) ∧ x.cell? ⟨h, 5, none⟩ = some (.int .i64 (now / 1000000000)) ∧ x.cell? ⟨h, 6, none⟩ = some (.pointer none) :=
  ⟨cellOf t.host 0 rfl, cellOf t.host 1 rfl, cellOf t.host 2 rfl, cellOf t.host 3 rfl, cellOf t.host 4 rfl, cellOf t.host 5 rfl, cellOf t.host 6 rfl⟩
theorem TK.last (t : TK m h mp name maxB L g1 cap1 g8 o8 cap8 rn nb bb cnt rs ks origin id age p8 pa c8 pc pn bs now tb x) (hl : rs.length = rn) : x.cell? ⟨g8, o8 + rn * 5, none⟩ = some (.string origin) ∧ x.cell? ⟨g8, o8 + rn * 5 + 1, none⟩ = some (.int .u64 (id : Int)) ∧
    x.cell? ⟨g8, o8 + rn * 5 + 2, none⟩ = some (.int .u64 ((now + 2 * L) % 1000000000)) ∧ x.cell? ⟨g8, o8 + rn * 5 + 3, none⟩ = some (.int .i64 ((now + 2 * L) / 1000000000)) ∧ x.cell? ⟨g8, o8 + rn * 5 + 4, none⟩ = some (.pointer none) := by
  have hr := t.row
  rw [ents_snoc] at hr
  have hlen := ents_length rs
  rw [hl] at hlen
  have at' : ∀ j u, (ent ((origin, id), now + 2 * L))[j]? = some u → x.cell? ⟨g8, o8 + rn * 5 + j, none⟩ = some u := fun j u hu => by
    have := hr.cell (rn * 5 + j) (u := u) (by rw [List.getElem?_append_right (by omega)]; rw [show rn * 5 + j - (ents rs).length = j from by omega]; exact hu)
    rwa [← Nat.add_assoc] at this
  exact ⟨at' 0 _ rfl, at' 1 _ rfl, at' 2 _ rfl, at' 3 _ rfl, at' 4 _ rfl⟩
theorem TK.newsCells (t : TK m h mp name maxB L g1 cap1 g8 o8 cap8 rn nb bb cnt rs ks origin id age p8 pa c8 pc pn bs now tb x) : x.cell? ⟨g1, 0, none⟩ = some (.pointer (some ⟨nb, 0, none⟩)) ∧ x.cell? ⟨nb, 11, none⟩ = some (.pointer (some ⟨bb, 0, none⟩)) ∧
    x.cell? ⟨nb, 12, none⟩ = some (.int .u64 ((now + -(age * 1000000)) % 1000000000)) ∧ x.cell? ⟨nb, 13, none⟩ = some (.int .i64 ((now + -(age * 1000000)) / 1000000000)) ∧ x.cell? ⟨nb, 14, none⟩ = some (.pointer none) ∧ x.cell? ⟨nb, 16, none⟩ = some (.int .u64 1) ∧ x.cell? ⟨nb, 18, none⟩ = some (.bool true) ∧
    x.cell? ⟨bb, 0, none⟩ = some (.string origin) ∧ x.cell? ⟨bb, 1, none⟩ = some (.int .u64 (id : Int)) ∧ x.cell? ⟨bb, 2, none⟩ = some (.int .u32 age) ∧ x.cell? ⟨bb, 3, none⟩ = some (.slice pa pn pc) :=
  ⟨t.news.1.cell 0 rfl, cellOf t.news.2.1 11 rfl, cellOf t.news.2.1 12 rfl, cellOf t.news.2.1 13 rfl, cellOf t.news.2.1 14 rfl, cellOf t.news.2.1 16 rfl, cellOf t.news.2.1 18 rfl, cellOf t.news.2.2 0 rfl, cellOf t.news.2.2 1 rfl, cellOf t.news.2.2 2 rfl, cellOf t.news.2.2 3 rfl⟩
end
end Go.Proofs.Ybulkctoc.HT
