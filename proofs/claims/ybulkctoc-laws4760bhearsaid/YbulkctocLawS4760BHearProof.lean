/- THE PROOF OF 'Rows.LawS4760BHearSaid' (the walk: YbulkctocWalk). -/
import Derived.Test.YbulkctocWalk
import Derived.Test.YbulkctocOpen
import Derived.WalkKit
import Derived.ProofKit
import Derived.OpenShut
import Derived.ShutString
import Derived.ChangeOld
import Derived.Below
namespace Go.Proofs.Ybulkctoc.lawS4760BHear
open Go.ChangeShapes Go.WideShapes Go.ChangeAt Go.RowKit
open Go.ChangeMaps (open_string shut_string)
set_option linter.unusedVariables false
/- Too long an input: true at once. -/
set_option maxRecDepth 400000 in
theorem law_long (name origin : ByteArray) (sm : Bool) (reuse id : Nat) (age : Int) (pa : Option Addr) (pn pc : Nat) (mb : Nat) (lm nm : Int) (qa : Option Addr) (qn qc : Nat) (fl : Bool) (w : World) (h : 1024 < qn ∨ 1048576 < pn) :
    Calls Yba.prog 3 #[.string name, .string origin, .bool sm, .int .u8 reuse, .int .u64 id, .int .u32 age, .slice pa pn pc, .int .u8 mb, .int .u16 lm, .int .i32 nm, .slice qa qn qc, .bool fl] w fun e w' => e = .returned (.bool true) ∧ Below w.heap.size w w' := by
  by_cases h1 : 1024 < qn
  · have h1' : (1024 : Int) < (qn : Int) := by omega
    go_enter Yba.func3, Yba.ntmps3
    go_wp2
    go_ret
    exact ⟨by simp, Below.refl _ _⟩
  · have h1' : ¬ (1024 : Int) < (qn : Int) := by omega
    have h2' : (1048576 : Int) < (pn : Int) := by omega
    go_enter Yba.func3, Yba.ntmps3
    go_wp2
    go_ret
    exact ⟨by simp, Below.refl _ _⟩
theorem own : ownKnob Yba.prog.godebug = none := by kernel_rfl
theorem laidOut : laidOutB Yba.prog = true := by kernel_rfl

theorem walk (name origin : ByteArray) (sm : Bool) (reuse id age : Int) (pa : Option Addr) (pn pc : Nat) (mb lm nm : Int) (qa : Option Addr) (qn qc : Nat) (fl : Bool) (w : World) (ps : List (HT.Key × Nat)) (bs : List Int)
    (wr : (Lit.int .u8 reuse).wf = true) (wi : (Lit.int .u64 id).wf = true) (wa : (Lit.int .u32 age).wf = true) (wm : (Lit.int .u8 mb).wf = true) (wl : (Lit.int .u16 lm).wf = true) (wn : (Lit.int .i32 nm).wf = true)
    (hname : name.size ≤ maxLen) (horig : origin.size ≤ maxLen) (hps : HT.PIn w qa qn ps) (hbs : HT.BIn w pa pn bs) (hpb : 0 < pn → ∀ a, pa = some a → a.block < w.heap.size) :
    Calls Yba.prog 3 #[.string name, .string origin, .bool sm, .int .u8 reuse, .int .u64 id, .int .u32 age, .slice pa pn pc, .int .u8 mb, .int .u16 lm, .int .i32 nm, .slice qa qn qc, .bool fl] w fun e w' => e = .returned (.bool true) ∧ Below w.heap.size w w' := by
  have b1 := bounds_u8 wr
  have b2 := bounds_u64 wi
  have b3 := bounds_u32 wa
  have b4 := bounds_u8 wm
  have b5 := bounds_u16 wl
  have b6 := bounds_i32 wn
  obtain ⟨r, rfl⟩ : ∃ r : Nat, reuse = r := ⟨reuse.toNat, by omega⟩
  obtain ⟨i, rfl⟩ : ∃ r : Nat, id = r := ⟨id.toNat, by omega⟩
  obtain ⟨m, rfl⟩ : ∃ r : Nat, mb = r := ⟨mb.toNat, by omega⟩
  by_cases h0 : qn ≤ 1024 ∧ pn ≤ 1048576
  · exact HT.law_walk name origin sm r i age pa pn pc m lm nm qa qn qc ps fl w h0.1 h0.2 b5.1 (by omega) hps hname horig (by omega) (by omega) (by omega) b6.1 b6.2 b3.1 (by omega) bs hbs hpb
  · exact law_long name origin sm r i age pa pn pc m lm nm qa qn qc fl w (by omega)

/-! ### THE ROW's STEP -/
set_option maxRecDepth 100000 in
theorem lifted (os : Os) (started : os.Started) (H : Type) (enc : TypeId × Value → H) :
    ReturnsInHanded {} Yba.checked os 3 .any (Rows.lawS4760BHearSpec.pre6 enc Yba.prog Yba.f3 Rows.lawS4760BHearRow.domain false) (Rows.lawS4760BHearSpec.post enc Yba.prog Yba.f3 false true false false) := by
  refine returnsInHanded_of_change (C := Yba.checked) own started (by kernel_rfl) Yba.func3
    (ChangeSpec.witness6 (enc := enc) (C := Yba.checked) false ⟨#[], #[.string ⟨#[]⟩, .string ⟨#[]⟩, .bool false, .int .u8 0, .int .u64 0, .int .u32 0, .slice none 0 0, .int .u8 0, .int .u16 0, .int .i32 0, .slice none 0 0, .bool false], []⟩ 8 (by kernel_rfl) (by kernel_rfl) (by kernel_rfl) (by kernel_rfl)) ?_
  intro W base args ds gs before hval0 hW hcnd _
  have hval : ∀ (j : Nat) t v, Yba.f3.params[j]? = some t → args[j]? = some v → Value.okWide Yba.prog W .any base t v := hval0
  have hW' := hW
  obtain ⟨p, q, hA0, hV, rfl, hfz, hnd⟩ := hW
  have hA : DataW.TrodAll enc Yba.prog W 0 (fun _ => true) true Yba.f3.params.toList args.toList ds p := hA0
  rw [Yba.params3] at hA hval
  obtain ⟨v0, vs0, d0, ds0, p0, q0, hargs, rfl, rfl, h0, r0⟩ := trodAll_cons hA
  obtain ⟨v1, vs1, d1, ds1, p1, q1, rfl, rfl, rfl, h1, r1⟩ := trodAll_cons r0
  obtain ⟨v2, vs2, d2, ds2, p2, q2, rfl, rfl, rfl, h2, r2⟩ := trodAll_cons r1
  obtain ⟨v3, vs3, d3, ds3, p3, q3, rfl, rfl, rfl, h3, r3⟩ := trodAll_cons r2
  obtain ⟨v4, vs4, d4, ds4, p4, q4, rfl, rfl, rfl, h4, r4⟩ := trodAll_cons r3
  obtain ⟨v5, vs5, d5, ds5, p5, q5, rfl, rfl, rfl, h5, r5⟩ := trodAll_cons r4
  obtain ⟨v6, vs6, d6, ds6, p6, q6, rfl, rfl, rfl, h6, r6⟩ := trodAll_cons r5
  obtain ⟨v7, vs7, d7, ds7, p7, q7, rfl, rfl, rfl, h7, r7⟩ := trodAll_cons r6
  obtain ⟨v8, vs8, d8, ds8, p8, q8, rfl, rfl, rfl, h8, r8⟩ := trodAll_cons r7
  obtain ⟨v9, vs9, d9, ds9, p9, q9, rfl, rfl, rfl, h9, r9⟩ := trodAll_cons r8
  obtain ⟨v10, vs10, d10, ds10, p10, q10, rfl, rfl, rfl, h10, r10⟩ := trodAll_cons r9
  obtain ⟨v11, vs11, d11, ds11, p11, q11, rfl, rfl, rfl, h11, r11⟩ := trodAll_cons r10
  obtain ⟨rfl, rfl, rfl⟩ := trodAll_nil r11
  obtain rfl : args = #[v0, v1, v2, v3, v4, v5, v6, v7, v8, v9, v10, v11] := by cases args; simp_all
  obtain ⟨rfl, rfl⟩ := trodVars_none hV
  obtain ⟨s0, rfl, rfl, rfl, w0⟩ := open_string Yba.underlying9 (hval 0 9 v0 rfl rfl) h0
  obtain ⟨s1, rfl, rfl, rfl, w1⟩ := open_string Yba.underlying9 (hval 1 9 v1 rfl rfl) h1
  obtain ⟨a2, rfl, rfl, rfl⟩ := open_bool Yba.underlying4 (hval 2 4 v2 rfl rfl) h2
  obtain ⟨a3, rfl, rfl, rfl, w3⟩ := open_int Yba.underlying5 (hval 3 5 v3 rfl rfl) h3
  obtain ⟨a4, rfl, rfl, rfl, w4⟩ := open_int Yba.underlying22 (hval 4 22 v4 rfl rfl) h4
  obtain ⟨a5, rfl, rfl, rfl, w5⟩ := open_int Yba.underlying23 (hval 5 23 v5 rfl rfl) h5
  obtain ⟨a6, len6, cap6, rfl⟩ := okWide_slice Yba.underlying24 (hval 6 24 v6 rfl rfl)
  obtain ⟨a7, rfl, rfl, rfl, w7⟩ := open_int Yba.underlying5 (hval 7 5 v7 rfl rfl) h7
  obtain ⟨a8, rfl, rfl, rfl, w8⟩ := open_int Yba.underlying25 (hval 8 25 v8 rfl rfl) h8
  obtain ⟨a9, rfl, rfl, rfl, w9⟩ := open_int Yba.underlying21 (hval 9 21 v9 rfl rfl) h9
  obtain ⟨a10, len10, cap10, rfl⟩ := okWide_slice Yba.underlying26 (hval 10 26 v10 rfl rfl)
  obtain ⟨a11, rfl, rfl, rfl⟩ := open_bool Yba.underlying4 (hval 11 4 v11 rfl rfl) h11
  have k6 := h6
  have lt6 : ∀ x ∈ p6, x.block < W.heap.size := by obtain ⟨m, hm⟩ := k6; exact DataW.trod_lt m _ _ _ hm
  have k10 := h10
  have lt10 : ∀ x ∈ p10, x.block < W.heap.size := by obtain ⟨m, hm⟩ := k10; exact DataW.trod_lt m _ _ _ hm
  obtain ⟨bs, hbs, hpb⟩ := HT.open_bytes h6
  obtain ⟨ps, hps⟩ := HT.open_priors h10
  clear hA0 hval0
  refine (walk s0 s1 a2 a3 a4 a5 a6 len6 cap6 a7 a8 a9 a10 len10 cap10 a11 W ps bs w3 w4 w5 w7 w8 w9 w0 w1 hps hbs hpb).mono fun e W' ⟨he, bel⟩ => ?_
  subst he
  exact ⟨_, rfl, _, _, _, [], _, [], hW', trodAll_mk1 (shut_bool Yba.underlying4 _),
    (trodAll_cons_mk (shut_string Yba.underlying9 w0) (trodAll_cons_mk (shut_string Yba.underlying9 w1) (trodAll_cons_mk (shut_bool Yba.underlying4 _) (trodAll_cons_mk (shut_int Yba.underlying5 w3) (trodAll_cons_mk (shut_int Yba.underlying22 w4) (trodAll_cons_mk (shut_int Yba.underlying23 w5)
      (trodAll_cons_mk (Below.trod laidOut (by kernel_rfl) (of_decide_eq_true (by kernel_rfl)) k6 bel lt6) (trodAll_cons_mk (shut_int Yba.underlying5 w7) (trodAll_cons_mk (shut_int Yba.underlying25 w8) (trodAll_cons_mk (shut_int Yba.underlying21 w9)
      (trodAll_cons_mk (Below.trod laidOut (by kernel_rfl) (of_decide_eq_true (by kernel_rfl)) k10 bel lt10) (trodAll_cons_mk (shut_bool Yba.underlying4 _) trodAll_mk0)))))))))))), rfl, bel.frame _, fun h => by cases h⟩

theorem over : Rows.lawS4760BHearRow.holds Yba.pinned (OpenSpec.ofChange Rows.lawS4760BHearSpec) :=
  OpenClaim.holds_of_wide 3 Yba.f3 rfl rfl rfl rfl rfl rfl rfl ⟨rfl, rfl, rfl, rfl, rfl⟩ rfl rfl rfl rfl rfl (by kernel_rfl) Yba.func3 (by kernel_rfl)
    (of_decide_eq_true (by kernel_rfl)) (by unfold Func.isWrapper; first | (rw [if_pos (by decide +kernel)]; kernel_rfl) | (rw [if_neg (by decide +kernel)]; exact ⟨rfl, rfl⟩))
    (fun os started H enc _ => lifted os started H enc)

end Go.Proofs.Ybulkctoc.lawS4760BHear
namespace Go.Proofs.Ybulkctoc
/-- THE STATEMENT -/
theorem lawS4760BHear_proved : Rows.LawS4760BHearSaid := lawS4760BHear.over
end Go.Proofs.Ybulkctoc
