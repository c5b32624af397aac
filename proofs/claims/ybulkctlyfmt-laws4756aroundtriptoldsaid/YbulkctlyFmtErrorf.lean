/- THE CONTRACT OF 'fmt.Errorf' (9) AT parseSegments' FORMAT: it hands back an error that is not nil; for every F. -/
import Derived.Test.YbulkctlyFmtVarint
import Derived.Stop.CallBack
import Derived.Stop.IfaceNil
import Derived.Laws.Cells
import Derived.Stop.FmtTextSlices
import GoSem.ClaimData
namespace Go.Proofs.YbulkctlyFmt.FV
open Go.ChangeShapes Go.WideShapes Go.ChangeAt Go.RowKit Go.Proofs.YbulkctlyFmt.FP Go.Extern.Stop Go.Stop Go.Extern
set_option linter.unusedVariables false

theorem call11 (args : Array Value) (w : World) : (callFunc 11 args).run Ybaf.prog w = ((FmtStop.errorf #[9, 42] #[26] args).run Ybaf.prog w).andThen fun v w' => .ok (.value v) w' :=
  run_callFunc_extern Ybaf.func11 (by kernel_rfl) (by kernel_rfl) (by kernel_rfl) (by kernel_rfl) args w
theorem guard (name : String) (w : World) : (FmtStop.guard name).run Ybaf.prog w = .ok () w := by kernel_rfl

def fmtS : ByteArray := ⟨#[110, 111, 116, 32, 97, 32, 115, 101, 116, 32, 111, 102, 32, 115, 101, 103, 109, 101, 110, 116, 115, 32, 98, 101, 102, 111, 114, 101, 32, 115, 101, 103, 109, 101, 110, 116, 32, 37, 100, 58, 32, 37, 120]⟩
theorem fmt0 : FmtStop.printed? ⟨#[110, 111, 116, 32, 97, 32, 115, 101, 116, 32, 111, 102, 32, 115, 101, 103, 109, 101, 110, 116, 115, 32, 98, 101, 102, 111, 114, 101, 32, 115, 101, 103, 109, 101, 110, 116, 32, 37, 100, 58, 32, 37, 120]⟩ 2 = some [(0, 100, false), (1, 120, false)] := by kernel_rfl
theorem fmt0r (w : World) : (FmtDoors.printed ⟨#[110, 111, 116, 32, 97, 32, 115, 101, 116, 32, 111, 102, 32, 115, 101, 103, 109, 101, 110, 116, 115, 32, 98, 101, 102, 111, 114, 101, 32, 115, 101, 103, 109, 101, 110, 116, 32, 37, 100, 58, 32, 37, 120]⟩ 2).run Ybaf.prog w = .ok [(0, 100, false), (1, 120, false)] w := by kernel_rfl

def shape3 : List UInt8 := [5, 3, 0, 0, 0, 0, 0, 0, 0, 105, 110, 116]
theorem op3_100 (name : String) (x : Int) (w : World) : (FmtStop.operand name false 100 false (.iface 3 (.int .i64 x))).run Ybaf.prog w = .ok (shape3, Go.Extern.Stop.digits 8 (x % 2 ^ 64).toNat) w := by kernel_rfl
theorem op3_100w (name : String) (x : Int) (w : World) : (FmtStop.operand name true 100 false (.iface 3 (.int .i64 x))).run Ybaf.prog w = .ok (shape3, Go.Extern.Stop.digits 8 (x % 2 ^ 64).toNat) w := by kernel_rfl

def shape22 : List UInt8 := 13 :: (FmtStop.pack "[]uint8".toUTF8.data.toList ++ 6 :: FmtStop.pack "uint8".toUTF8.data.toList)
theorem value5 (name : String) (x : Int) (w : World) : (FmtStop.value name FmtStop.depth 5 [.int .u8 x]).run Ybaf.prog w = .ok (digits 8 (x % 2 ^ 64).toNat) w := by kernel_rfl
theorem values5 (name : String) (w : World) : ∀ xs : List Int, (List.mapM ((fun c => FmtStop.value name FmtStop.depth 5 [c]) ∘ Value.int IntKind.u8) xs).run Ybaf.prog w = .ok (xs.map fun x => digits 8 (x % 18446744073709551616).toNat) w
  | [] => by simp [List.mapM_nil]
  | x :: xs => by
    have ih := values5 name w xs
    have h := value5 name x w
    simp [List.mapM_cons, h, ih, Result.andThen]

theorem opBytes (name : String) (wr : Bool) (a : Addr) (cap : Nat) (xs : List Int) (w : World) (hc : ∀ j v, (xs.map (Value.int .u8))[j]? = some v → w.cell? (a.add j) = some v) :
    (FmtStop.operand name wr 120 false (.iface 22 (.slice (some a) xs.length cap))).run Ybaf.prog w = .ok (shape22, 1 :: (digits 8 xs.length ++ FmtText.intValues xs)) w := by
  have h1 : (typeStr 22).run Ybaf.prog w = .ok "[]uint8" w := by kernel_rfl
  have d2 : Ybaf.t22.desc = .slice 5 := rfl
  have hb : (FmtStop.bare (FmtStop.asked wr 120 false) 22).run Ybaf.prog w = .ok true w := by cases wr <;> kernel_rfl
  have hs : (FmtStop.scalar 5).run Ybaf.prog w = .ok true w := by kernel_rfl
  have hy : (Extern.Stop.isByte 5).run Ybaf.prog w = .ok true w := by kernel_rfl
  have hw : Ybaf.prog.funcs.any (·.name == FmtStop.writeWord) = true := by kernel_rfl
  have hsh : (FmtStop.shape name (FmtStop.asked wr 120 false) FmtStop.depth 5).run Ybaf.prog w = .ok (6 :: FmtStop.pack "uint8".toUTF8.data.toList) w := by cases wr <;> kernel_rfl
  have hl := run_loadCells_list (P := Ybaf.prog) w a (xs.map (Value.int .u8)) hc
  rw [List.length_map] at hl
  simp [FmtStop.operand, h1, hb, hs, hy, hsh, hl, values5, shape22, FmtText.intValues]
  intro hno
  obtain ⟨i, hi, _, _, he⟩ := Array.any_iff_exists.1 hw
  exact absurd (by simpa using he) (hno i hi)

theorem ptrE (w : World) : (FmtStop.ptrTo "errors.errorString").run Ybaf.prog w = .ok 45 w := by kernel_rfl
theorem elemE (w : World) : (elemOf 45).run Ybaf.prog w = .ok 47 w := by kernel_rfl

theorem answers_open {F : Interp} {w : World} (h : F.answers w.tape) : ∀ i name reading k range, w.tape i (.extern (word name reading k) range) = F name reading k := h

set_option maxRecDepth 100000 in
set_option maxHeartbeats 400000 in
theorem errorf_any (F : Interp) (vb : Nat) (upto : Int) (a : Addr) (cap : Nat) (xs : List Int) (w : World) (hF : F.answers w.tape)
    (h0 : w.cell? ⟨vb, 0, none⟩ = some (.iface 3 (.int .i64 upto))) (h1 : w.cell? ⟨vb, 1, none⟩ = some (.iface 22 (.slice (some a) xs.length cap)))
    (hc : ∀ j v, (xs.map (Value.int .u8))[j]? = some v → w.cell? (a.add j) = some v) :
    Calls Ybaf.prog 9 #[.string ⟨#[110, 111, 116, 32, 97, 32, 115, 101, 116, 32, 111, 102, 32, 115, 101, 103, 109, 101, 110, 116, 115, 32, 98, 101, 102, 111, 114, 101, 32, 115, 101, 103, 109, 101, 110, 116, 32, 37, 100, 58, 32, 37, 120]⟩, .slice (some ⟨vb, 0, none⟩) 2 2] w fun e w' => (∃ p, e = .returned (.iface 45 (.pointer (some p)))) ∧ Below w.heap.size w w' := by
  have hF' := answers_open hF
  have k1 := call11
  have k2 := guard
  have k3 := fmt0
  have k4 := fmt0r
  have k5 := op3_100
  have k6 := op3_100w
  have k7 := fun nm wr => opBytes nm wr a cap xs w hc
  have k8 := ptrE
  have k9 := elemE
  go_enter Ybaf.func9, Ybaf.ntmps9
  go_wp2
  go_ret
  exact ⟨⟨_, rfl⟩, ((Below.refl _ w).alloc (Nat.le_refl _) _).drew⟩
end Go.Proofs.YbulkctlyFmt.FV
