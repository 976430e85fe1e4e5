/-
  THE CLOSED FACTS FOR A WALK OVER fmt's STOPPED FRONT (seat b1217aF), after the guide's CheckFmt and TagSlice.
-/
import Derived.Test.YbulkyeiFmtRows
import Derived.Stop.CallBack
import Derived.Stop.IfaceNil
import Derived.Laws.Cells
import Derived.WalkKit
import Derived.WalkSpells
namespace Go.Proofs.YbulkyeiFmt
open Go.RowKit Go.Extern.Stop Go.Stop Go.Extern

@[go_sem] theorem call9 (args : Array Value) (w : World) : (callFunc 9 args).run Ybaf.prog w = ((FmtStop.errorf #[9, 38] #[28] args).run Ybaf.prog w).andThen fun v w' => .ok (.value v) w' :=
  run_callFunc_extern Ybaf.func9 (by kernel_rfl) (by kernel_rfl) (by kernel_rfl) (by kernel_rfl) args w
@[go_sem] theorem guard (name : String) (w : World) : (FmtStop.guard name).run Ybaf.prog w = .ok () w := by kernel_rfl

@[go_sem] theorem fmtA : FmtStop.printed? ⟨#[117, 110, 107, 110, 111, 119, 110, 32, 111, 112, 101, 114, 97, 116, 105, 111, 110, 32, 37, 113, 58, 32, 105, 116, 32, 105, 115, 32, 112, 117, 116, 44, 32, 100, 101, 108, 101, 116, 101, 32, 111, 114, 32, 103, 101, 116]⟩ 1 = some [(0, 113, false)] := by kernel_rfl
@[go_sem] theorem fmtAr (w : World) : (FmtDoors.printed ⟨#[117, 110, 107, 110, 111, 119, 110, 32, 111, 112, 101, 114, 97, 116, 105, 111, 110, 32, 37, 113, 58, 32, 105, 116, 32, 105, 115, 32, 112, 117, 116, 44, 32, 100, 101, 108, 101, 116, 101, 32, 111, 114, 32, 103, 101, 116]⟩ 1).run Ybaf.prog w = .ok [(0, 113, false)] w := by kernel_rfl
@[go_sem] theorem fmtB : FmtStop.printed? ⟨#[107, 118, 58, 32, 117, 110, 107, 110, 111, 119, 110, 32, 111, 112, 101, 114, 97, 116, 105, 111, 110, 32, 37, 100]⟩ 1 = some [(0, 100, false)] := by kernel_rfl
@[go_sem] theorem fmtBr (w : World) : (FmtDoors.printed ⟨#[107, 118, 58, 32, 117, 110, 107, 110, 111, 119, 110, 32, 111, 112, 101, 114, 97, 116, 105, 111, 110, 32, 37, 100]⟩ 1).run Ybaf.prog w = .ok [(0, 100, false)] w := by kernel_rfl

def shape5 : List UInt8 := [6, 5, 0, 0, 0, 0, 0, 0, 0, 117, 105, 110, 116, 56]
@[go_sem] theorem op5_100w (name : String) (x : Int) (w : World) : (FmtStop.operand name true 100 false (.iface 5 (.int .u8 x))).run Ybaf.prog w = .ok (shape5, Go.Extern.Stop.digits 8 (x % 2 ^ 64).toNat) w := by kernel_rfl

@[go_sem] theorem ptr41 (w : World) : (FmtStop.ptrTo "errors.errorString").run Ybaf.prog w = .ok 41 w := by kernel_rfl
@[go_sem] theorem elem41 (w : World) : (elemOf 41).run Ybaf.prog w = .ok 43 w := by kernel_rfl
@[go_sem] theorem isError41 (w : World) : (FmtDoors.textMethod 41 "Error").run Ybaf.prog w = .ok true w := by kernel_rfl
@[go_sem] theorem ptr40 (w : World) : (FmtStop.ptrTo "fmt.wrapError").run Ybaf.prog w = .ok 40 w := by kernel_rfl
@[go_sem] theorem elem40 (w : World) : (elemOf 40).run Ybaf.prog w = .ok 61 w := by kernel_rfl
@[go_sem] theorem isError40 (w : World) : (FmtDoors.textMethod 40 "Error").run Ybaf.prog w = .ok true w := by kernel_rfl

/-! ### A slice of bytes as an operand under q -/
theorem shape_u8 (name : String) (w : World) : (FmtStop.shape name (FmtStop.asked true 113 false) FmtStop.depth 5).run Ybaf.prog w = .ok (6 :: FmtStop.pack "uint8".toUTF8.data.toList) w := by kernel_rfl
def shape22 : List UInt8 := 13 :: (FmtStop.pack "[]uint8".toUTF8.data.toList ++ 6 :: FmtStop.pack "uint8".toUTF8.data.toList)
theorem value5 (name : String) (x : Int) (w : World) : (FmtStop.value name FmtStop.depth 5 [.int .u8 x]).run Ybaf.prog w = .ok (digits 8 (x % 2 ^ 64).toNat) w := by kernel_rfl
theorem values5 (name : String) (w : World) : ∀ xs : List Int, (List.mapM ((fun c => FmtStop.value name FmtStop.depth 5 [c]) ∘ Value.int IntKind.u8) xs).run Ybaf.prog w = .ok (xs.map fun x => digits 8 (x % 18446744073709551616).toNat) w
  | [] => by simp [List.mapM_nil]
  | x :: xs => by
    have ih := values5 name w xs
    have h := value5 name x w
    simp [List.mapM_cons, h, ih, Result.andThen]

theorem opBytes (name : String) (a : Addr) (cap : Nat) (xs : List Int) (w : World) (hc : ∀ j v, (xs.map (Value.int .u8))[j]? = some v → w.cell? (a.add j) = some v) :
    ∃ val, (FmtStop.operand name true 113 false (.iface 22 (.slice (some a) xs.length cap))).run Ybaf.prog w = .ok (shape22, val) w := by
  have h1 : (typeStr 22).run Ybaf.prog w = .ok "[]uint8" w := by kernel_rfl
  have hb : (FmtStop.bare (FmtStop.asked true 113 false) 22).run Ybaf.prog w = .ok true w := by kernel_rfl
  have hs : (FmtStop.scalar 5).run Ybaf.prog w = .ok true w := by kernel_rfl
  have hy : (Extern.Stop.isByte 5).run Ybaf.prog w = .ok true w := by kernel_rfl
  have hsh := shape_u8 name w
  have hl := run_loadCells_list (P := Ybaf.prog) w a (xs.map (Value.int .u8)) hc
  have hw : Ybaf.prog.funcs.any (·.name == FmtStop.writeWord) = true := by kernel_rfl
  rw [List.length_map] at hl
  refine ⟨1 :: (digits 8 xs.length ++ (xs.map fun x => digits 8 (x % 18446744073709551616).toNat).flatten), ?_⟩
  simp [FmtStop.operand, h1, hb, hs, hy, hsh, hl, values5, shape22]
  intro hno
  obtain ⟨i, hi, _, _, he⟩ := Array.any_iff_exists.1 hw
  exact absurd (by simpa using he) (hno i hi)

end Go.Proofs.YbulkyeiFmt
