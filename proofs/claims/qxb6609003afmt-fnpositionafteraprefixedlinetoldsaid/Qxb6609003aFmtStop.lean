/-
  The closed facts for the walk over fmt.Sprintf's stop at this program, and the text that is told.
-/
import Derived.Test.Qxb6609003aFmtRows
import Derived.Stop.CallBack
import Derived.Stop.IfaceNil
import Derived.Stop.FmtTextKit
import Derived.Stop.FmtTextVerbs
import GoSem.ClaimData
namespace Go.Proofs.Qxb6609003aFmt
set_option linter.unusedVariables false
set_option linter.unusedSimpArgs false
open Go.Extern.Stop Go.Stop Go.Extern

theorem call17 (args : Array Value) (w : World) : (callFunc 17 args).run Tryf.prog w = ((FmtStop.sprintf #[9, 58] #[9] args).run Tryf.prog w).andThen fun v w' => .ok (.value v) w' :=
  run_callFunc_extern Tryf.func17 (by kernel_rfl) (by kernel_rfl) (by kernel_rfl) (by kernel_rfl) args w
theorem guardS (name : String) (w : World) : (FmtStop.guard name).run Tryf.prog w = .ok () w := by kernel_rfl
theorem fmt0 : FmtStop.printed? ⟨#[108, 105, 110, 101, 32, 37, 100, 44, 32, 99, 111, 108, 117, 109, 110, 32, 37, 100]⟩ 2 = some [(0, 100, false), (1, 100, false)] := by kernel_rfl
theorem fmt0r (w : World) : (FmtDoors.printed ⟨#[108, 105, 110, 101, 32, 37, 100, 44, 32, 99, 111, 108, 117, 109, 110, 32, 37, 100]⟩ 2).run Tryf.prog w = .ok [(0, 100, false), (1, 100, false)] w := by kernel_rfl
def shape3 : List UInt8 := [5, 3, 0, 0, 0, 0, 0, 0, 0, 105, 110, 116]
theorem op3_100 (name : String) (x : Int) (w : World) : (FmtStop.operand name false 100 false (.iface 3 (.int .i64 x))).run Tryf.prog w = .ok (shape3, Go.Extern.Stop.digits 8 (x % 2 ^ 64).toNat) w := by kernel_rfl
theorem op3_118 (name : String) (x : Int) (w : World) : (FmtStop.operand name false 118 false (.iface 3 (.int .i64 x))).run Tryf.prog w = .ok (shape3, Go.Extern.Stop.digits 8 (x % 2 ^ 64).toNat) w := by kernel_rfl
theorem strict3 (name : String) (x : Int) (w : World) : (FmtStop.strict name (.iface 3 (.int .i64 x))).run Tryf.prog w = .ok (shape3, Go.Extern.Stop.digits 8 (x % 2 ^ 64).toNat) w := by kernel_rfl

/-- WHAT fmt IS ASKED. -/
def reading (x y : Int) : List (List UInt8) :=
  [[108, 105, 110, 101, 32, 37, 100, 44, 32, 99, 111, 108, 117, 109, 110, 32, 37, 100], shape3, digits 8 (x % 18446744073709551616).toNat, shape3, digits 8 (y % 18446744073709551616).toNat]

/-- The text. -/
def posText (x y : Int) : List UInt8 := [108, 105, 110, 101, 32] ++ Lib.itoa x ++ [44, 32, 99, 111, 108, 117, 109, 110, 32] ++ Lib.itoa y

theorem t_parse : (FmtText.parse [108, 105, 110, 101, 32, 37, 100, 44, 32, 99, 111, 108, 117, 109, 110, 32, 37, 100]).map FmtText.glue = some [.lit [108, 105, 110, 101, 32], .verb {} 100, .lit [44, 32, 99, 111, 108, 117, 109, 110, 32], .verb {} 100] := by rfl

theorem t_text (x y : Int) (hx : (Lit.int .i64 x).wf = true) (hy : (Lit.int .i64 y).wf = true) : FmtText.text "fmt.Sprintf" (reading x y) = some (posText x y) := by
  have h1 := FmtText.operand_int_at (sh := shape3) (k := .i64) rfl rfl x hx
  have h2 := FmtText.operand_int_at (sh := shape3) (k := .i64) rfl rfl y hy
  rw [reading, FmtText.text_sprintf_glued t_parse (FmtText.operands_cons h1 (FmtText.operands_cons h2 FmtText.operands_nil))]
  simp [FmtText.render, FmtText.printArg_d _ _ hx, FmtText.printArg_d _ _ hy, posText]

end Go.Proofs.Qxb6609003aFmt
