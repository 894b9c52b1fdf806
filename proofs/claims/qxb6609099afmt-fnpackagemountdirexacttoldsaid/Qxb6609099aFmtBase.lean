/-
  What the walks of this seat share; the closed facts for the walk over fmt.errorf's stop.
-/
import Derived.Test.Qxb6609099aFmtRows
import Derived.Test.Qxb6609099aFmtPlain
import Derived.Test.Qxb6609099aFmtShelf
import Derived.WalkKit
import Derived.WalkSpells
import Derived.WalkLawsBesides
import Derived.Deep.QuietTactic
import Derived.BigQuiet
import Derived.Deep.LoopGhost
import Derived.Deep.OwnRows
import Derived.Stop.CallBack
import Derived.Stop.IfaceNil
import Derived.Laws.DeepStrings4
import GoSem.ClaimData
namespace Go.Proofs.Qxb6609099aFmt
set_option linter.unusedVariables false
set_option linter.unusedSimpArgs false
open Go.RowKit
open Go.Extern.Stop Go.Stop Go.Extern

theorem hid {p : Prop} (h : p) : Hid p := h

theorem by_list {s : ByteArray} {l : List UInt8} (h : s.data.toList = l) : s = ⟨l.toArray⟩ := by
  cases s with
  | mk a => subst h; simp

theorem call32 (args : Array Value) (w : World) : (callFunc 32 args).run Tryf.prog w = ((FmtStop.errorf #[9, 49] #[27] args).run Tryf.prog w).andThen fun v w' => .ok (.value v) w' :=
  run_callFunc_extern Tryf.func32 (by kernel_rfl) (by kernel_rfl) (by kernel_rfl) (by kernel_rfl) args w
theorem guardS (name : String) (w : World) : (FmtStop.guard name).run Tryf.prog w = .ok () w := by kernel_rfl

def fmtA : ByteArray := ⟨#[37, 115, 32, 37, 113, 32, 105, 115, 32, 110, 111, 116, 32, 97, 32, 115, 105, 110, 103, 108, 101, 32, 112, 97, 116, 104, 32, 101, 108, 101, 109, 101, 110, 116]⟩
def fmtB : ByteArray := ⟨#[112, 97, 99, 107, 97, 103, 101, 32, 37, 115, 58, 32, 114, 101, 118, 105, 115, 105, 111, 110, 32, 37, 100, 32, 105, 115, 32, 110, 111, 116, 32, 97, 32, 112, 111, 115, 105, 116, 105, 118, 101, 32, 110, 117, 109, 98, 101, 114]⟩
theorem fmt0 : FmtStop.printed? fmtA 2 = some [(0, 115, false), (1, 113, false)] := by kernel_rfl
theorem fmt0r (w : World) : (FmtDoors.printed fmtA 2).run Tryf.prog w = .ok [(0, 115, false), (1, 113, false)] w := by kernel_rfl
theorem fmt1 : FmtStop.printed? fmtB 2 = some [(0, 115, false), (1, 100, false)] := by kernel_rfl
theorem fmt1r (w : World) : (FmtDoors.printed fmtB 2).run Tryf.prog w = .ok [(0, 115, false), (1, 100, false)] w := by kernel_rfl
theorem fmt0c : fmtA.data.contains 37 = true := by kernel_rfl
theorem fmt1c : fmtB.data.contains 37 = true := by kernel_rfl
def shape3 : List UInt8 := [5, 3, 0, 0, 0, 0, 0, 0, 0, 105, 110, 116]
def shape9 : List UInt8 := [12, 6, 0, 0, 0, 0, 0, 0, 0, 115, 116, 114, 105, 110, 103]
theorem op3_100 (name : String) (x : Int) (w : World) : (FmtStop.operand name true 100 false (.iface 3 (.int .i64 x))).run Tryf.prog w = .ok (shape3, Go.Extern.Stop.digits 8 (x % 2 ^ 64).toNat) w := by kernel_rfl
theorem op9_115 (name : String) (x : ByteArray) (w : World) : (FmtStop.operand name true 115 false (.iface 9 (.string x))).run Tryf.prog w = .ok (shape9, FmtStop.pack x.data.toList) w := by kernel_rfl
theorem op9_113 (name : String) (x : ByteArray) (w : World) : (FmtStop.operand name true 113 false (.iface 9 (.string x))).run Tryf.prog w = .ok (shape9, FmtStop.pack x.data.toList) w := by kernel_rfl
theorem ptr60 (w : World) : (FmtStop.ptrTo "errors.errorString").run Tryf.prog w = .ok 60 w := by kernel_rfl
theorem elem60 (w : World) : (elemOf 60).run Tryf.prog w = .ok 62 w := by kernel_rfl

end Go.Proofs.Qxb6609099aFmt
