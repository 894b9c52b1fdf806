/-
  The start that is shown to be there; the table that strconv reads; the closed facts of the told and tied cards.
-/
import Derived.Test.Qxb6609099aFmtMount
import Derived.Test.Qxb6609099aFmtCards
import Derived.Test.Qxb6609099aFmtTie
import Derived.ProofKit
import Derived.OpenShut
import Derived.Stop.JoinedAt
import Derived.Stop.Texts
import Derived.Stop.JoinedTold
import Derived.Stop.LaidErr
import Derived.Lib.LaidTab
import Derived.SevenToldRow
import Derived.SevenTiedAt
namespace Go.Proofs.Qxb6609099aFmt
set_option linter.unusedVariables false
set_option linter.unusedSimpArgs false
open Go.ChangeShapes Go.WideShapes Go.ChangeAt Go.RowKit Go.Kit
open Go.Extern.Stop Go.Stop Go.Extern

theorem own : ownKnob Tryf.prog.godebug = none := by kernel_rfl
theorem laidOut : laidOutB Tryf.prog = true := by kernel_rfl
theorem stopsAre : Tryf.pinned.checked.prog.stops = ["fmt.errorf"] := by kernel_rfl
theorem stopKnobs : Tryf.pinned.checked.prog.stopKnobs = [] := by kernel_rfl
theorem quietAt (os : Os) : Stop.quiet Tryf.pinned.checked.prog os := by
  intro k hk
  rw [stopKnobs] at hk
  cases hk

def over (cs : Array Value) : Obj → Obj
  | .cells _ t frozen => .cells cs t frozen
  | o => o
def tab32 : List Int := [0, 1, 28, 2, 29, 14, 24, 3, 30, 22, 20, 15, 25, 17, 4, 8, 31, 27, 13, 23, 21, 19, 16, 7, 26, 12, 18, 6, 11, 5, 10, 9]
def tab64 : List Int := [0, 1, 56, 2, 57, 49, 28, 3, 61, 58, 42, 50, 38, 29, 17, 4, 62, 47, 59, 36, 45, 43, 51, 22, 53, 39, 33, 30, 24, 18, 12, 5, 63, 55, 48, 27, 60, 41, 37, 16, 46, 35, 44, 21, 52, 32, 23, 11, 54, 26, 40, 15, 34, 20, 31, 10, 25, 14, 19, 9, 13, 8, 7, 6]
/-- The three tables laid. -/
def putLaid (w : World) : World := { w with heap := ((w.heap.modify 0 (over (Lib.pow10Tab.map (Value.int .u64)).toArray)).modify 2 (over (tab32.map (Value.int .u8)).toArray)).modify 3 (over (tab64.map (Value.int .u8)).toArray) }

def laidList : List (String × DataW Unit) := Rows.fnPackageMountDirExactRow.laid

set_option maxRecDepth 1000000 in
theorem laid_met (os : Os) (args : Array Value) : laidMet Tryf.prog laidList ((putLaid (World.holding Tryf.prog os ⟨#[], #[], []⟩)).forCall (fun _ _ => 0) ⟨#[], args, []⟩).memory :=
  laidMet_of_run' 8 (by kernel_rfl) (by kernel_rfl)

theorem laid_split : laidList = laidList.take 2 ++ [(powName, Lib.tabData .u64 Lib.pow10Tab)] := by kernel_rfl

theorem tab_of {W : World} (hL : laidMet Tryf.prog laidList W) : Tab W := by
  rw [laid_split] at hL
  have h2 : laidMet Tryf.prog [(powName, Lib.tabData .u64 Lib.pow10Tab)] W := laidMet.tail (laidMet.tail hL)
  exact Lib.tabIs_of_head (g := 0) (t := 88) (e := 69) (n := 20) (by kernel_rfl) (by kernel_rfl) Tryf.underlying88 Tryf.underlying69 (by kernel_rfl) (by kernel_rfl) h2

end Go.Proofs.Qxb6609099aFmt
