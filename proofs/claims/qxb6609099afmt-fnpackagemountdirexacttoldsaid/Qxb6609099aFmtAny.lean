/-
  strings.IndexRune with a slash and a NUL, at the rune error.
-/
import Derived.Test.Qxb6609099aFmtBase
import Derived.Laws.Runes
import Derived.WalkMore
import Derived.Laws.RangeAny
import Derived.Lib.IndexAny
import Derived.Lib.DecodeN
import Derived.Lib.RuneCountTail
namespace Go.Proofs.Qxb6609099aFmt
set_option linter.unusedVariables false
set_option linter.unusedSimpArgs false
open Go.RowKit Plain

def C0 : ByteArray := ⟨#[47, 0]⟩

theorem below_drewN {B : Nat} {a w : World} (h : Below B a w) (n : Nat) : Below B a (w.drewN n) := h.trans ⟨rfl, rfl, rfl, Nat.le_refl _, fun _ _ => rfl⟩
theorem below_iter (w : World) (s : ByteArray) (p : Nat) : Below w.heap.size w (w.iter s p) := (Below.refl _ _).alloc (Nat.le_refl _) _

set_option maxHeartbeats 2000000 in
set_option maxRecDepth 100000 in
theorem rune_error (w : World) : Calls Tryf.prog 37 #[.string C0, .int .i32 65533] w fun e w' => e = .returned (.int .i64 (-1)) ∧ Below w.heap.size w w' := by
  go_enter Tryf.func37, Tryf.ntmps37
  go_wp2
  go_loopg [5, 6] 2 (fun g _ _ wx => ∃ i : Nat, i + g = 2 ∧ wx = w.iter C0 i)
  case atStart => exact ⟨0, rfl, rfl⟩
  case round =>
    obtain ⟨i, hig, rfl⟩ := hrel
    cases gk with
    | zero =>
      obtain rfl : i = 2 := by omega
      have hnx := fun ty => run_next_end (P := Tryf.prog) w C0 2 ty (by decide)
      have HBi := hid (below_iter w C0 2)
      go_wp2
      go_ret
      exact ⟨rfl, HBi.out⟩
    | succ g =>
      have : i = 0 ∨ i = 1 := by omega
      rcases this with rfl | rfl
      · have hnx := fun ty => run_next_ascii (P := Tryf.prog) w C0 0 ty (by decide) (by decide)
        have e0 : (C0[0]'(by decide)).toNat = 47 := rfl
        rw [e0] at hnx
        go_wp2
        go_roundg g
        case measure => omega
        case rel => exact ⟨1, by omega, rfl⟩
      · have hnx := fun ty => run_next_ascii (P := Tryf.prog) w C0 1 ty (by decide) (by decide)
        have e0 : (C0[1]'(by decide)).toNat = 0 := rfl
        rw [e0] at hnx
        go_wp2
        go_roundg g
        case measure => omega
        case rel => exact ⟨2, by omega, rfl⟩

end Go.Proofs.Qxb6609099aFmt
