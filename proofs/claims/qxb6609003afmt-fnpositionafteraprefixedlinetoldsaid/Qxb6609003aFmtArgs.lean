/-
  A slice of bytes that came in, as a list; fmt's text is told.
-/
import Derived.Test.Qxb6609003aFmtBuf
import Derived.Test.Qxb6609003aFmtCards
import Derived.ProofKit
import Derived.OpenShut
import Derived.ChangeSlices
import Derived.Stop.JoinedAt
import Derived.Stop.Texts
import Derived.Stop.JoinedTold
import Derived.SevenToldRow
namespace Go.Proofs.Qxb6609003aFmt
set_option linter.unusedVariables false
set_option linter.unusedSimpArgs false
open Go.ChangeShapes Go.WideShapes Go.ChangeAt Go.RowKit Go.Kit
open Go.Extern.Stop Go.Stop Go.Extern

theorem own : ownKnob Tryf.prog.godebug = none := by kernel_rfl
theorem laidOut : laidOutB Tryf.prog = true := by kernel_rfl
theorem stopsAre : Tryf.pinned.checked.prog.stops = ["fmt.Sprintf"] := by kernel_rfl
theorem stopKnobs : Tryf.pinned.checked.prog.stopKnobs = [] := by kernel_rfl
theorem quietAt (os : Os) : Stop.quiet Tryf.pinned.checked.prog os := by
  intro k hk
  rw [stopKnobs] at hk
  cases hk

theorem open_row {w : World} {a : Option Addr} {len cap : Nat} {zs : List Int} (h : (a = none ∧ len = 0 ∧ cap = 0 ∧ zs = []) ∨
    ∃ x, a = some x ∧ len ≤ cap ∧ cap ≤ maxLen ∧ zs.length = cap ∧ (∀ i, i < zs.length → w.cell? (x.add i) = some (.int .u8 (zs.getD i 0))) ∧ ∀ n ∈ zs, (Lit.int .u8 n).wf = true) :
    ∃ l : List Int, l.length = len ∧ (∀ x ∈ l, 0 ≤ x ∧ x < 256) ∧ BufI w a cap l := by
  rcases h with ⟨rfl, rfl, rfl, rfl⟩ | ⟨x, rfl, hl, hm, hz, hc, hw⟩
  · exact ⟨[], rfl, by simp, Or.inl ⟨rfl, rfl, rfl⟩⟩
  · have hlen : (zs.take len).length = len := by simp; omega
    refine ⟨zs.take len, hlen, ?_, Or.inr ⟨x, rfl, by omega, fun h0 => ?_⟩⟩
    · intro y hy
      have := bounds_u8 (hw y (List.mem_of_mem_take hy))
      omega
    · obtain ⟨b, o, rfl, hcell⟩ := ints_at hc (by omega)
      refine ⟨b, o, rfl, fun i hi => ?_⟩
      have hi' : i < len := by omega
      rw [hcell i (by omega)]
      simp [List.getD, hi']

theorem wf_nat (x : Nat) (h : x ≤ 4194304) : (Lit.int .i64 (x : Int)).wf = true := by
  have e1 : IntKind.i64.min = -9223372036854775808 := by decide
  have e2 : IntKind.i64.max = 9223372036854775807 := by decide
  simp [Lit.wf, e1, e2]; omega

theorem tells (F : Interp) : Tells F.told := by
  intro x y hx hy
  have hl : (posText x y).length < 2 ^ 63 := by
    have h1 := Plain.dec_len x (by omega)
    have h2 := Plain.dec_len y (by omega)
    simp [posText, Lib.itoa_nonneg]
    omega
  have h := told_string F (t_text x y (wf_nat x hx) (wf_nat y hy)) hl
  apply by_list
  rw [textOf_list]
  exact h

end Go.Proofs.Qxb6609003aFmt
