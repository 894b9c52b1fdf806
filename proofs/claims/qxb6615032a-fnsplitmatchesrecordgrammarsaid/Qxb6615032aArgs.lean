/-
  A slice of bytes that came in, as a list.
-/
import Derived.Test.Qxb6615032aBase
import Derived.OpenShut
namespace Go.Proofs.Qxb6615032a
set_option linter.unusedVariables false
set_option linter.unusedSimpArgs false
open Go.RowKit

theorem open_row {w : World} {a : Option Addr} {len cap : Nat} {zs : List Int} (h : (a = none ∧ len = 0 ∧ cap = 0 ∧ zs = []) ∨
    ∃ x, a = some x ∧ len ≤ cap ∧ cap ≤ maxLen ∧ zs.length = cap ∧ (∀ i, i < zs.length → w.cell? (x.add i) = some (.int .u8 (zs.getD i 0))) ∧ ∀ n ∈ zs, (Lit.int .u8 n).wf = true) :
    ∃ l : List Int, l.length = len ∧ len ≤ cap ∧ (a = none → cap = 0) ∧ len ≤ 9223372036854775807 ∧ (∀ x ∈ l, 0 ≤ x ∧ x < 256) ∧ (len ≤ 2097152 → Txt w a l) := by
  rcases h with ⟨rfl, rfl, rfl, rfl⟩ | ⟨x, rfl, hl, hm, hz, hc, hw⟩
  · exact ⟨[], rfl, Nat.le_refl _, fun _ => rfl, by omega, by simp, fun _ => ⟨by simp, by simp⟩⟩
  · have hlen : (zs.take len).length = len := by simp; omega
    refine ⟨zs.take len, hlen, hl, (by simp), by unfold maxLen at hm; omega, ?_, fun hb => ⟨by omega, fun h0 => ?_⟩⟩
    · intro y hy
      have := bounds_u8 (hw y (List.mem_of_mem_take hy))
      omega
    · obtain ⟨b, o, rfl, hcell⟩ := ints_at hc (by omega)
      refine ⟨b, o, rfl, fun i hi => ?_⟩
      have hi' : i < len := by omega
      rw [hcell i (by omega)]
      simp [List.getD, hi']

end Go.Proofs.Qxb6615032a
