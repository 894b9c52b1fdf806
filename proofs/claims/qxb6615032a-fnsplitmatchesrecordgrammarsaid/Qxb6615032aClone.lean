import Derived.Test.Qxb6615032aBase
namespace Go.Proofs.Qxb6615032a
set_option linter.unusedVariables false
set_option linter.unusedSimpArgs false
open Go.RowKit

theorem set_get {c : Array Value} {k n : Nat} (hs : c.size = n) (hk : k < n) (v : Value) (P : Nat → Value) (h : ∀ j, j < k → c[j]? = some (P j)) (hv : v = P k) :
    ∀ j, j < k + 1 → (c.setIfInBounds k v)[j]? = some (P j) := by
  intro j hj
  by_cases e : j = k
  · subst e; subst hv; simp [hs, hk]
  · rw [Array.getElem?_setIfInBounds_ne (by omega)]; exact h j (by omega)

set_option maxHeartbeats 400000 in
theorem clone_some (b o cap : Nat) (l : List Int) (w : World) (hl : l.length ≤ 2097152) (hc : ∀ i, i < l.length → w.cell? ⟨b, o + i, none⟩ = some (.int .u8 (l.getD i 0))) :
    Calls Try.prog 13 #[.slice (some ⟨b, o, none⟩) l.length cap] w fun e w' => e = .returned (.slice (some ⟨w.heap.size, 0, none⟩) l.length l.length) ∧ w' = w.alloc (.cells (row l) 5) := by
  have hmk := run_make_row' (P := Try.prog) 29 5 (.int .u8 0) 1 Try.underlying29 Try.info5 rfl .i64 .i64 l.length (by omega) (by omega)
  have q22 : ∀ (w : World) (a : Option Addr) (n c n' c' : Nat), (binOp .eql 29 (.slice a n c) (.slice none n' c')).run Try.prog w = .ok (.bool a.isNone) w := fun w a n c n' c' => Lib.run_eql_slice_nil w _ _ a n c n' c' Try.underlying29
  go_enter Try.func13, Try.ntmps13
  go_wp2
  go_loopw [4] (fun i wr => ∃ (k : Nat) (c : Array Value), k ≤ l.length ∧ i = .int .i64 k ∧ wr = w.alloc (.cells c 5) ∧ c.size = l.length ∧ ∀ j, j < k → c[j]? = some (.int .u8 (l.getD j 0))) (fun i _ => l.length - (intOf i).toNat)
  case atStart => exact ⟨0, _, Nat.zero_le _, rfl, rfl, by simp [madeCells], fun j hj => absurd hj (by omega)⟩
  case round =>
    obtain ⟨k, c, hk, rfl, rfl, hcs, hrow⟩ := hrel
    have HR : Hid (∀ j, j < k → c[j]? = some (.int .u8 (l.getD j 0))) := hrow
    have HC : Hid (∀ i, i < l.length → w.cell? ⟨b, o + i, none⟩ = some (.int .u8 (l.getD i 0))) := hc
    have HS : Hid (c.size = l.length) := hcs
    clear hrow hc
    by_cases hlt : k < l.length
    · have f1 := HC.out k hlt
      have hb := World.block_lt_of_cell? w _ f1
      go_wp2
      go_roundw
      case rel => exact ⟨k + 1, _, by omega, by go_num, rfl, by rw [Array.size_setIfInBounds]; exact HS.out, set_get HS.out hlt _ (fun j => .int .u8 (l.getD j 0)) HR.out (by simp [List.getD, hlt])⟩
      case measure => simp [intOf]; omega
    · go_wp2
      go_ret
      obtain rfl : k = l.length := by omega
      exact ⟨rfl, by rw [row_of HS.out HR.out]⟩

set_option maxHeartbeats 400000 in
theorem clone_none (w : World) :
    Calls Try.prog 13 #[.slice none 0 0] w fun e w' => e = .returned (.slice none 0 0) ∧ w' = w := by
  have q22 : ∀ (w : World) (a : Option Addr) (n c n' c' : Nat), (binOp .eql 29 (.slice a n c) (.slice none n' c')).run Try.prog w = .ok (.bool a.isNone) w := fun w a n c n' c' => Lib.run_eql_slice_nil w _ _ a n c n' c' Try.underlying29
  go_enter Try.func13, Try.ntmps13
  go_wp2
  go_ret
  exact ⟨rfl, rfl⟩

set_option maxHeartbeats 400000 in
theorem clone_zero (x : Addr) (cap : Nat) (w : World) :
    Calls Try.prog 13 #[.slice (some x) 0 cap] w fun e w' => e = .returned (.slice (some ⟨w.heap.size, 0, none⟩) 0 0) ∧ w' = w.alloc (.cells #[] 5) := by
  have hmk : ∀ w, (Instr.makeSlice 29 (.int .i64 0) (.int .i64 0)).run Try.prog w = .ok (.slice (some ⟨w.heap.size, 0, none⟩) 0 0) (w.alloc (.cells #[] 5)) := fun _ => by kernel_rfl
  have q22 : ∀ (w : World) (a : Option Addr) (n c n' c' : Nat), (binOp .eql 29 (.slice a n c) (.slice none n' c')).run Try.prog w = .ok (.bool a.isNone) w := fun w a n c n' c' => Lib.run_eql_slice_nil w _ _ a n c n' c' Try.underlying29
  go_enter Try.func13, Try.ntmps13
  go_wp2
  refine wp_loop_rounds 1 ?_
  rw [rounds_succ]
  go_wp2
  go_ret
  exact ⟨rfl, rfl⟩

/-- zzCloneBytes at every slice: a slice of its own of the same bytes; nothing old has turned. -/
theorem clone (ao : Option Addr) (cap : Nat) (l : List Int) (w : World) (H : Txt w ao l) (hn : ao = none → cap = 0) :
    Calls Try.prog 13 #[.slice ao l.length cap] w fun e w' => ∃ ao', e = .returned (.slice ao' l.length l.length) ∧ Own w.heap.size w' ao' l ∧ Below w.heap.size w w' := by
  cases ao with
  | none =>
    have h0 : l = [] := by
      by_cases h : 0 < l.length
      · obtain ⟨b, o, e, _⟩ := H.2 h; cases e
      · exact List.eq_nil_of_length_eq_zero (by omega)
    subst h0
    rw [hn rfl]
    refine (clone_none w).mono ?_
    rintro e w' ⟨rfl, rfl⟩
    exact ⟨none, rfl, Or.inl ⟨rfl, rfl⟩, Below.refl _ _⟩
  | some x =>
    by_cases h : 0 < l.length
    · obtain ⟨b, o, e, hc⟩ := H.2 h
      obtain rfl := Option.some.inj e
      refine (clone_some b o cap l w H.1 hc).mono ?_
      rintro e w' ⟨rfl, rfl⟩
      exact ⟨_, rfl, Or.inr ⟨w.heap.size, Nat.le_refl _, rfl, heap_alloc_new w _⟩, (Below.refl _ _).alloc (Nat.le_refl _) _⟩
    · have h0 : l = [] := List.eq_nil_of_length_eq_zero (by omega)
      subst h0
      refine (clone_zero x cap w).mono ?_
      rintro e w' ⟨rfl, rfl⟩
      exact ⟨_, rfl, Or.inr ⟨w.heap.size, Nat.le_refl _, rfl, heap_alloc_new w _⟩, (Below.refl _ _).alloc (Nat.le_refl _) _⟩

end Go.Proofs.Qxb6615032a
