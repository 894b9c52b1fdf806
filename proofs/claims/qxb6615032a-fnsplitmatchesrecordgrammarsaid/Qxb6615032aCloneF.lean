/-
  zzCloneFields.
-/
import Derived.Test.Qxb6615032aRead
namespace Go.Proofs.Qxb6615032a
set_option linter.unusedVariables false
set_option linter.unusedSimpArgs false
open Go.RowKit Plain

theorem Own.mono {B B' : Nat} {w : World} {ao : Option Addr} {l : List Int} (h : Own B w ao l) (hB : B' ≤ B) : Own B' w ao l := by
  rcases h with h | ⟨g, hg, r⟩
  · exact Or.inl h
  · exact Or.inr ⟨g, Nat.le_trans hB hg, r⟩

/-- The first k cells of the row at g are clones of ls's first k. -/
structure Cl (w : World) (g n : Nat) (ls : List (List Int)) (wr : World) (k : Nat) (c : Array Value) : Prop where
  row : wr.heap[g]? = some (.cells c 29 (0, 0))
  size : c.size = n
  cells : ∀ j, j < k → ∃ ao, c[j]? = some (.slice ao (ls.getD j []).length (ls.getD j []).length) ∧ Own (g + 1) wr ao (ls.getD j [])
  below : Below w.heap.size w wr

theorem Cl.push {w : World} {g n : Nat} {ls : List (List Int)} {wr w1 : World} {k : Nat} {c : Array Value} {ao : Option Addr} {l : List Int} (h : Cl w g n ls wr k c) (hg : g = w.heap.size) (hk : k < n) (hlk : ls.getD k [] = l)
    (ho : Own wr.heap.size w1 ao l) (hb : Below wr.heap.size wr w1) :
    Cl w g n ls (w1.setCell ⟨g, k, none⟩ (.slice ao l.length l.length)) (k + 1) (c.setIfInBounds k (.slice ao l.length l.length)) := by
  subst hlk
  have hgl : g < wr.heap.size := (Array.getElem?_eq_some_iff.1 h.row).1
  have r1 : w1.heap[g]? = some (.cells c 29 (0, 0)) := by rw [hb.block g hgl]; exact h.row
  have fr : Fr (fun i => i = g) w1 (w1.setCell ⟨g, k, none⟩ (.slice ao (ls.getD k []).length (ls.getD k []).length)) := (Fr.refl (fun i => i = g) w1).setCell (p := ⟨g, k, none⟩) (show g = g from rfl) _
  refine ⟨heap_setCell_at r1 k _, by rw [Array.size_setIfInBounds]; exact h.size, fun j hj => ?_, ?_⟩
  · by_cases e : j = k
    · subst e
      refine ⟨ao, by simp [h.size, hk], (ho.mono (by omega)).fr fr ?_⟩
      intro g' e' hgg
      rcases ho with ⟨e'', _⟩ | ⟨g'', hB, e'', _⟩
      · rw [e''] at e'; cases e'
      · rw [e''] at e'
        have := congrArg Addr.block (Option.some.inj e')
        simp at this; omega
    · obtain ⟨ao', h1, h2⟩ := h.cells j (by omega)
      refine ⟨ao', by rw [Array.getElem?_setIfInBounds_ne (by omega)]; exact h1, ((own_below h2 hb).fr fr ?_)⟩
      intro g' e' hgg
      rcases h2 with ⟨e'', _⟩ | ⟨g'', hB, e'', _⟩
      · rw [e''] at e'; cases e'
      · rw [e''] at e'
        have := congrArg Addr.block (Option.some.inj e')
        simp at this; omega
  · exact (h.below.trans (hb.mono h.below.size)).setCell (by simp [hg]) _

theorem getD_mem_len {ls : List (List Int)} (h : ∀ x ∈ ls, x.length ≤ 2097152) (j : Nat) : (ls.getD j []).length ≤ 2097152 := by
  by_cases hj : j < ls.length
  · have := h ls[j] (List.getElem_mem hj)
    simpa [List.getD, hj] using this
  · simp [List.getD, hj]

/-- What the row says at the end. -/
theorem Cl.fin {w : World} {g n : Nat} {ls : List (List Int)} {wr : World} {c : Array Value} (h : Cl w g n ls wr n c) (hn : ls.length = n) (hl : n ≤ 2097153) (hm : ∀ j, (ls.getD j []).length ≤ 2097152) :
    Flds wr (.slice (some ⟨g, 0, none⟩) n n) ls ∧ ∃ xs, wr.ownsRow 0 29 1 (.slice (some ⟨g, 0, none⟩) n n) n xs := by
  subst hn
  refine ⟨⟨_, _, rfl, hl, fun h0 => ⟨g, 0, rfl, fun i hi => ?_⟩⟩, c.toList, ?_, Or.inr ⟨g, ls.length, c, rfl, Nat.zero_le _, h.row, Nat.le_refl _, by unfold maxLen; omega, by simp [h.size], ?_⟩⟩
  · obtain ⟨ao, h1, h2⟩ := h.cells i hi
    refine ⟨_, by rw [cell_of_heap h.row, Nat.zero_add]; exact h1, ao, _, rfl, h2.nilLen, h2.txt (hm i)⟩
  · simp [h.size]
  · rw [Nat.mul_one, ← h.size, ← Array.length_toList, List.take_length]

set_option maxHeartbeats 1000000 in
theorem cloneF_some (b o cap : Nat) (ls : List (List Int)) (w : World) (hl : ls.length ≤ 2097153) (hc : ∀ i, i < ls.length → ∃ u, w.cell? ⟨b, o + i, none⟩ = some u ∧ HB w u (ls.getD i [])) :
    Calls Try.prog 16 #[.slice (some ⟨b, o, none⟩) ls.length cap] w fun e w' => e = .returned (.slice (some ⟨w.heap.size, 0, none⟩) ls.length ls.length) ∧ ∃ c, Cl w w.heap.size ls.length ls w' ls.length c := by
  have hmk := run_make_row' (P := Try.prog) 24 29 (.slice none 0 0) 24 Try.underlying24 Try.info29 rfl .i64 .i64 ls.length (by omega) (by omega)
  have q22 : ∀ (w : World) (a : Option Addr) (n c n' c' : Nat), (binOp .eql 24 (.slice a n c) (.slice none n' c')).run Try.prog w = .ok (.bool a.isNone) w := fun w a n c n' c' => Lib.run_eql_slice_nil w _ _ a n c n' c' Try.underlying24
  have HC := hid hc
  clear hc
  go_enter Try.func16, Try.ntmps16
  go_wp2
  go_loopw [4] (fun i wr => ∃ (k : Nat) (c : Array Value), k ≤ ls.length ∧ i = .int .i64 k ∧ Cl w w.heap.size ls.length ls wr k c) (fun i _ => ls.length - (intOf i).toNat)
  case atStart => exact ⟨0, _, Nat.zero_le _, rfl, heap_alloc_new w _, by simp [madeCells], fun j hj => absurd hj (by omega), (Below.refl _ _).alloc (Nat.le_refl _) _⟩
  case round =>
    obtain ⟨k, c, hk, rfl, hcl⟩ := hrel
    have HL := hid hcl
    clear hcl hmk q22
    by_cases hlt : k < ls.length
    · obtain ⟨u, hu0, hb⟩ := HC.out k hlt
      have hu : wr.cell? ⟨b, o + k, none⟩ = some u := (HL.out.below.cell (p := ⟨b, o + k, none⟩) (World.block_lt_of_cell? w _ hu0)).trans hu0
      have hb' := hb_below hb HL.out.below
      generalize hlk : ls.getD k [] = l at hb'
      obtain ⟨ao, cp, rfl, hn, hT⟩ := hb'
      have HT := hid hT
      have HN := hid hn
      have HK := hid hlk
      clear hu0 hb hT hn hlk
      go_wp2_with fail
      refine (clone ao cp l wr HT.out HN.out).mono ?_
      rintro e w1 ⟨ao', rfl, ho, hb1⟩
      have R := hid (HL.out.push rfl hlt HK.out ho hb1)
      have g1 : w1.heap[w.heap.size]? = some (.cells c 29 (0, 0)) := by rw [hb1.block _ (Array.getElem?_eq_some_iff.1 HL.out.row).1]; exact HL.out.row
      obtain ⟨ov, hov⟩ : ∃ v, c[k]? = some v := ⟨_, Array.getElem?_eq_getElem (by rw [HL.out.size]; exact hlt)⟩
      have cw : w1.cell? ⟨w.heap.size, k, none⟩ = some ov := by rw [cell_of_heap g1]; exact hov
      have fw : w1.frozen? ⟨w.heap.size, k, none⟩ = false := by simp [World.frozen?, g1]
      clear g1 hov ho hb1 hu
      go_wp2
      go_roundw
      case rel => exact ⟨k + 1, _, by omega, by go_num, R.out⟩
      case measure => simp [intOf]; omega
    · obtain rfl : k = ls.length := by omega
      go_wp2
      go_ret
      exact ⟨rfl, c, HL.out⟩

set_option maxHeartbeats 400000 in
theorem cloneF_none (w : World) :
    Calls Try.prog 16 #[.slice none 0 0] w fun e w' => e = .returned (.slice none 0 0) ∧ w' = w := by
  have q22 : ∀ (w : World) (a : Option Addr) (n c n' c' : Nat), (binOp .eql 24 (.slice a n c) (.slice none n' c')).run Try.prog w = .ok (.bool a.isNone) w := fun w a n c n' c' => Lib.run_eql_slice_nil w _ _ a n c n' c' Try.underlying24
  go_enter Try.func16, Try.ntmps16
  go_wp2
  go_ret
  exact ⟨rfl, rfl⟩

set_option maxHeartbeats 400000 in
theorem cloneF_zero (x : Addr) (cap : Nat) (w : World) :
    Calls Try.prog 16 #[.slice (some x) 0 cap] w fun e w' => e = .returned (.slice (some ⟨w.heap.size, 0, none⟩) 0 0) ∧ w' = w.alloc (.cells #[] 29) := by
  have hmk : ∀ w, (Instr.makeSlice 24 (.int .i64 0) (.int .i64 0)).run Try.prog w = .ok (.slice (some ⟨w.heap.size, 0, none⟩) 0 0) (w.alloc (.cells #[] 29)) := fun _ => by kernel_rfl
  have q22 : ∀ (w : World) (a : Option Addr) (n c n' c' : Nat), (binOp .eql 24 (.slice a n c) (.slice none n' c')).run Try.prog w = .ok (.bool a.isNone) w := fun w a n c n' c' => Lib.run_eql_slice_nil w _ _ a n c n' c' Try.underlying24
  go_enter Try.func16, Try.ntmps16
  go_wp2
  refine wp_loop_rounds 1 ?_
  rw [rounds_succ]
  go_wp2
  go_ret
  exact ⟨rfl, rfl⟩

/-- zzCloneFields at every slice of slices: a row of its own of the same fields; nothing old has turned. -/
theorem cloneF {v : Value} {ls : List (List Int)} {w : World} (H : Flds w v ls) (hn : ∀ cap, v = .slice none ls.length cap → cap = 0) :
    Calls Try.prog 16 #[v] w fun e w' => ∃ ao', e = .returned (.slice ao' ls.length ls.length) ∧ Flds w' (.slice ao' ls.length ls.length) ls ∧ (∃ xs, w'.ownsRow 0 29 1 (.slice ao' ls.length ls.length) ls.length xs) ∧
      (∀ g, ao' = some g → w.heap.size ≤ g.block) ∧ Below w.heap.size w w' := by
  obtain ⟨ao, cap, rfl, hl, r⟩ := H
  cases ao with
  | none =>
    have h0 : ls = [] := by
      by_cases h : 0 < ls.length
      · obtain ⟨b, o, e, _⟩ := r h; cases e
      · exact List.eq_nil_of_length_eq_zero (by omega)
    subst h0
    rw [hn cap rfl]
    refine (cloneF_none w).mono ?_
    rintro e w' ⟨rfl, rfl⟩
    exact ⟨none, rfl, ⟨none, 0, rfl, by simp, by simp⟩, ⟨[], World.ownsRow_nil _ _ _ _⟩, by simp, Below.refl _ _⟩
  | some x =>
    by_cases h : 0 < ls.length
    · obtain ⟨b, o, e, hc⟩ := r h
      obtain rfl := Option.some.inj e
      have hm : ∀ j, (ls.getD j []).length ≤ 2097152 := by
        intro j
        by_cases hj : j < ls.length
        · obtain ⟨u, _, _, _, _, _, hT⟩ := hc j hj
          exact hT.1
        · simp [List.getD, hj]
      refine (cloneF_some b o cap ls w hl hc).mono ?_
      rintro e w' ⟨rfl, c, hcl⟩
      have hf := hcl.fin rfl hl hm
      exact ⟨_, rfl, hf.1, hf.2, by intro g hg; obtain rfl := Option.some.inj hg; exact Nat.le_refl _, hcl.below⟩
    · have h0 : ls = [] := List.eq_nil_of_length_eq_zero (by omega)
      subst h0
      refine (cloneF_zero x cap w).mono ?_
      rintro e w' ⟨rfl, rfl⟩
      exact ⟨_, rfl, ⟨_, 0, rfl, by simp, by simp⟩, ⟨[], World.ownsRow_made w _ 0 (Nat.zero_le _) (by unfold maxLen; omega) rfl⟩, by intro g hg; obtain rfl := Option.some.inj hg; exact Nat.le_refl _, (Below.refl _ _).alloc (Nat.le_refl _) _⟩

end Go.Proofs.Qxb6615032a
