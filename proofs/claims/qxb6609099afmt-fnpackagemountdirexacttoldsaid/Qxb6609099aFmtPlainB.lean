/-
  Plain directories: what stands before the layout's own elements is the directory itself. No Go in sight.
-/
import Derived.Test.Qxb6609099aFmtPlain
namespace Go.Proofs.Qxb6609099aFmt.Plain
open Go.Lib
set_option linter.unusedVariables false
set_option linter.unusedSimpArgs false

theorem sl_J (es : List Bytes) (h : es ≠ []) : sl es = J es ++ [47] := by
  rcases List.eq_nil_or_concat es with h0 | ⟨A, x, h0⟩
  · exact absurd h0 h
  · rw [h0, List.concat_eq_append, sl_snoc, J_sl A [x] (by simp)]
    have : J [x] = x := Pa.J_one x
    rw [this]

theorem els_es (es : List Bytes) (h : ∀ e ∈ es, El e) (h0 : es ≠ []) : Pa.els (J es) = es := by
  cases es with
  | nil => exact absurd rfl h0
  | cons y Y =>
    have := Pa.els_J y Y
    have e2 : (y :: Y).flatMap Pa.els = y :: Y := by
      have : ∀ l : List Bytes, (∀ e ∈ l, El e) → l.flatMap Pa.els = l := by
        intro l
        induction l with
        | nil => intro _; rfl
        | cons a r ih => intro hl; rw [List.flatMap_cons, els_el (hl a (by simp)).2.2.2, ih (fun e he => hl e (by simp [he]))]; rfl
      exact this _ h
    rw [e2] at this
    exact this

theorem J_head47 (es : List Bytes) (h : ∀ e ∈ es, El e) (h0 : es ≠ []) : (J es).head? ≠ some 47 := by
  cases es with
  | nil => exact absurd rfl h0
  | cons y Y =>
    have hy := h y (by simp)
    have : (J (y :: Y)).head? = y.head? := (Pa.J_head y Y hy.1).1
    rw [this]
    intro e
    exact hy.2.2.2 (List.mem_of_mem_head? e)

/-- Nothing, one slash, or elements joined by single slashes, a slash before them or none. -/
def Dir (l : Bytes) : Prop := l = [] ∨ l = [47] ∨ ∃ es : List Bytes, es ≠ [] ∧ (∀ e ∈ es, El e) ∧ (l = J es ∨ l = 47 :: J es)
/-- What stands in front, as the program spells it. -/
def rp (l : Bytes) : Bytes := if l = [] then [] else if l = [47] then [47] else l ++ [47]

theorem pre_dir (l : Bytes) (h : Dir l) : pre l = rp l := by
  rcases h with rfl | rfl | ⟨es, h0, h, rfl | rfl⟩
  · rfl
  · decide
  · have hj := J_ne es h h0
    have h47 := J_head47 es h h0
    have hro : rooted (J es) = false := by unfold rooted; simpa using h47
    have hn47 : J es ≠ [47] := fun e => h47 (by rw [e]; rfl)
    unfold rp
    rw [if_neg hj, if_neg hn47]
    unfold pre stk
    rw [hro, els_es es h h0, fold_els false es h [], List.append_nil, List.reverse_reverse, ← sl_J es h0]
    rfl
  · have hj := J_ne es h h0
    have hro : rooted (47 :: J es) = true := rfl
    unfold rp
    rw [if_neg (by simp), if_neg (by intro e; exact hj (by simpa using e))]
    unfold pre stk
    rw [hro, Pa.els_slash, List.foldl_cons, Pa.step_nil, els_es es h h0, fold_els true es h [], List.append_nil, List.reverse_reverse, sl_J es h0]
    rfl

/-- As zzPlainDir goes: elements told up to 'start', no slash from there to j. -/
structure Going (l lead : Bytes) (start j : Nat) : Prop where
  le : start ≤ j
  lj : j ≤ l.length
  head : ∃ es : List Bytes, (∀ e ∈ es, El e) ∧ l.take start = lead ++ sl es
  free : 47 ∉ (l.drop start).take (j - start)

theorem Going.next {l lead : Bytes} {start j : Nat} (h : Going l lead start j) (hj : j < l.length) (hn : l.getD j 0 ≠ 47) : Going l lead start (j + 1) := by
  refine ⟨by have := h.le; omega, by omega, h.head, ?_⟩
  have hle := h.le
  have e : (l.drop start).take (j + 1 - start) = (l.drop start).take (j - start) ++ [l.getD j 0] := by
    rw [show j + 1 - start = (j - start) + 1 by omega, List.take_succ_eq_append_getElem (by rw [List.length_drop]; omega)]
    congr 2
    rw [List.getElem_drop]
    simp [List.getD, show start + (j - start) = j by omega, hj]
  rw [e]
  intro hm
  rcases List.mem_append.1 hm with hm | hm
  · exact h.free hm
  · exact hn (List.mem_singleton.1 hm).symm

theorem take_cut (l : Bytes) (a b : Nat) (h : a ≤ b) : l.take b = l.take a ++ (l.drop a).take (b - a) := by
  rw [← List.take_add]; congr 1; omega

theorem Going.cut {l lead : Bytes} {start j : Nat} (h : Going l lead start j) (hj : j < l.length) (hn : l.getD j 0 = 47) (h0 : (l.drop start).take (j - start) ≠ []) (h1 : (l.drop start).take (j - start) ≠ [46]) (h2 : (l.drop start).take (j - start) ≠ [46, 46]) : Going l lead (j + 1) (j + 1) := by
  obtain ⟨es, hes, ht⟩ := h.head
  refine ⟨Nat.le_refl _, by omega, ⟨es ++ [(l.drop start).take (j - start)], ?_, ?_⟩, by simp⟩
  · intro e he
    rcases List.mem_append.1 he with he | he
    · exact hes e he
    · obtain rfl := List.mem_singleton.1 he; exact ⟨h0, h1, h2, h.free⟩
  · rw [sl_snoc, List.take_succ_eq_append_getElem hj, take_cut l start j h.le, ht]
    have : l[j] = 47 := by simpa [List.getD, hj] using hn
    rw [this]
    simp

theorem Going.done {l lead : Bytes} {start : Nat} (h : Going l lead start l.length) (h0 : (l.drop start).take (l.length - start) ≠ []) (h1 : (l.drop start).take (l.length - start) ≠ [46]) (h2 : (l.drop start).take (l.length - start) ≠ [46, 46]) :
    ∃ es : List Bytes, es ≠ [] ∧ (∀ e ∈ es, El e) ∧ l = lead ++ J es := by
  obtain ⟨es, hes, ht⟩ := h.head
  refine ⟨es ++ [(l.drop start).take (l.length - start)], by simp, ?_, ?_⟩
  · intro e he
    rcases List.mem_append.1 he with he | he
    · exact hes e he
    · obtain rfl := List.mem_singleton.1 he; exact ⟨h0, h1, h2, h.free⟩
  · rw [J_sl es _ (by simp)]
    have hJ : J [(l.drop start).take (l.length - start)] = (l.drop start).take (l.length - start) := Pa.J_one _
    rw [hJ, ← List.append_assoc, ← ht, ← take_cut l start l.length h.le, List.take_length]

/-! ### Model -/
def modelT : Bytes := [118, 97, 114, 47, 108, 105, 98, 47, 115, 100, 111, 115, 47, 109, 111, 100, 101, 108, 46, 97, 115, 115, 101, 114, 116]
theorem model_els : ∀ e ∈ ([[118, 97, 114], [108, 105, 98], [115, 100, 111, 115], [109, 111, 100, 101, 108, 46, 97, 115, 115, 101, 114, 116]] : List Bytes), El e := by
  unfold El
  decide
theorem join_model (dir : Bytes) : Pa.join [dir, modelT] = pre dir ++ modelT := by
  rw [join_pre dir modelT [] [[118, 97, 114], [108, 105, 98], [115, 100, 111, 115], [109, 111, 100, 101, 108, 46, 97, 115, 115, 101, 114, 116]] (by decide) (by simp) (by decide) (by decide) model_els (by simp)]
  have : J [[118, 97, 114], [108, 105, 98], [115, 100, 111, 115], [109, 111, 100, 101, 108, 46, 97, 115, 115, 101, 114, 116]] = modelT := by decide
  rw [this]

end Go.Proofs.Qxb6609099aFmt.Plain
