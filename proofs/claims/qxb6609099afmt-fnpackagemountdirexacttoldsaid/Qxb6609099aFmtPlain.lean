/-
  THE PLAIN MATHEMATICS OF THIS SEAT: what filepath.Join writes below a root; decimal digits. No Go in sight.
-/
import Derived.Lib.JoinSame2
import Derived.Lib.CleanLen
import Derived.Lib.ItoaMem
namespace Go.Proofs.Qxb6609099aFmt.Plain
open Go.Lib
set_option linter.unusedVariables false
set_option linter.unusedSimpArgs false

abbrev Bytes := List UInt8
/-- The elements, slashes between. -/
def J (es : List Bytes) : Bytes := ([47] : Bytes).intercalate es

/-- A single path element. -/
def El (e : Bytes) : Prop := e ≠ [] ∧ e ≠ [46] ∧ e ≠ [46, 46] ∧ 47 ∉ e

theorem fold_els (ro : Bool) (es : List Bytes) (h : ∀ e ∈ es, El e) (s : List Bytes) : es.foldl (Pa.cleanStep ro) s = es.reverse ++ s := by
  induction es generalizing s with
  | nil => rfl
  | cons e r ih =>
    have he := h e (by simp)
    rw [List.foldl_cons, Pa.step_elem ro s e he.1 he.2.1 he.2.2.1, ih (fun x hx => h x (by simp [hx]))]
    simp

/-- Is it rooted? -/
def rooted (dir : Bytes) : Bool := dir.head? == some 47
/-- The elements that stay. -/
def stk (dir : Bytes) : List Bytes := ((Pa.els dir).foldl (Pa.cleanStep (rooted dir)) []).reverse
/-- Each with its slash. -/
def sl (es : List Bytes) : Bytes := (es.map (· ++ [47])).flatten
/-- What stands before the layout's own elements. -/
def pre (dir : Bytes) : Bytes := (if rooted dir then [47] else []) ++ sl (stk dir)

theorem J_sl (A es : List Bytes) (h : es ≠ []) : J (A ++ es) = sl A ++ J es := by
  induction A with
  | nil => rfl
  | cons a r ih =>
    obtain ⟨z, Z, hz⟩ : ∃ z Z, r ++ es = z :: Z := by
      cases hr : r ++ es with
      | nil => simp at hr; exact absurd hr.2 h
      | cons z Z => exact ⟨z, Z, rfl⟩
    have : J (a :: (r ++ es)) = a ++ 47 :: J (r ++ es) := by rw [hz]; exact Pa.J_cons a z Z
    rw [List.cons_append, this, ih]
    simp [sl]

theorem J_ne (es : List Bytes) (h : ∀ e ∈ es, El e) (h0 : es ≠ []) : J es ≠ [] := by
  cases es with
  | nil => exact absurd rfl h0
  | cons e r => exact (Pa.J_head e r (h e (by simp)).1).2

/-- WHAT Join WRITES. -/
theorem join_pre (dir y : Bytes) (Y es : List Bytes) (hy : y ≠ []) (hY : ∀ z ∈ Y, z ≠ []) (h47 : y.head? ≠ some 47) (hes : (y :: Y).flatMap Pa.els = es) (h : ∀ e ∈ es, El e) (h0 : es ≠ []) :
    Pa.join (dir :: y :: Y) = pre dir ++ J es := by
  have hfil : (y :: Y).filter (fun x => decide (x ≠ [])) = y :: Y := by
    rw [List.filter_eq_self]
    intro a ha
    rcases List.mem_cons.1 ha with rfl | ha
    · simpa using hy
    · simpa using hY a ha
  unfold Pa.join
  by_cases hd : dir = []
  · subst hd
    have e1 : ([] :: y :: Y).filter (fun x => decide (x ≠ [])) = y :: Y := by rw [List.filter_cons_of_neg (by simp), hfil]
    rw [e1, if_neg (by simp), Pa.clean_eq_cleanEls]
    have hh := Pa.J_head y Y hy
    have hro : ((([47] : Bytes).intercalate (y :: Y)).head? == some 47) = false := by rw [hh.1]; simpa using h47
    rw [Pa.cleanEls_rel _ hh.2 hro, Pa.els_J, hes, fold_els false es h [], List.append_nil, List.reverse_reverse]
    show (if J es = [] then [46] else J es) = _
    rw [if_neg (J_ne es h h0)]
    rfl
  · have e1 : (dir :: y :: Y).filter (fun x => decide (x ≠ [])) = dir :: y :: Y := by rw [List.filter_cons_of_pos (by simpa using hd), hfil]
    rw [e1, if_neg (by simp), Pa.clean_eq_cleanEls]
    have hh := Pa.J_head dir (y :: Y) hd
    have hf : ∀ ro, ((dir :: y :: Y).flatMap Pa.els).foldl (Pa.cleanStep ro) [] = es.reverse ++ (Pa.els dir).foldl (Pa.cleanStep ro) [] := by
      intro ro
      rw [List.flatMap_cons, hes, List.foldl_append, fold_els ro es h]
    have hJ : ∀ ro, ([47] : Bytes).intercalate (es.reverse ++ (Pa.els dir).foldl (Pa.cleanStep ro) []).reverse = sl ((Pa.els dir).foldl (Pa.cleanStep ro) []).reverse ++ J es := by
      intro ro
      rw [List.reverse_append, List.reverse_reverse]
      exact J_sl _ es h0
    cases hro : rooted dir with
    | true =>
      have hro' : ((([47] : Bytes).intercalate (dir :: y :: Y)).head? == some 47) = true := by rw [hh.1]; exact hro
      rw [Pa.cleanEls_abs _ hh.2 hro', Pa.els_J, hf, hJ]
      simp [pre, stk, hro]
    | false =>
      have hro' : ((([47] : Bytes).intercalate (dir :: y :: Y)).head? == some 47) = false := by rw [hh.1]; exact hro
      rw [Pa.cleanEls_rel _ hh.2 hro', Pa.els_J, hf, hJ, if_neg (by intro e; exact J_ne es h h0 (List.append_eq_nil_iff.1 e).2)]
      simp [pre, stk, hro]

theorem sl_snoc (A : List Bytes) (x : Bytes) : sl (A ++ [x]) = sl A ++ x ++ [47] := by simp [sl]

/-- Empty, or a slash at its end. -/
theorem pre_ok (dir : Bytes) : pre dir = [] ∨ ∃ p, pre dir = p ++ [47] := by
  unfold pre
  rcases List.eq_nil_or_concat (stk dir) with h | ⟨A, x, h⟩
  · rw [h]
    cases rooted dir
    · left; rfl
    · right; exact ⟨[], rfl⟩
  · right
    rw [h, List.concat_eq_append, sl_snoc]
    exact ⟨(if rooted dir then [47] else []) ++ (sl A ++ x), by simp⟩

theorem els_el {e : Bytes} (h : 47 ∉ e) : Pa.els e = [e] := by
  have := Pa.els_elem e [] h (Or.inl rfl)
  rw [List.append_nil] at this
  rw [this]
  rfl

/-! ### Decimal digits -/
theorem dec_no47 (m : Nat) : ∀ c ∈ Lib.decDigits m, 48 ≤ c.toNat ∧ c.toNat ≤ 57 := by
  induction m using Nat.strongRecOn with
  | ind m ih =>
    have dt : ∀ d, d < 10 → (UInt8.ofNat (48 + d)).toNat = 48 + d := fun d h => by rw [UInt8.toNat_ofNat']; omega
    rw [Lib.decDigits]
    by_cases h : m < 10
    · rw [dif_pos h]; intro c hc; obtain rfl := List.mem_singleton.1 hc; rw [dt m h]; omega
    · rw [dif_neg h]
      intro c hc
      rcases List.mem_append.1 hc with hc | hc
      · exact ih (m / 10) (by omega) c hc
      · obtain rfl := List.mem_singleton.1 hc; rw [dt (m % 10) (by omega)]; omega

theorem dec_pos (m : Nat) : Lib.decDigits m ≠ [] := by
  rw [Lib.decDigits]; split <;> simp

theorem dec_el (m : Nat) : El (Lib.decDigits m) := by
  have hd := dec_no47 m
  refine ⟨dec_pos m, fun e => ?_, fun e => ?_, fun h => ?_⟩
  · rw [e] at hd; have := (hd 46 (by simp)).1; simp at this
  · rw [e] at hd; have := (hd 46 (by simp)).1; simp at this
  · have := (hd 47 h).1; simp at this

def dval (l : Bytes) (acc : Nat) : Nat := l.foldl (fun a c => a * 10 + (c.toNat - 48)) acc
theorem dec_val (m : Nat) : dval (Lib.decDigits m) 0 = m := by
  induction m using Nat.strongRecOn with
  | ind m ih =>
    have dt : ∀ d, d < 10 → (UInt8.ofNat (48 + d)).toNat = 48 + d := fun d h => by rw [UInt8.toNat_ofNat']; omega
    rw [Lib.decDigits]
    by_cases h : m < 10
    · rw [dif_pos h]; simp only [dval, List.foldl_cons, List.foldl_nil]; rw [dt m h]; omega
    · rw [dif_neg h]
      have e : ∀ a b : Bytes, ∀ acc, dval (a ++ b) acc = dval b (dval a acc) := fun a b acc => by simp [dval, List.foldl_append]
      rw [e, ih (m / 10) (by omega)]
      simp only [dval, List.foldl_cons, List.foldl_nil]
      rw [dt (m % 10) (by omega)]
      omega
theorem dec_inj {a b : Nat} (h : Lib.decDigits a = Lib.decDigits b) : a = b := by
  rw [← dec_val a, h, dec_val]
theorem dec_len (m : Nat) (h : m < 100000000000000000000) : (Lib.decDigits m).length ≤ 20 := by
  have key : ∀ k m, m < 10 ^ (k + 1) → (Lib.decDigits m).length ≤ k + 1 := by
    intro k
    induction k with
    | zero => intro m hm; rw [Lib.decDigits, dif_pos (by simpa using hm)]; simp
    | succ k ih =>
      intro m hm
      rw [Lib.decDigits]
      by_cases h : m < 10
      · rw [dif_pos h]; simp
      · rw [dif_neg h]
        have := ih (m / 10) (by rw [Nat.pow_succ] at hm; omega)
        simp; omega
  exact key 19 m (by simpa using h)

/-! ### The three paths -/
def snapT : Bytes := [115, 110, 97, 112]
/-- snap, name, revision. -/
def mnt (name : Bytes) (rev : Nat) : Bytes := snapT ++ 47 :: (name ++ 47 :: Lib.decDigits rev)
theorem join_mnt (dir name : Bytes) (rev : Nat) (hn : El name) : Pa.join [dir, snapT, name, Lib.decDigits rev] = pre dir ++ mnt name rev := by
  have hd := dec_el rev
  have hs : El snapT := by refine ⟨by decide, by decide, by decide, by decide⟩
  rw [join_pre dir snapT [name, Lib.decDigits rev] [snapT, name, Lib.decDigits rev] (by decide) ?_ (by decide) ?_ ?_ (by simp)]
  · show pre dir ++ ([47] : Bytes).intercalate [snapT, name, Lib.decDigits rev] = _
    rw [Pa.J_cons, Pa.J_cons, Pa.J_one]
    rfl
  · intro z hz
    rcases List.mem_cons.1 hz with rfl | hz
    · exact hn.1
    · obtain rfl := List.mem_singleton.1 hz; exact hd.1
  · rw [List.flatMap_cons, List.flatMap_cons, List.flatMap_cons, List.flatMap_nil, els_el hs.2.2.2, els_el hn.2.2.2, els_el hd.2.2.2]
    rfl
  · intro e he
    rcases List.mem_cons.1 he with rfl | he
    · exact hs
    · rcases List.mem_cons.1 he with rfl | he
      · exact hn
      · obtain rfl := List.mem_singleton.1 he; exact hd

end Go.Proofs.Qxb6609099aFmt.Plain
