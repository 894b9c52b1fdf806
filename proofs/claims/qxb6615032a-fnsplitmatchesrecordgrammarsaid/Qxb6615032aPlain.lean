/-
  THE PLAIN MATHEMATICS OF THIS SEAT: the record grammar, one byte at a time, over lists of numbers. No Go in sight.
-/
namespace Go.Proofs.Qxb6615032a.Plain
set_option linter.unusedVariables false
set_option linter.unusedSimpArgs false

/-- What the rest of a text splits into. m: 0 in a bare field, 1 in a quoted one, 2 behind a closing quote. s: where the field's content begins; p: where we stand. The answer: did it parse; the fields' bounds. -/
def gram : List Int → Nat → Nat → Nat → Bool × List (Nat × Nat)
  | [], m, s, p => if m = 1 then (false, []) else if m = 2 then (true, [(s, p - 1)]) else (true, [(s, p)])
  | c :: r, m, s, p =>
    if m = 1 then (if c = 34 then gram r 2 s (p + 1) else gram r 1 s (p + 1))
    else if m = 2 then (if c = 44 then ((gram r 0 (p + 1) (p + 1)).1, (s, p - 1) :: (gram r 0 (p + 1) (p + 1)).2) else (false, []))
    else if c = 44 then ((gram r 0 (p + 1) (p + 1)).1, (s, p) :: (gram r 0 (p + 1) (p + 1)).2)
    else if c = 34 then (if s = p then gram r 1 (p + 1) (p + 1) else (false, []))
    else gram r 0 s (p + 1)

/-- The comma pieces. -/
def pieces : List Int → Nat → Nat → List (Nat × Nat)
  | [], s, p => [(s, p)]
  | c :: r, s, p => if c = 44 then (s, p) :: pieces r (p + 1) (p + 1) else pieces r s (p + 1)

theorem gram_quoted_free (b : List Int) (s p : Nat) (h : ∀ x ∈ b, x ≠ 34) : gram b 1 s p = (false, []) := by
  induction b generalizing p with
  | nil => simp [gram]
  | cons c r ih =>
    have hc : c ≠ 34 := h c (by simp)
    simp only [gram, if_true, if_neg hc]
    exact ih _ (fun x hx => h x (by simp [hx]))

theorem gram_free (b : List Int) (s p : Nat) (h : ∀ x ∈ b, x ≠ 34) : gram b 0 s p = (true, pieces b s p) := by
  induction b generalizing s p with
  | nil => simp [gram, pieces]
  | cons c r ih =>
    have hc : c ≠ 34 := h c (by simp)
    have hr : ∀ x ∈ r, x ≠ 34 := fun x hx => h x (by simp [hx])
    by_cases h4 : c = 44
    · simp [gram, pieces, h4, ih _ _ hr]
    · simp [gram, pieces, h4, hc, ih _ _ hr]

theorem gram_join (a b : List Int) (m s p : Nat) (hb : ∀ x ∈ b, x ≠ 34) :
    (gram (a ++ 44 :: b) m s p).1 = (gram a m s p).1 ∧
    ((gram a m s p).1 = true → (gram (a ++ 44 :: b) m s p).2 = (gram a m s p).2 ++ pieces b (p + a.length + 1) (p + a.length + 1)) := by
  induction a generalizing m s p with
  | nil =>
    by_cases h1 : m = 1
    · simp [gram, h1, gram_quoted_free b s (p + 1) hb]
    · by_cases h2 : m = 2
      · simp [gram, h2, gram_free b _ _ hb]
      · simp [gram, h1, h2, gram_free b _ _ hb]
  | cons c r ih =>
    have e : p + (c :: r).length + 1 = p + 1 + r.length + 1 := by simp; omega
    rw [e]
    by_cases h1 : m = 1
    · by_cases hc : c = 34
      · simpa [gram, h1, hc] using ih 2 s (p + 1)
      · simpa [gram, h1, hc] using ih 1 s (p + 1)
    · by_cases h2 : m = 2
      · by_cases hc : c = 44
        · simpa [gram, h2, hc] using ih 0 (p + 1) (p + 1)
        · simp [gram, h2, hc]
      · by_cases hc : c = 44
        · simpa [gram, h1, h2, hc] using ih 0 (p + 1) (p + 1)
        · by_cases hq : c = 34
          · by_cases hs : s = p
            · simpa [gram, h1, h2, hq, hs] using ih 1 (p + 1) (p + 1)
            · simp [gram, h1, h2, hq, hs]
          · simpa [gram, h1, h2, hc, hq] using ih 0 s (p + 1)

theorem pieces_shift (b : List Int) (s p k : Nat) : pieces b (s + k) (p + k) = (pieces b s p).map fun x => (x.1 + k, x.2 + k) := by
  induction b generalizing s p with
  | nil => simp [pieces]
  | cons c r ih =>
    by_cases h4 : c = 44
    · have := ih (p + 1) (p + 1)
      rw [show p + 1 + k = p + k + 1 by omega] at this
      simp [pieces, h4, this]
    · have := ih s (p + 1)
      rw [show p + 1 + k = p + k + 1 by omega] at this
      simp [pieces, h4, this]

/-- Where the fields lie. -/
theorem gram_bounds (l : List Int) (m s p : Nat) (hs : s ≤ p) (h2 : m = 2 → s + 1 ≤ p) : ∀ x ∈ (gram l m s p).2, x.1 ≤ x.2 ∧ x.2 ≤ p + l.length := by
  induction l generalizing m s p with
  | nil =>
    intro x hx
    by_cases e1 : m = 1
    · simp [gram, e1] at hx
    · by_cases e2 : m = 2
      · have := h2 e2
        simp [gram, e2] at hx; subst hx; simp; omega
      · simp [gram, e1, e2] at hx; subst hx; simpa using hs
  | cons c r ih =>
    intro x hx
    have tail : ∀ m' s' , s' ≤ p + 1 → (m' = 2 → s' + 1 ≤ p + 1) → x ∈ (gram r m' s' (p + 1)).2 → x.1 ≤ x.2 ∧ x.2 ≤ p + (c :: r).length := by
      intro m' s' k1 k2 k3
      have := ih m' s' (p + 1) k1 k2 x k3
      simp only [List.length_cons]
      omega
    by_cases e1 : m = 1
    · by_cases hc : c = 34
      · simp [gram, e1, hc] at hx; exact tail 2 s (by omega) (by omega) hx
      · simp [gram, e1, hc] at hx; exact tail 1 s (by omega) (by omega) hx
    · by_cases e2 : m = 2
      · have := h2 e2
        by_cases hc : c = 44
        · simp [gram, e2, hc] at hx
          rcases hx with rfl | hx
          · simp; omega
          · exact tail 0 (p + 1) (by omega) (by omega) hx
        · simp [gram, e2, hc] at hx
      · by_cases hc : c = 44
        · simp [gram, e1, e2, hc] at hx
          rcases hx with rfl | hx
          · simp; omega
          · exact tail 0 (p + 1) (by omega) (by omega) hx
        · by_cases hq : c = 34
          · by_cases hsp : s = p
            · simp [gram, e1, e2, hq, hsp] at hx; exact tail 1 (p + 1) (by omega) (by omega) hx
            · simp [gram, e1, e2, hq, hsp] at hx
          · simp [gram, e1, e2, hc, hq] at hx; exact tail 0 s (by omega) (by omega) hx

theorem pieces_bounds (l : List Int) (s p : Nat) (hs : s ≤ p) : ∀ x ∈ pieces l s p, x.1 ≤ x.2 ∧ x.2 ≤ p + l.length := by
  induction l generalizing s p with
  | nil => intro x hx; simp [pieces] at hx; subst hx; simpa using hs
  | cons c r ih =>
    intro x hx
    by_cases h4 : c = 44
    · simp [pieces, h4] at hx
      rcases hx with rfl | hx
      · simp; omega
      · have := ih (p + 1) (p + 1) (by omega) x hx; simp only [List.length_cons]; omega
    · simp [pieces, h4] at hx
      have := ih s (p + 1) (by omega) x hx; simp only [List.length_cons]; omega

/-- How many: no more than bytes and one. -/
theorem gram_len (l : List Int) (m s p : Nat) : (gram l m s p).2.length ≤ l.length + 1 := by
  induction l generalizing m s p with
  | nil => simp only [gram]; split <;> (try split) <;> simp
  | cons c r ih =>
    have h0 := ih 0 (p + 1) (p + 1)
    have h1 := ih 1 (p + 1) (p + 1)
    have h2 := ih 2 s (p + 1)
    have h3 := ih 1 s (p + 1)
    have h4 := ih 0 s (p + 1)
    simp only [gram]
    repeat' split
    all_goals (simp; try omega)

/-- The content of a field. -/
def part (l : List Int) (x : Nat × Nat) : List Int := (l.drop x.1).take (x.2 - x.1)

theorem part_left (a r : List Int) (x : Nat × Nat) (h1 : x.1 ≤ x.2) (h2 : x.2 ≤ a.length) : part (a ++ r) x = part a x := by
  unfold part
  rw [List.drop_append_of_le_length (by omega), List.take_append_of_le_length (by simp; omega)]

theorem part_right (a b : List Int) (x : Nat × Nat) : part (a ++ 44 :: b) (x.1 + (a.length + 1), x.2 + (a.length + 1)) = part b x := by
  unfold part
  have e : a ++ 44 :: b = (a ++ [44]) ++ b := by simp
  have e1 : x.1 + (a.length + 1) - (a ++ [44]).length = x.1 := by simp
  have e2 : x.2 + (a.length + 1) - (x.1 + (a.length + 1)) = x.2 - x.1 := by omega
  show List.take (x.2 + (a.length + 1) - (x.1 + (a.length + 1))) (List.drop (x.1 + (a.length + 1)) (a ++ 44 :: b)) = _
  rw [e, List.drop_append, List.drop_eq_nil_of_le (by simp), List.nil_append, e1, e2]

end Go.Proofs.Qxb6615032a.Plain
