/-
  THE PLAIN MATHEMATICS OF THIS SEAT: lines, columns, decimal digits, well-formed UTF-8. No Go in sight but the model's own decoder of runes.
-/
import Derived.Lib.ItoaNum
import Derived.Lib.RuneCount
import Derived.Lib.RuneCountTail
namespace Go.Proofs.Qxb6609003aFmt.Plain
set_option linter.unusedVariables false
set_option linter.unusedSimpArgs false

/-! ### Decimal digits -/
/-- What a run of digits says, read on from acc. -/
def dval (l : List UInt8) (acc : Nat) : Nat := l.foldl (fun a c => a * 10 + (c.toNat - 48)) acc

theorem dval_ge (l : List UInt8) (acc : Nat) : acc ≤ dval l acc := by
  induction l generalizing acc with
  | nil => exact Nat.le_refl _
  | cons c r ih =>
    have := ih (acc * 10 + (c.toNat - 48))
    simp only [dval, List.foldl_cons] at *
    omega

theorem dval_append (a b : List UInt8) (acc : Nat) : dval (a ++ b) acc = dval b (dval a acc) := by simp [dval, List.foldl_append]

theorem digit_toNat (d : Nat) (h : d < 10) : (UInt8.ofNat (48 + d)).toNat = 48 + d := by
  rw [UInt8.toNat_ofNat']; omega

theorem dec_val (m : Nat) : dval (Lib.decDigits m) 0 = m := by
  induction m using Nat.strongRecOn with
  | ind m ih =>
    rw [Lib.decDigits]
    by_cases h : m < 10
    · rw [dif_pos h]; simp only [dval, List.foldl_cons, List.foldl_nil]; rw [digit_toNat m h]; omega
    · rw [dif_neg h, dval_append, ih (m / 10) (by omega)]
      simp only [dval, List.foldl_cons, List.foldl_nil]
      rw [digit_toNat (m % 10) (by omega)]
      omega

theorem dec_digit (m : Nat) : ∀ c ∈ Lib.decDigits m, 48 ≤ c.toNat ∧ c.toNat ≤ 57 := by
  induction m using Nat.strongRecOn with
  | ind m ih =>
    rw [Lib.decDigits]
    by_cases h : m < 10
    · rw [dif_pos h]; intro c hc; obtain rfl := List.mem_singleton.1 hc; rw [digit_toNat m h]; omega
    · rw [dif_neg h]
      intro c hc
      rcases List.mem_append.1 hc with hc | hc
      · exact ih (m / 10) (by omega) c hc
      · obtain rfl := List.mem_singleton.1 hc; rw [digit_toNat (m % 10) (by omega)]; omega

theorem dec_pos (m : Nat) : 0 < (Lib.decDigits m).length := by
  rw [Lib.decDigits]; split <;> simp

/-- No leading zero. -/
theorem dec_lead (m : Nat) (hm : 1 ≤ m) : ((Lib.decDigits m).getD 0 0).toNat ≠ 48 := by
  induction m using Nat.strongRecOn with
  | ind m ih =>
    rw [Lib.decDigits]
    by_cases h : m < 10
    · rw [dif_pos h]; simp only [List.getD_cons_zero]; rw [digit_toNat m h]; omega
    · rw [dif_neg h]
      have := ih (m / 10) (by omega) (by omega)
      have hp := dec_pos (m / 10)
      rwa [List.getD, List.getElem?_append_left hp, ← List.getD]

theorem dec_len (m : Nat) (h : m < 100000000000000000000) : (Lib.decDigits m).length ≤ 20 := by
  have key : ∀ k m, m < 10 ^ (k + 1) → (Lib.decDigits m).length ≤ k + 1 := by
    intro k
    induction k with
    | zero => intro m hm; rw [Lib.decDigits, dif_pos (by simpa using hm)]; simp
    | succ k ih =>
      intro m hm
      rw [Lib.decDigits]
      by_cases h : m < 10
      · rw [dif_pos h]; simp
      · rw [dif_neg h]
        have := ih (m / 10) (by rw [Nat.pow_succ] at hm; omega)
        simp; omega
  exact key 19 m (by simpa using h)

/-! ### Lines and columns -/
/-- A byte that begins a character. -/
def st (x : Int) : Prop := x < 128 ∨ 192 ≤ x
theorem st_dec (x : Int) : st x ↔ ¬ (128 ≤ x ∧ x < 192) := by unfold st; omega

/-- How many newlines. -/
def nl : List Int → Nat
  | [] => 0
  | c :: r => (if c = 10 then 1 else 0) + nl r
/-- How many bytes that begin a character. -/
def ns : List Int → Nat
  | [] => 0
  | c :: r => (if 128 ≤ c ∧ c < 192 then 0 else 1) + ns r
/-- Where what stands behind the last newline begins. -/
def lastNl (l : List Int) : Nat := (l.length - (l.reverse.takeWhile (fun c => decide (c ≠ 10))).length)
/-- What stands behind the last newline. -/
def aft : List Int → List Int
  | [] => []
  | c :: r => if 0 < nl r then aft r else if c = 10 then r else c :: r

theorem nl_append (a b : List Int) : nl (a ++ b) = nl a + nl b := by
  induction a with
  | nil => simp [nl]
  | cons c r ih => simp only [List.cons_append, nl, ih]; omega
theorem ns_append (a b : List Int) : ns (a ++ b) = ns a + ns b := by
  induction a with
  | nil => simp [ns]
  | cons c r ih => simp only [List.cons_append, ns, ih]; omega
theorem nl_le (a : List Int) : nl a ≤ a.length := by
  induction a with
  | nil => simp [nl]
  | cons c r ih => simp only [nl, List.length_cons]; split <;> omega
theorem ns_le (a : List Int) : ns a ≤ a.length := by
  induction a with
  | nil => simp [ns]
  | cons c r ih => simp only [ns, List.length_cons]; split <;> omega

theorem aft_free (l : List Int) (h : nl l = 0) : aft l = l := by
  cases l with
  | nil => rfl
  | cons c r =>
    simp only [nl] at h
    have h1 : nl r = 0 := by omega
    have h2 : c ≠ 10 := by intro e; simp [e] at h
    simp [aft, h1, h2]

theorem aft_append (a b : List Int) : aft (a ++ b) = if 0 < nl b then aft b else aft a ++ b := by
  induction a with
  | nil =>
    by_cases h : 0 < nl b
    · simp [h]
    · simp [h, aft, aft_free b (by omega)]
  | cons c r ih =>
    simp only [List.cons_append, aft, nl_append, ih]
    by_cases h : 0 < nl b
    · rw [if_pos (by omega), if_pos h, if_pos h]
    · have hb : nl b = 0 := by omega
      by_cases hr : 0 < nl r
      · simp [h, hr, hb]
      · by_cases hc : c = 10 <;> simp [h, hr, hb, hc]

theorem aft_len (l : List Int) : (aft l).length ≤ l.length := by
  induction l with
  | nil => simp [aft]
  | cons c r ih =>
    simp only [aft]
    split
    · simp; omega
    · split <;> simp

/-- aft is a tail: where it begins. -/
theorem aft_drop (l : List Int) : aft l = l.drop (l.length - (aft l).length) := by
  induction l with
  | nil => rfl
  | cons c r ih =>
    have hl := aft_len r
    simp only [aft]
    split
    · rw [show (c :: r).length - (aft r).length = (r.length - (aft r).length) + 1 by simp; omega, List.drop_succ_cons]
      exact ih
    · split <;> simp

/-- Behind the last newline there is none. -/
theorem aft_nl (l : List Int) : nl (aft l) = 0 := by
  induction l with
  | nil => rfl
  | cons c r ih =>
    simp only [aft]
    split
    · exact ih
    · split
      · omega
      · simp only [nl]; split <;> omega

end Go.Proofs.Qxb6609003aFmt.Plain
