/-
  The few masks that this seat's text uses.
-/
import Derived.Laws.BitsAllLaws
import Derived.Laws.BitsLemmas
namespace Go.Proofs.Qxb6609003aFmt
set_option linter.unusedVariables false
set_option linter.unusedSimpArgs false

theorem mask_all : ∀ n : Fin 256, (n.val &&& 192) = n.val / 64 * 64 ∧ (n.val &&& 31) = n.val % 32 ∧ (n.val &&& 15) = n.val % 16 ∧ (n.val &&& 7) = n.val % 8 ∧ (n.val &&& 63) = n.val % 64 := by decide +kernel

theorem u8_mask (c : Int) (m : Nat) (h0 : 0 ≤ c) (h1 : c < 256) (hm : m < 256) : bits .and .u8 c (m : Int) = ((c.toNat &&& m : Nat) : Int) := by
  rw [u8_and c m h0 h1 (by omega) (by omega)]; simp

theorem and192 (c : Int) (h0 : 0 ≤ c) (h1 : c < 256) : bits .and .u8 c 192 = c / 64 * 64 := by
  have e : (c.toNat &&& 192) = c.toNat / 64 * 64 := (mask_all ⟨c.toNat, by omega⟩).1
  rw [show (192 : Int) = ((192 : Nat) : Int) from rfl, u8_mask c 192 h0 h1 (by omega), e]; omega
theorem and31 (c : Int) (h0 : 0 ≤ c) (h1 : c < 256) : bits .and .u8 c 31 = c % 32 := by
  have e : (c.toNat &&& 31) = c.toNat % 32 := (mask_all ⟨c.toNat, by omega⟩).2.1
  rw [show (31 : Int) = ((31 : Nat) : Int) from rfl, u8_mask c 31 h0 h1 (by omega), e]; omega
theorem and15 (c : Int) (h0 : 0 ≤ c) (h1 : c < 256) : bits .and .u8 c 15 = c % 16 := by
  have e : (c.toNat &&& 15) = c.toNat % 16 := (mask_all ⟨c.toNat, by omega⟩).2.2.1
  rw [show (15 : Int) = ((15 : Nat) : Int) from rfl, u8_mask c 15 h0 h1 (by omega), e]; omega
theorem and7 (c : Int) (h0 : 0 ≤ c) (h1 : c < 256) : bits .and .u8 c 7 = c % 8 := by
  have e : (c.toNat &&& 7) = c.toNat % 8 := (mask_all ⟨c.toNat, by omega⟩).2.2.2.1
  rw [show (7 : Int) = ((7 : Nat) : Int) from rfl, u8_mask c 7 h0 h1 (by omega), e]; omega
theorem and63 (c : Int) (h0 : 0 ≤ c) (h1 : c < 256) : bits .and .u8 c 63 = c % 64 := by
  have e : (c.toNat &&& 63) = c.toNat % 64 := (mask_all ⟨c.toNat, by omega⟩).2.2.2.2
  rw [show (63 : Int) = ((63 : Nat) : Int) from rfl, u8_mask c 63 h0 h1 (by omega), e]; omega

theorem cont_test (c : Int) (h0 : 0 ≤ c) (h1 : c < 256) : (bits .and .u8 c 192 != 128) = !decide (128 ≤ c ∧ c < 192) := by
  rw [and192 c h0 h1]
  by_cases h : 128 ≤ c ∧ c < 192
  · have : c / 64 * 64 = 128 := by omega
    simp [this, h]
  · have : c / 64 * 64 ≠ 128 := by omega
    rw [decide_eq_false h]; simp [this]
theorem cont_eq (c : Int) (h0 : 0 ≤ c) (h1 : c < 256) : (bits .and .u8 c 192 == 128) = decide (128 ≤ c ∧ c < 192) := by
  have := cont_test c h0 h1
  rw [bne, Bool.not_eq_eq_eq_not] at this
  rw [this]; simp

theorem or_step (r d : Int) (h0 : 0 ≤ r) (h1 : r < 32768) (h2 : 0 ≤ d) (h3 : d < 64) : bits .or .i32 (r * 64) d = r * 64 + d := by
  exact i32_or6 (r * 64) d (by omega) (by omega) (by omega) h2 h3

end Go.Proofs.Qxb6609003aFmt
