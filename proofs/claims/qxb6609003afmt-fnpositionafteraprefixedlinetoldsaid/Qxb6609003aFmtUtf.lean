/-
  WELL-FORMED UTF-8, PLAIN: a row of characters; its runes are the bytes that begin one.
-/
import Derived.Test.Qxb6609003aFmtPos
import Derived.Lib.DecodeN
namespace Go.Proofs.Qxb6609003aFmt
set_option linter.unusedVariables false
set_option linter.unusedSimpArgs false
open Plain

/-- A byte that goes on with a character. -/
def ct (x : Int) : Prop := 128 ≤ x ∧ x < 192

/-- The bytes of one character. -/
def Chr (c : List Int) : Prop :=
  (∃ a, c = [a] ∧ 0 ≤ a ∧ a < 128) ∨
  (∃ a b, c = [a, b] ∧ (194 ≤ a ∧ a ≤ 223) ∧ ct b) ∨
  (∃ a b d, c = [a, b, d] ∧ (224 ≤ a ∧ a ≤ 239) ∧ ct b ∧ ct d ∧ 2048 ≤ a % 16 * 4096 + b % 64 * 64 + d % 64 ∧ ¬ (55296 ≤ a % 16 * 4096 + b % 64 * 64 + d % 64 ∧ a % 16 * 4096 + b % 64 * 64 + d % 64 ≤ 57343)) ∨
  (∃ a b d e, c = [a, b, d, e] ∧ (240 ≤ a ∧ a ≤ 244) ∧ ct b ∧ ct d ∧ ct e ∧ 65536 ≤ a % 8 * 262144 + b % 64 * 4096 + d % 64 * 64 + e % 64 ∧ a % 8 * 262144 + b % 64 * 4096 + d % 64 * 64 + e % 64 ≤ 1114111)

def Good (l : List Int) : Prop := ∃ cs : List (List Int), l = cs.flatten ∧ ∀ c ∈ cs, Chr c

theorem good_nil : Good [] := ⟨[], rfl, by simp⟩
theorem good_snoc {a c : List Int} (h : Good a) (hc : Chr c) : Good (a ++ c) := by
  obtain ⟨cs, rfl, hcs⟩ := h
  refine ⟨cs ++ [c], by simp, fun x hx => ?_⟩
  rcases List.mem_append.1 hx with h | h
  · exact hcs x h
  · obtain rfl := List.mem_singleton.1 h; exact hc
theorem good_cons {a c : List Int} (hc : Chr c) (h : Good a) : Good (c ++ a) := by
  obtain ⟨cs, rfl, hcs⟩ := h
  refine ⟨c :: cs, by simp, fun x hx => ?_⟩
  rcases List.mem_cons.1 hx with h | h
  · subst h; exact hc
  · exact hcs x h

theorem chr_ns {c : List Int} (h : Chr c) : ns c = 1 := by
  unfold Chr ct at h
  rcases h with ⟨a, rfl, h1, h2⟩ | ⟨a, b, rfl, h1, h2⟩ | ⟨a, b, d, rfl, h1, h2, h3, _⟩ | ⟨a, b, d, e, rfl, h1, h2, h3, h4, _⟩
  · simp only [ns]; rw [if_neg (by omega)]
  · simp only [ns]; rw [if_neg (by omega), if_pos h2]
  · simp only [ns]; rw [if_neg (by omega), if_pos h2, if_pos h3]
  · simp only [ns]; rw [if_neg (by omega), if_pos h2, if_pos h3, if_pos h4]

theorem chr_nl {c : List Int} (h : Chr c) : c = [10] ∨ nl c = 0 := by
  unfold Chr ct at h
  rcases h with ⟨a, rfl, h1, h2⟩ | ⟨a, b, rfl, h1, h2⟩ | ⟨a, b, d, rfl, h1, h2, h3, _⟩ | ⟨a, b, d, e, rfl, h1, h2, h3, h4, _⟩
  · by_cases e : a = 10
    · left; rw [e]
    · right; simp [nl, e]
  · right; simp only [nl]; rw [if_neg (by omega), if_neg (by omega)]
  · right; simp only [nl]; rw [if_neg (by omega), if_neg (by omega), if_neg (by omega)]
  · right; simp only [nl]; rw [if_neg (by omega), if_neg (by omega), if_neg (by omega), if_neg (by omega)]

theorem chr_pos {c : List Int} (h : Chr c) : 1 ≤ c.length := by
  rcases h with ⟨a, rfl, _⟩ | ⟨a, b, rfl, _⟩ | ⟨a, b, d, rfl, _⟩ | ⟨a, b, d, e, rfl, _⟩ <;> simp

theorem chr_ct {c : List Int} (h : Chr c) (p : Nat) (h0 : 0 < p) (hp : p < c.length) : ct (c.getD p 0) := by
  rcases h with ⟨a, rfl, _⟩ | ⟨a, b, rfl, _, hb⟩ | ⟨a, b, d, rfl, _, hb, hd, _⟩ | ⟨a, b, d, e, rfl, _, hb, hd, he, _⟩
  · simp at hp; omega
  · simp at hp; obtain rfl : p = 1 := by omega
    exact hb
  · simp at hp
    have : p = 1 ∨ p = 2 := by omega
    rcases this with rfl | rfl
    · exact hb
    · exact hd
  · simp at hp
    have : p = 1 ∨ p = 2 ∨ p = 3 := by omega
    rcases this with rfl | rfl | rfl
    · exact hb
    · exact hd
    · exact he

/-- Behind the last newline it is well-formed. -/
theorem good_aft {l : List Int} (h : Good l) : Good (aft l) := by
  obtain ⟨cs, rfl, hcs⟩ := h
  induction cs with
  | nil => exact good_nil
  | cons c r ih =>
    have hc := hcs c (by simp)
    have hr : ∀ x ∈ r, Chr x := fun x hx => hcs x (by simp [hx])
    rw [List.flatten_cons, aft_append]
    split
    · exact ih hr
    · rcases chr_nl hc with e | e
      · rw [e]; exact ⟨r, by simp [aft, nl], hr⟩
      · rw [aft_free c e]; exact ⟨c :: r, by simp, hcs⟩

/-- Cut where a character begins. -/
theorem good_cut {l : List Int} (h : Good l) (p : Nat) (hp : p ≤ l.length) (hs : p < l.length → ¬ ct (l.getD p 0)) : Good (l.take p) ∧ Good (l.drop p) := by
  obtain ⟨cs, rfl, hcs⟩ := h
  induction cs generalizing p with
  | nil => simp; exact good_nil
  | cons c r ih =>
    have hc := hcs c (by simp)
    have hr : ∀ x ∈ r, Chr x := fun x hx => hcs x (by simp [hx])
    rw [List.flatten_cons] at *
    by_cases h0 : p = 0
    · subst h0
      exact ⟨by simpa using good_nil, ⟨c :: r, by simp, hcs⟩⟩
    · by_cases hlt : p < c.length
      · exfalso
        refine hs (by rw [List.length_append]; omega) ?_
        have := chr_ct hc p (by omega) hlt
        rwa [List.getD, List.getElem?_append_left hlt, ← List.getD]
      · have hle : c.length ≤ p := by omega
        have hlen : (c ++ r.flatten).length = c.length + r.flatten.length := List.length_append
        have := ih (p - c.length) hr (by omega) (fun hq => by
          have := hs (by omega)
          rwa [List.getD, List.getElem?_append_right hle, ← List.getD] at this)
        rw [List.take_append, List.drop_append, List.take_of_length_le hle, List.drop_eq_nil_of_le hle, List.nil_append]
        exact ⟨good_cons hc this.1, this.2⟩

theorem byte_at (l : List Int) (hb : ∀ x ∈ l, 0 ≤ x ∧ x < 256) (i : Nat) (h : i < l.length) : ((bs l).get! i).toNat = (l.getD i 0).toNat := by
  have := bs_get l hb i h
  omega

theorem bs_tail (c r : List Int) : (bs (c ++ r)).extract c.length (bs (c ++ r)).size = bs r := by
  apply ByteArray.ext
  apply Array.toList_inj.1
  rw [Lib.extract_data, bs_size, List.length_append]
  show ((Lib.bytesOf (c ++ r)).drop c.length).take _ = Lib.bytesOf r
  have e : Lib.bytesOf (c ++ r) = Lib.bytesOf c ++ Lib.bytesOf r := by simp [Lib.bytesOf]
  have e2 : (Lib.bytesOf c).length = c.length := by simp [Lib.bytesOf]
  have e3 : (Lib.bytesOf r).length = r.length := by simp [Lib.bytesOf]
  rw [e, List.drop_left' e2, List.take_of_length_le (by omega)]

set_option maxRecDepth 10000 in
theorem chr_width {c : List Int} (h : Chr c) (r : List Int) (hb : ∀ x ∈ c ++ r, 0 ≤ x ∧ x < 256) : (Utf8.decode (bs (c ++ r)) 0).2 = c.length := by
  rw [Lib.decode_at]
  unfold Lib.decodeN
  unfold Chr ct at h
  rw [bs_size]
  rcases h with ⟨a, rfl, h1, h2⟩ | ⟨a, b, rfl, h1, h2⟩ | ⟨a, b, d, rfl, h1, h2, h3, h4, h5⟩ | ⟨a, b, d, e, rfl, h1, h2, h3, h4, h5, h6⟩
  · have e0 := byte_at _ hb 0 (by simp)
    simp at e0
    simp only [List.cons_append, List.nil_append, Nat.zero_add]
    rw [e0, if_pos (by omega)]
    rfl
  · have e0 := byte_at _ hb 0 (by simp)
    have e1 := byte_at _ hb 1 (by simp)
    simp at e0 e1
    simp only [List.cons_append, List.nil_append, Nat.zero_add]
    rw [e0, e1, if_neg (by omega), if_pos ⟨by omega, by simp, by omega⟩, if_pos (by omega)]
    rfl
  · have e0 := byte_at _ hb 0 (by simp)
    have e1 := byte_at _ hb 1 (by simp)
    have e2 := byte_at _ hb 2 (by simp)
    simp at e0 e1 e2
    simp only [List.cons_append, List.nil_append, Nat.zero_add]
    rw [e0, e1, e2, if_neg (by omega), if_neg (by omega), if_pos ⟨by omega, ⟨by simp, by omega⟩, by simp, by omega⟩, if_pos (by omega)]
    rfl
  · have e0 := byte_at _ hb 0 (by simp)
    have e1 := byte_at _ hb 1 (by simp)
    have e2 := byte_at _ hb 2 (by simp)
    have e3 := byte_at _ hb 3 (by simp)
    simp at e0 e1 e2 e3
    simp only [List.cons_append, List.nil_append, Nat.zero_add]
    rw [e0, e1, e2, e3, if_neg (by omega), if_neg (by omega), if_neg (by omega), if_pos ⟨by omega, ⟨by simp, by omega⟩, ⟨by simp, by omega⟩, by simp, by omega⟩, if_pos (by omega)]
    rfl

theorem rc_cons {c : List Int} (h : Chr c) (r : List Int) (hb : ∀ x ∈ c ++ r, 0 ≤ x ∧ x < 256) : rc (c ++ r) = 1 + rc r := by
  have hp := chr_pos h
  have hsz : (bs (c ++ r)).size = c.length + r.length := by rw [bs_size, List.length_append]
  unfold rc Lib.runeCount
  obtain ⟨f, hf⟩ : ∃ f, (bs (c ++ r)).size = f + 1 := ⟨c.length + r.length - 1, by omega⟩
  rw [hf]
  conv => lhs; unfold Lib.runeCountFrom
  rw [if_pos (by omega), chr_width h r hb, Nat.zero_add]
  have t := Lib.tail_count (bs (c ++ r)) c.length f 0
  rw [bs_tail, Nat.add_zero] at t
  rw [← t, Lib.fuel_enough (bs r) f (bs r).size 0 (by rw [bs_size]; omega) (by omega)]

theorem rc_good {l : List Int} (h : Good l) (hb : ∀ x ∈ l, 0 ≤ x ∧ x < 256) : rc l = ns l := by
  obtain ⟨cs, rfl, hcs⟩ := h
  induction cs with
  | nil => rfl
  | cons c r ih =>
    rw [List.flatten_cons] at *
    rw [rc_cons (hcs c (by simp)) _ hb, ns_append, chr_ns (hcs c (by simp)), ih (fun x hx => hcs x (by simp [hx])) (fun x hx => hb x (by simp [hx]))]

end Go.Proofs.Qxb6609003aFmt
