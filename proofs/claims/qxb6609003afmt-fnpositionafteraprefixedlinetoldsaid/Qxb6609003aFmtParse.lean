/-
  zzDigits, zzParsePosition.
-/
import Derived.Test.Qxb6609003aFmtBase
import Derived.Laws.DeepStrings4
import Derived.Lib.ItoaMem
import Derived.Lib.Strings
namespace Go.Proofs.Qxb6609003aFmt
set_option linter.unusedVariables false
set_option linter.unusedSimpArgs false
open Go.RowKit Plain

/-- The byte at i. -/
def sby (s : ByteArray) (i : Nat) : Int := ((s.data.toList.getD i 0).toNat : Int)

theorem sby_get (s : ByteArray) (i : Nat) (h : i < s.size) : sby s i = ((s[i]'h).toNat : Int) := by
  have h2 : i < s.data.size := h
  have e : s.data.toList.getD i 0 = s.data[i]'h2 := by
    rw [List.getD, Array.getElem?_toList, Array.getElem?_eq_getElem h2]; rfl
  unfold sby
  rw [e]
  rfl

theorem run_idx (s : ByteArray) (p : Nat) (P : Int) (hP : P = p) (h : p < s.size) (w : World) : (Instr.index 9 (.string s) (.int .i64 P)).run Tryf.prog w = .ok (.int .u8 (sby s p)) w := by
  subst hP
  rw [sby_get s p h]
  simp [go_sem, Tryf.underlying9, h]

theorem size_list (s : ByteArray) : s.size = s.data.toList.length := by rw [Array.length_toList]; rfl

/-- From place i0 on the text reads D, then rest. -/
theorem sby_at {s : ByteArray} {i0 : Nat} {D rest : List UInt8} (h : s.data.toList.drop i0 = D ++ rest) (k : Nat) : sby s (i0 + k) = (((D ++ rest).getD k 0).toNat : Int) := by
  unfold sby
  rw [← h]
  simp [List.getD]

theorem dval_take (D : List UInt8) (k : Nat) (h : k < D.length) : dval (D.take (k + 1)) 0 = dval (D.take k) 0 * 10 + ((D.getD k 0).toNat - 48) := by
  rw [List.take_succ_eq_append_getElem h, dval_append]
  simp [dval, List.getD, h]
theorem dval_take_le (D : List UInt8) (k : Nat) : dval (D.take k) 0 ≤ dval D 0 := by
  have e : dval D 0 = dval (D.drop k) (dval (D.take k) 0) := by rw [← dval_append, List.take_append_drop]
  rw [e]; exact dval_ge _ _

set_option maxHeartbeats 1000000 in
set_option maxRecDepth 100000 in
theorem digits (s : ByteArray) (i0 m : Nat) (rest : List UInt8) (w : World) (hs : s.data.toList.drop i0 = Lib.decDigits m ++ rest) (hm : 1 ≤ m) (hm2 : m ≤ 4194304) (hsz : s.size ≤ 1000000)
    (hrest : rest = [] ∨ ¬ (48 ≤ (rest.getD 0 0).toNat ∧ (rest.getD 0 0).toNat ≤ 57)) (I : Int) (hI : I = i0) (E : Nat) (hE : E = i0 + (Lib.decDigits m).length) :
    Calls Tryf.prog 13 #[.string s, .int .i64 I] w fun e w' => e = .returned (.tuple #[.int .i64 (m : Int), .int .i64 (E : Int), .bool true]) ∧ w' = w := by
  subst hI
  obtain ⟨D, hD⟩ : ∃ D, D = Lib.decDigits m := ⟨_, rfl⟩
  have hpos : 0 < D.length := by rw [hD]; exact dec_pos m
  have hval : dval D 0 = m := by rw [hD]; exact dec_val m
  have hdig : ∀ c ∈ D, 48 ≤ c.toNat ∧ c.toNat ≤ 57 := by rw [hD]; exact dec_digit m
  have hlead : (D.getD 0 0).toNat ≠ 48 := by rw [hD]; exact dec_lead m hm
  rw [← hD] at hs hE
  have hlen : s.size = i0 + D.length + rest.length ∨ s.size ≤ i0 := by
    have := congrArg List.length hs
    rw [List.length_drop, List.length_append, ← size_list] at this
    omega
  have hlen2 : s.size = i0 + D.length + rest.length := by
    have := congrArg List.length hs
    rw [List.length_drop, List.length_append, ← size_list] at this
    omega
  clear hlen
  have H1 := hid hs
  have H2 := hid hval
  have H3 := hid hdig
  have H4 := hid hlead
  have H5 := hid hrest
  have HE := hid hE
  have HL := hid hlen2
  have hle1 : i0 + D.length ≤ s.size := by omega
  have hEb : E ≤ s.size := by omega
  clear hs hval hdig hlead hrest hD hE hlen2
  go_enter Tryf.func13, Tryf.ntmps13
  go_wp2
  go_loop [1, 8] (fun i n => ∃ k p, i = .int .i64 (p : Nat) ∧ p = i0 + k ∧ k ≤ D.length ∧ n = .int .i64 (dval (D.take k) 0 : Nat)) (fun i _ => s.size - (intOf i).toNat)
  case atStart => exact ⟨0, i0, rfl, rfl, Nat.zero_le _, rfl⟩
  case round =>
    obtain ⟨k, p, rfl, hp, hk, rfl⟩ := hrel
    have HP := hid hp
    have hpb : p ≤ s.size := by omega
    have hdv : dval (D.take k) 0 ≤ m := by have := dval_take_le D k; have := H2.out; omega
    clear hp
    by_cases hlt : k < D.length
    · have hps : p < s.size := by have := HP.out; omega
      have hidx := run_idx s p p rfl hps
      have hsb : sby s p = ((D.getD k 0).toNat : Int) := by
        rw [HP.out, sby_at H1.out k]
        simp [List.getD, List.getElem?_append_left hlt]
      have hdg := H3.out (D.getD k 0) (by simp [List.getD, hlt])
      have HS := hid (dval_take D k hlt)
      rw [hsb] at hidx
      generalize (D.getD k 0).toNat = c at *
      generalize dval (D.take k) 0 = v at *
      have c1 : (48 : Int) ≤ (c : Int) := by omega
      have c2 : (c : Int) ≤ 57 := by omega
      have hps' : (p : Int) < (s.size : Int) := by omega
      clear hsb
      go_wp2
      go_round
      case rel => exact ⟨k + 1, p + 1, by go_num, by have := HP.out; omega, by omega, by rw [HS.out]; go_num⟩
      case measure => simp [intOf]; omega
    · obtain rfl : k = D.length := by omega
      have hv : dval (D.take D.length) 0 = m := by rw [List.take_length]; exact H2.out
      rw [hv]
      have hpE : p = E := by rw [HP.out, HE.out]
      subst hpE
      have hne : ((p : Int) == (i0 : Int)) = false := by have := HP.out; simp; omega
      have hidx0 := run_idx s i0 i0 rfl (by omega)
      have hs0 : sby s i0 = ((D.getD 0 0).toNat : Int) := by
        have := sby_at H1.out 0
        rw [Nat.add_zero] at this
        rw [this]
        simp [List.getD, List.getElem?_append_left hpos]
      rw [hs0] at hidx0
      have hl48 := H4.out
      generalize (D.getD 0 0).toNat = c0 at *
      have hz0 : ((c0 : Int) == 48) = false := by simp; omega
      clear hs0 hv hl48
      rcases H5.out with hr | hr
      · have hpe : ¬ (p : Int) < (s.size : Int) := by have := HL.out; have := HP.out; rw [hr] at *; simp at *; omega
        clear hr
        go_wp2
        go_ret3
        exact ⟨rfl, rfl⟩
      · by_cases hr0 : rest.length = 0
        · have hpe : ¬ (p : Int) < (s.size : Int) := by have := HL.out; have := HP.out; omega
          clear hr
          go_wp2
          go_ret3
          exact ⟨rfl, rfl⟩
        · have hpe : (p : Int) < (s.size : Int) := by have := HL.out; have := HP.out; omega
          have hidx := run_idx s p p rfl (by omega)
          have hsp : sby s p = ((rest.getD 0 0).toNat : Int) := by
            rw [HP.out, sby_at H1.out D.length]
            simp [List.getD, List.getElem?_append_right]
          rw [hsp] at hidx
          generalize (rest.getD 0 0).toNat = c at *
          clear hsp
          by_cases h48 : 48 ≤ c
          · have g1 : (48 : Int) ≤ (c : Int) := by omega
            have g2 : ¬ ((c : Int) ≤ 57) := by omega
            clear hr
            go_wp2
            go_ret3
            exact ⟨rfl, rfl⟩
          · have g1 : ¬ ((48 : Int) ≤ (c : Int)) := by omega
            clear hr
            go_wp2
            go_ret3
            exact ⟨rfl, rfl⟩


theorem by_list {s : ByteArray} {l : List UInt8} (h : s.data.toList = l) : s = ⟨l.toArray⟩ := by
  cases s with
  | mk a => subst h; simp

theorem cut_bytes (s : ByteArray) (a b : Nat) (l : List UInt8) (h : (s.data.toList.drop a).take (b - a) = l) : s.extract a b = ⟨l.toArray⟩ := by
  apply by_list
  rw [Lib.extract_data]
  exact h

def midT : List UInt8 := [44, 32, 99, 111, 108, 117, 109, 110, 32]
def leadT : List UInt8 := [108, 105, 110, 101, 32]

set_option maxHeartbeats 1000000 in
theorem parse (L C : Nat) (w : World) (hL : 1 ≤ L) (hL2 : L ≤ 4194304) (hC : 1 ≤ C) (hC2 : C ≤ 4194304) :
    Calls Tryf.prog 8 #[.string ⟨(posText L C).toArray⟩] w fun e w' => e = .returned (.tuple #[.int .i64 (L : Int), .int .i64 (C : Int), .bool true]) ∧ w' = w := by
  obtain ⟨s, hs⟩ : ∃ s : ByteArray, s = ⟨(posText L C).toArray⟩ := ⟨_, rfl⟩
  have hsl : s.data.toList = leadT ++ (Lib.decDigits L ++ (midT ++ Lib.decDigits C)) := by
    rw [hs]
    simp [posText, Lib.itoa_nonneg, leadT, midT]
  rw [← hs]
  clear hs
  obtain ⟨E1, hE1⟩ : ∃ E1, E1 = 5 + (Lib.decDigits L).length := ⟨_, rfl⟩
  have hl1 := dec_len L (by omega)
  have hl2 := dec_len C (by omega)
  have hp2 := dec_pos C
  have hsz : s.size = E1 + 9 + (Lib.decDigits C).length := by
    rw [size_list, hsl, hE1]
    simp [leadT, midT]; omega
  have d1 : s.data.toList.drop 5 = Lib.decDigits L ++ (midT ++ Lib.decDigits C) := by
    rw [hsl]; exact List.drop_left' rfl
  have dE : s.data.toList.drop E1 = midT ++ Lib.decDigits C := by
    rw [hE1, ← List.drop_drop, d1]; exact List.drop_left' rfl
  have d2 : s.data.toList.drop (E1 + 9) = Lib.decDigits C ++ [] := by
    rw [← List.drop_drop, dE, List.append_nil]; exact List.drop_left' rfl
  have c1 : s.extract 0 5 = ⟨#[108, 105, 110, 101, 32]⟩ := cut_bytes s 0 5 leadT (by rw [List.drop_zero, hsl]; exact List.take_left' rfl)
  have c2 : s.extract E1 (E1 + 9) = ⟨#[44, 32, 99, 111, 108, 117, 109, 110, 32]⟩ := cut_bytes s E1 (E1 + 9) midT (by rw [dE, Nat.add_sub_cancel_left]; exact List.take_left' rfl)
  have r1 : ∀ w, (Instr.slice 9 (.string s) none (some (.int .i64 5)) none).run Tryf.prog w = .ok (.string ⟨#[108, 105, 110, 101, 32]⟩) w := by
    intro w
    rw [run_slice_string_to_if w 9 s .i64 5 Tryf.underlying9, if_pos (by omega), ← c1]
    rfl
  have r2 : ∀ w, (Instr.slice 9 (.string s) (some (.int .i64 (E1 : Int))) (some (.int .i64 ((E1 : Int) + 9))) none).run Tryf.prog w = .ok (.string ⟨#[44, 32, 99, 111, 108, 117, 109, 110, 32]⟩) w := by
    intro w
    rw [run_slice_string_if w 9 s .i64 .i64 E1 (E1 + 9) Tryf.underlying9, if_pos (by omega), if_pos (by omega), ← c2]
    rfl
  have K1 := hid (digits s 5 L (midT ++ Lib.decDigits C) w d1 hL hL2 (by omega) (Or.inr (by simp [midT])) 5 rfl E1 hE1)
  have K2 := hid (digits s (E1 + 9) C [] w d2 hC hC2 (by omega) (Or.inl rfl) ((E1 : Int) + 9) rfl s.size hsz)
  have hszl : E1 + 9 ≤ s.size := by omega
  have hszu : s.size ≤ 1000 := by omega
  clear hsl d1 d2 dE c1 c2 hsz hE1 hl1 hl2 hp2
  go_enter Tryf.func8, Tryf.ntmps8
  go_wp2_with fail
  refine K1.out.mono ?_
  rintro e wx ⟨rfl, hx⟩
  have hx' := hx.symm
  subst hx'
  clear hx
  go_wp2_with fail
  refine K2.out.mono ?_
  rintro e wx ⟨rfl, hx⟩
  have hx' := hx.symm
  subst hx'
  clear hx
  go_wp2
  go_ret3
  exact ⟨rfl, rfl⟩

end Go.Proofs.Qxb6609003aFmt
