/-
  zzCountNewlines, zzLineCol, bytealg.LastIndexByte.
-/
import Derived.Test.Qxb6609003aFmtBase
import Derived.Test.Qxb6609003aFmtShelf
import Derived.Test.Qxb6609003aFmtBits
namespace Go.Proofs.Qxb6609003aFmt
set_option linter.unusedVariables false
set_option linter.unusedSimpArgs false
open Go.RowKit Plain

theorem take_succ (l : List Int) (k : Nat) (h : k < l.length) : l.take (k + 1) = l.take k ++ [l.getD k 0] := by
  rw [List.take_succ_eq_append_getElem h]; simp [List.getD, h]

theorem nl_take (l : List Int) (k : Nat) (h : k < l.length) : nl (l.take (k + 1)) = nl (l.take k) + (if l.getD k 0 = 10 then 1 else 0) := by
  rw [take_succ l k h, nl_append]; simp [nl]
theorem nl_take_le (l : List Int) (k : Nat) : nl (l.take k) ≤ k := by
  have := nl_le (l.take k); have := List.length_take_le k l; omega

set_option maxHeartbeats 400000 in
theorem countNl (ao : Option Addr) (cap : Nat) (l : List Int) (w : World) (hT : Txt w ao l) :
    Calls Tryf.prog 11 #[.slice ao l.length cap] w fun e w' => e = .returned (.int .i64 (nl l : Nat)) ∧ w' = w := by
  obtain ⟨hb, t⟩ := hT
  have HT := hid t
  clear t
  go_enter Tryf.func11, Tryf.ntmps11
  go_wp2
  go_loop [3, 4] (fun n i => ∃ k, i = .int .i64 (k : Nat) ∧ k ≤ l.length ∧ n = .int .i64 (nl (l.take k) : Nat)) (fun _ i => l.length - (intOf i).toNat)
  case atStart => exact ⟨0, rfl, Nat.zero_le _, rfl⟩
  case round =>
    obtain ⟨k, rfl, hk, rfl⟩ := hrel
    have hle := nl_take_le l k
    by_cases hlt : k < l.length
    · obtain ⟨b, o, rfl, hc⟩ := HT.out (by omega)
      have cp := hc k hlt
      have HS := hid (nl_take l k hlt)
      generalize hcv : l.getD k 0 = c at cp
      have HV := hid hcv
      generalize nl (l.take k) = m at *
      clear hcv hc
      by_cases hq : c = 10
      · subst hq
        go_wp2
        go_round
        case rel => exact ⟨k + 1, by go_num, by omega, by rw [HS.out, if_pos HV.out]; go_num⟩
        case measure => simp [intOf]; omega
      · have hqb : (c == 10) = false := by simpa using hq
        have HQ := hid hq
        clear hq
        go_wp2
        go_round
        case rel => exact ⟨k + 1, by go_num, by omega, by rw [HS.out, if_neg (by rw [HV.out]; exact HQ.out)]; rfl⟩
        case measure => simp [intOf]; omega
    · obtain rfl : k = l.length := by omega
      have HF := hid (show nl (l.take l.length) = nl l by rw [List.take_length])
      generalize nl (l.take l.length) = m at *
      go_wp2
      go_ret
      exact ⟨by rw [← HF.out]; rfl, rfl⟩

theorem ret_int {k : IntKind} {a b : Int} (h : a = b) : Ending.returned (.int k a) = .returned (.int k b) := by rw [h]
theorem ret_ints {a a' b b' : Int} (h : a = a') (h' : b = b') : Ending.returned (.tuple #[.int .i64 a, .int .i64 b]) = .returned (.tuple #[.int .i64 a', .int .i64 b']) := by rw [h, h']

/-! ### zzLineCol -/
/-- The column behind l, counted forward. -/
def colTo (l : List Int) (k : Nat) : Nat := 1 + ns (aft (l.take k))
theorem colTo_nl (l : List Int) (k : Nat) (h : k < l.length) (hc : l.getD k 0 = 10) : colTo l (k + 1) = 1 := by
  unfold colTo; rw [take_succ l k h, aft_append, hc]; simp [nl, aft, ns]
theorem colTo_st (l : List Int) (k : Nat) (h : k < l.length) (hc : l.getD k 0 ≠ 10) (hs : ¬ (128 ≤ l.getD k 0 ∧ l.getD k 0 < 192)) : colTo l (k + 1) = colTo l k + 1 := by
  unfold colTo; rw [take_succ l k h, aft_append, if_neg (by simp only [nl]; rw [if_neg hc]; omega), ns_append]; simp only [ns]; rw [if_neg hs]; omega
theorem colTo_cont (l : List Int) (k : Nat) (h : k < l.length) (hc : l.getD k 0 ≠ 10) (hs : 128 ≤ l.getD k 0 ∧ l.getD k 0 < 192) : colTo l (k + 1) = colTo l k := by
  unfold colTo; rw [take_succ l k h, aft_append, if_neg (by simp only [nl]; rw [if_neg hc]; omega), ns_append]; simp only [ns]; rw [if_pos hs]; omega
theorem colTo_le (l : List Int) (k : Nat) : colTo l k ≤ k + 1 := by
  unfold colTo
  have := ns_le (aft (l.take k)); have := aft_len (l.take k); have := List.length_take_le k l; omega

set_option maxHeartbeats 400000 in
theorem lineCol (ao : Option Addr) (cap : Nat) (l : List Int) (w : World) (hT : Txt w ao l) (hby : ∀ x ∈ l, 0 ≤ x ∧ x < 256) (L C : Nat) (hL : 1 + nl l = L) (hC : 1 + ns (aft l) = C) :
    Calls Tryf.prog 9 #[.slice ao l.length cap] w fun e w' => e = .returned (.tuple #[.int .i64 (L : Int), .int .i64 (C : Int)]) ∧ w' = w := by
  obtain ⟨hb, t⟩ := hT
  have HT := hid t
  have HB := hid hby
  have HL := hid hL
  have HC := hid hC
  clear t hby hL hC
  go_enter Tryf.func9, Tryf.ntmps9
  go_wp2
  go_loop [4, 5, 6] (fun a b i => ∃ k, i = .int .i64 (k : Nat) ∧ k ≤ l.length ∧ a = .int .i64 (1 + nl (l.take k) : Nat) ∧ b = .int .i64 (colTo l k : Nat)) (fun _ _ i => l.length - (intOf i).toNat)
  case atStart => exact ⟨0, rfl, Nat.zero_le _, rfl, rfl⟩
  case round =>
    obtain ⟨k, rfl, hk, rfl, rfl⟩ := hrel
    have hle := nl_take_le l k
    have hce := colTo_le l k
    by_cases hlt : k < l.length
    · obtain ⟨b, o, rfl, hc⟩ := HT.out (by omega)
      have cp := hc k hlt
      have HS := hid (nl_take l k hlt)
      have HC1 := hid (colTo_nl l k hlt)
      have HC2 := hid (colTo_st l k hlt)
      have HC3 := hid (colTo_cont l k hlt)
      have hcb := HB.out (l.getD k 0) (by simp [List.getD, hlt])
      generalize l.getD k 0 = c at *
      generalize nl (l.take k) = m at *
      generalize colTo l k = d at *
      clear hc
      by_cases hq : c = 10
      · subst hq
        go_wp2
        go_round
        case rel => exact ⟨k + 1, by go_num, by omega, by rw [HS.out]; go_num, by rw [HC1.out rfl]; rfl⟩
        case measure => simp [intOf]; omega
      · have hqb : (c == 10) = false := by simpa using hq
        have HQ := hid hq
        clear hq
        have hct := cont_test c hcb.1 hcb.2
        by_cases hs : 128 ≤ c ∧ c < 192
        · have hz : (bits .and .u8 c 192 != 128) = false := by rw [hct]; simp [hs]
          clear hct
          have HZ := hid hs
          clear hs
          go_wp2
          go_round
          case rel => exact ⟨k + 1, by go_num, by omega, by rw [HS.out, if_neg HQ.out]; rfl, by rw [HC3.out HQ.out HZ.out]⟩
          case measure => simp [intOf]; omega
        · have hz : (bits .and .u8 c 192 != 128) = true := by rw [hct]; simp [hs]
          clear hct
          have HZ := hid hs
          clear hs
          go_wp2
          go_round
          case rel => exact ⟨k + 1, by go_num, by omega, by rw [HS.out, if_neg HQ.out]; rfl, by rw [HC2.out HQ.out HZ.out]; go_num⟩
          case measure => simp [intOf]; omega
    · obtain rfl : k = l.length := by omega
      have HF := hid (show nl (l.take l.length) = nl l by rw [List.take_length])
      have HG := hid (show colTo l l.length = 1 + ns (aft l) by unfold colTo; rw [List.take_length])
      generalize nl (l.take l.length) = m at *
      generalize colTo l l.length = d at *
      go_wp2
      go_ret2
      exact ⟨ret_ints (by have := HL.out; have := HF.out; omega) (by have := HC.out; have := HG.out; omega), rfl⟩

/-! ### bytes.LastIndexByte of a newline -/
/-- Where the last newline stands; the number's successor. -/
def behind (l : List Int) : Nat := l.length - (aft l).length

theorem behind_take_free (l : List Int) (k : Nat) (h : k < l.length) (hf : nl (l.drop (k + 1)) = 0) (hc : l.getD k 0 = 10) : behind l = k + 1 := by
  have e2 : aft l = l.drop (k + 1) := by
    have e : aft l = aft (l.take (k + 1) ++ l.drop (k + 1)) := by rw [List.take_append_drop]
    rw [e, aft_append, if_neg (by omega), take_succ l k h, aft_append, hc]
    simp [nl, aft]
  unfold behind
  rw [e2]; simp; omega
theorem behind_none (l : List Int) (h : nl l = 0) : behind l = 0 := by
  unfold behind; rw [aft_free l h]; omega
theorem nl_drop (l : List Int) (k : Nat) (h : k < l.length) : nl (l.drop k) = (if l.getD k 0 = 10 then 1 else 0) + nl (l.drop (k + 1)) := by
  rw [List.drop_eq_getElem_cons h]; simp [nl, List.getD, h]

set_option maxHeartbeats 400000 in
theorem lastIdx (ao : Option Addr) (cap : Nat) (l : List Int) (w : World) (hT : Txt w ao l) :
    Calls Tryf.prog 21 #[.slice ao l.length cap, .int .u8 10] w fun e w' => e = .returned (.int .i64 ((behind l : Int) - 1)) ∧ w' = w := by
  obtain ⟨hb, t⟩ := hT
  have HT := hid t
  clear t
  go_enter Tryf.func21, Tryf.ntmps21
  go_wp2
  go_loop [5] (fun i => ∃ k, i = .int .i64 ((k : Nat) - 1 : Int) ∧ k ≤ l.length ∧ nl (l.drop k) = 0) (fun i => (intOf i + 1).toNat)
  case atStart => exact ⟨l.length, rfl, Nat.le_refl _, by simp [nl]⟩
  case round =>
    obtain ⟨k, rfl, hk, hf⟩ := hrel
    have HF := hid hf
    clear hf
    by_cases hlt : 0 < k
    · obtain ⟨j, rfl⟩ : ∃ j, k = j + 1 := ⟨k - 1, by omega⟩
      obtain ⟨b, o, rfl, hc⟩ := HT.out (by omega)
      have cp := hc j (by omega)
      have HB := hid (behind_take_free l j (by omega) HF.out)
      have HN := hid (nl_drop l j (by omega))
      generalize l.getD j 0 = c at *
      clear hc
      rw [show ((j + 1 : Nat) : Int) - 1 = (j : Int) by omega]
      by_cases hq : c = 10
      · subst hq
        have HB2 := hid (HB.out rfl)
        clear HB HN
        go_wp2
        go_ret
        exact ⟨ret_int (by rw [HB2.out]; omega), rfl⟩
      · have hqb : (c == 10) = false := by simpa using hq
        have HQ := hid hq
        clear hq
        go_wp2
        go_round
        case rel => exact ⟨j, by go_num, by omega, by rw [HN.out, if_neg HQ.out, HF.out]⟩
        case measure => simp [intOf]
    · obtain rfl : k = 0 := by omega
      have HB := hid (behind_none l (by simpa using HF.out))
      go_wp2
      go_ret
      exact ⟨by rw [HB.out]; rfl, rfl⟩

set_option maxHeartbeats 400000 in
theorem lastIndexNl (ao : Option Addr) (cap : Nat) (l : List Int) (w : World) (hT : Txt w ao l) :
    Calls Tryf.prog 16 #[.slice ao l.length cap, .int .u8 10] w fun e w' => e = .returned (.int .i64 ((behind l : Int) - 1)) ∧ w' = w := by
  have HT := hid hT
  clear hT
  generalize hb : behind l = b
  have HB := hid hb
  clear hb
  go_enter Tryf.func16, Tryf.ntmps16
  go_wp2_with fail
  refine (lastIdx ao cap l w HT.out).mono ?_
  rw [HB.out]
  rintro e w' ⟨rfl, hw⟩
  have hw' := hw.symm
  subst hw'
  go_wp2
  go_ret
  exact ⟨rfl, rfl⟩

end Go.Proofs.Qxb6609003aFmt
