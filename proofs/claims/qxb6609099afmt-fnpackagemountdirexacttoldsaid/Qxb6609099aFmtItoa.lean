/-
  zzItoa.
-/
import Derived.Test.Qxb6609099aFmtMount
import Derived.Laws.IdiomStrings
namespace Go.Proofs.Qxb6609099aFmt
set_option linter.unusedVariables false
set_option linter.unusedSimpArgs false
open Go.RowKit Plain

/-- What is written so far: D at the end of the row; m is left. -/
structure Wr (rev m : Nat) (D : List UInt8) (c : Array Value) : Prop where
  size : c.size = 24
  split : Lib.decDigits rev = (if m = 0 then D else Lib.decDigits m ++ D)
  at' : ∀ j, j < D.length → c[24 - D.length + j]? = some (.int .u8 ((D.getD j 0).toNat : Int))

theorem Wr.len {rev m : Nat} {D : List UInt8} {c : Array Value} (h : Wr rev m D c) (hr : rev ≤ 9223372036854775807) : D.length ≤ 20 ∧ (0 < m → D.length ≤ 19) := by
  have hl := dec_len rev (by omega)
  have hs := h.split
  by_cases h0 : m = 0
  · rw [if_pos h0] at hs; rw [hs] at hl; exact ⟨hl, fun h => by omega⟩
  · rw [if_neg h0] at hs
    rw [hs, List.length_append] at hl
    have := List.length_pos_iff.2 (dec_pos m)
    omega

theorem Wr.step {rev m : Nat} {D : List UInt8} {c : Array Value} (h : Wr rev m D c) (hr : rev ≤ 9223372036854775807) (hm : 0 < m) (v : Value) (hv : v = .int .u8 ((48 + m % 10 : Nat) : Int)) :
    Wr rev (m / 10) (UInt8.ofNat (48 + m % 10) :: D) (c.setIfInBounds (23 - D.length) v) := by
  have hl := (h.len hr).2 hm
  have dt : (UInt8.ofNat (48 + m % 10)).toNat = 48 + m % 10 := by rw [UInt8.toNat_ofNat']; omega
  refine ⟨by rw [Array.size_setIfInBounds]; exact h.size, ?_, fun j hj => ?_⟩
  · rw [h.split, if_neg (by omega)]
    conv => lhs; rw [Lib.decDigits]
    by_cases h10 : m < 10
    · rw [dif_pos h10, if_pos (by omega), show m % 10 = m by omega]; rfl
    · rw [dif_neg h10, if_neg (by omega), List.append_assoc]; rfl
  · rw [List.length_cons] at hj ⊢
    cases j with
    | zero =>
      rw [show 24 - (D.length + 1) + 0 = 23 - D.length by omega, Array.getElem?_setIfInBounds_self_of_lt (by rw [h.size]; omega), hv]
      simp only [List.getD_cons_zero]
      rw [dt]
    | succ j =>
      rw [Array.getElem?_setIfInBounds_ne (by omega), show 24 - (D.length + 1) + (j + 1) = 24 - D.length + j by omega, h.at' j (by omega), List.getD_cons_succ]

theorem Wr.start (rev : Nat) (hr : 1 ≤ rev) (c : Array Value) (hc : c.size = 24) : Wr rev rev [] c := ⟨hc, by rw [if_neg (by omega), List.append_nil], by simp⟩

set_option maxHeartbeats 4000000 in
set_option maxRecDepth 100000 in
theorem zzItoa (rev : Nat) (w : World) (hr0 : 1 ≤ rev) (hr : rev ≤ 9223372036854775807) : Calls Tryf.prog 17 #[.int .i64 (rev : Int)] w fun e w' => e = .returned (.string ⟨(Lib.decDigits rev).toArray⟩) ∧ Below w.heap.size w w' := by
  have hpos : ¬ ((rev : Int) ≤ 0) := by omega
  go_enter Tryf.func17, Tryf.ntmps17
  go_wp2
  go_loopw [0, 4] (fun n i wr => ∃ (m : Nat) (D : List UInt8) (c : Array Value), n = .int .i64 (m : Nat) ∧ i = .int .i64 ((24 - D.length : Nat) : Int) ∧ wr = w.alloc (.cells c 42) ∧ m ≤ rev ∧ Hid (Wr rev m D c)) (fun n _ _ => (intOf n).toNat)
  case atStart => exact ⟨rev, [], _, rfl, rfl, rfl, Nat.le_refl _, hid (Wr.start rev hr0 _ (by simp))⟩
  case round =>
    obtain ⟨m, D, c, rfl, rfl, rfl, hmr, HW⟩ := hrel
    have hlen := HW.out.len hr
    have hcs := HW.out.size
    by_cases hm : 0 < m
    · have hl2 := hlen.2 hm
      have hmI : (0 : Int) < (m : Int) := by omega
      obtain ⟨p, hp⟩ : ∃ p, p = 23 - D.length := ⟨_, rfl⟩
      have hi1 : ((24 - D.length : Nat) : Int) = (p : Int) + 1 := by omega
      rw [hi1]
      have hpc : p < c.size := by omega
      have hp24 : (p : Int) < 24 := by omega
      have HP := hid hp
      have HWS := hid (HW.out.step hr hm (.int .u8 (48 + (m : Int) % 10)) (by congr 1))
      rw [← hp] at HWS
      clear hp hi1 hcs hlen
      go_wp2
      go_roundw
      case rel => exact ⟨m / 10, _, _, by go_num, by rw [List.length_cons]; have := HP.out; go_num, rfl, by omega, HWS⟩
      case measure => simp [intOf]; omega
    · obtain rfl : m = 0 := by omega
      have hD : D = Lib.decDigits rev := by have := HW.out.split; rw [if_pos rfl] at this; exact this.symm
      have h20 := hlen.1
      have hDp : 0 < D.length := by rw [hD]; exact List.length_pos_iff.2 (dec_pos rev)
      obtain ⟨p, hp⟩ : ∃ p, p = 24 - D.length := ⟨_, rfl⟩
      rw [← hp]
      have hal : Tryf.prog.arrayLen 42 = 24 := by kernel_rfl
      have hsl : ∀ W, (Instr.sliceAt 42 (.pointer (some ⟨w.heap.size, 0, none⟩)) (some (.int .i64 (p : Int))) none none).run Tryf.prog W = .ok (.slice (some ⟨w.heap.size, p, none⟩) D.length D.length) W := fun W => by
        have hz : (sizeOf (Tryf.prog.elem 42)).run Tryf.prog W = .ok 1 W := by kernel_rfl
        rw [run_sliceAt_array_l W 42 ⟨w.heap.size, 0, none⟩ (by kernel_rfl) .i64 p (by omega) (by rw [hal]; omega), hz, hal]
        have e1 : ((p : Int)).toNat = p := by omega
        simp only [Result.andThen, slicedAt, e1]
        have ea : (⟨w.heap.size, 0, none⟩ : Addr).add p = ⟨w.heap.size, p, none⟩ := by cases p <;> simp [Addr.add]
        rw [if_neg (by omega), Nat.mul_one, ea, show 24 - p = D.length by omega]
      have hcv : (convert 43 9 (.slice (some ⟨w.heap.size, p, none⟩) D.length D.length)).run Tryf.prog (w.alloc (.cells c 42)) = .ok (.string ⟨(Lib.decDigits rev).toArray⟩) (w.alloc (.cells c 42)) := by
        rw [← hD]
        refine run_convert_bytes_back (P := Tryf.prog) _ 43 9 5 ⟨w.heap.size, p, none⟩ D.length D Tryf.underlying43 Tryf.underlying5 Tryf.underlying9 (fun j hj => ?_)
        have ea : (⟨w.heap.size, p, none⟩ : Addr).add j = ⟨w.heap.size, p + j, none⟩ := by cases j <;> simp [Addr.add]
        rw [ea]
        have := HW.out.at' j hj
        rw [← hp] at this
        simp [List.getD, hj] at this
        simpa using this
      have HB := hid ((Below.refl w.heap.size w).alloc (Nat.le_refl _) (.cells c 42))
      clear hp hD hlen hcs
      go_wp2
      go_ret
      exact ⟨rfl, HB.out⟩

end Go.Proofs.Qxb6609099aFmt
