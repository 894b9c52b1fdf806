/-
  FnSeccompFilterAgreesWithPackageMountDir, walked.
-/
import Derived.Test.Qxb6609099aFmtZz
namespace Go.Proofs.Qxb6609099aFmt
set_option linter.unusedVariables false
set_option linter.unusedSimpArgs false
open Go.RowKit Plain
open Go.Extern.Stop Go.Stop Go.Extern

/-- One concatenation, its result under a name. -/
theorem cat (a b : ByteArray) (l : List UInt8) (hl : l = a.data.toList ++ b.data.toList) (ha : a.size ≤ 100000000) (hb : b.size ≤ 100000000) (w : World) :
    (Op.stringOp .add a b).run Tryf.prog w = .ok (.string ⟨l.toArray⟩) w := by
  rw [run_string_add_if w a b, if_neg (by omega)]
  congr 2
  apply by_list
  rw [hl, ByteArray.data_append, Array.toList_append]

theorem mk_size (l : List UInt8) : (⟨l.toArray⟩ : ByteArray).size = l.length := by rw [size_list]

set_option maxHeartbeats 1000000 in
set_option maxRecDepth 100000 in
theorem agree_all (G : Interp) (dir s : ByteArray) (rev : Int) (w : World) (hG : G.answers w.tape) (ht : Tab w) (h0 : -9223372036854775808 ≤ rev) (h1 : rev ≤ 9223372036854775807) :
    Calls Tryf.prog 4 #[.string dir, .string s, .int .i64 rev] w fun e w' => e = .returned (.bool true) ∧ Below w.heap.size w w' := by
  have HG := hid hG
  have HT := hid ht
  clear hG ht
  go_enter Tryf.func4, Tryf.ntmps4
  go_wp2_with fail
  refine (bytes13_any dir s rev w).mono ?_
  rintro e wx ⟨⟨bv, rfl⟩, hx⟩
  have hx' := hx.symm
  subst hx'
  clear hx
  cases bv with
  | false =>
    go_wp2
    go_ret
    exact ⟨rfl, Below.refl _ _⟩
  | true =>
    by_cases d1 : (65536 : Int) < (dir.size : Int)
    · go_wp2
      go_ret
      exact ⟨rfl, Below.refl _ _⟩
    by_cases d2 : (65536 : Int) < (s.size : Int)
    · go_wp2
      go_ret
      exact ⟨rfl, Below.refl _ _⟩
    have hd : dir.size ≤ 65536 := by omega
    have hs : s.size ≤ 65536 := by omega
    go_wp2_with fail
    refine (newRoot dir w).mono ?_
    rintro e w1 ⟨rfl, B1⟩
    have hz1 := B1.size
    have HB1 := hid B1
    clear B1
    go_wp2_with fail
    obtain ⟨W1, hW1⟩ : ∃ W1, W1 = w1.alloc (.cells #[.string dir] 24) := ⟨_, rfl⟩
    rw [← hW1]
    have HW1 := hid (show Below w.heap.size w W1 by rw [hW1]; exact HB1.out.alloc hz1 _)
    have hc1 : W1.cell? ⟨w1.heap.size, 0, none⟩ = some (.string dir) := by rw [hW1]; simp
    have hzW : w1.heap.size < W1.heap.size := by rw [hW1]; simp
    clear hW1
    have HG1 := hid (show G.answers W1.tape by rw [HW1.out.tape]; exact HG.out)
    have HT1 := hid (HT.out.stays HW1.out)
    by_cases hok : Ok s.data.toList
    · have HOk := hid hok
      clear hok
      refine (filt_ok dir s W1 (by omega) (by omega) HOk.out).mono ?_
      rintro e w2 ⟨rfl, B2⟩
      have HW2 := hid (HW1.out.trans (B2.mono (by omega)))
      have hc2 : w2.cell? ⟨w1.heap.size, 0, none⟩ = some (.string dir) := (B2.cell (p := ⟨w1.heap.size, 0, none⟩) hzW).trans hc1
      have hz2 := Nat.le_trans (Nat.le_of_lt hzW) B2.size
      have HG2 := hid (show G.answers w2.tape by rw [HW2.out.tape]; exact HG.out)
      have HT2 := hid (HT1.out.stays B2)
      clear B2
      -- the parts
      have hp := pre_ok dir.data.toList
      have hpl : (pre dir.data.toList).length ≤ 200000 := by
        have := Lib.Pa.join_length_le [dir.data.toList, filtT, s.data.toList]
        rw [join_filt _ _ (ok_el HOk.out)] at this
        simp [Lib.Pa.lens, filtT] at this
        have e1 := size_list dir
        have e2 := size_list s
        rw [Array.length_toList] at e1 e2
        omega
      obtain ⟨A, hA⟩ : ∃ A : ByteArray, A = ⟨(pre dir.data.toList ++ (filtT ++ 47 :: s.data.toList)).toArray⟩ := ⟨_, rfl⟩
      obtain ⟨P, hP⟩ : ∃ P : ByteArray, P = ⟨(pre dir.data.toList).toArray⟩ := ⟨_, rfl⟩
      obtain ⟨T, hT⟩ : ∃ T : ByteArray, T = ⟨(filtT ++ 47 :: s.data.toList).toArray⟩ := ⟨_, rfl⟩
      have hsl := size_list s
      have hPl : P.size = (pre dir.data.toList).length := by rw [hP, mk_size]
      have hAl : A.size = P.size + 29 + s.size := by rw [hA, mk_size, hPl, List.length_append, List.length_append, List.length_cons, ← hsl]; simp [filtT]; omega
      have hTl : T.size = 29 + s.size := by rw [hT, mk_size, List.length_append, List.length_cons, ← hsl]; simp [filtT]; omega
      have hcat := cat ⟨#[118, 97, 114, 47, 108, 105, 98, 47, 115, 100, 111, 115, 47, 115, 101, 99, 99, 111, 109, 112, 47, 102, 105, 108, 116, 101, 114, 115, 47]⟩ s (filtT ++ 47 :: s.data.toList) (by simp [filtT]) (by decide) (by omega)
      rw [← hT] at hcat
      have HSuf := fun W => hid (suffix_ok A T (pre dir.data.toList) W (by rw [hA, hT]) (by omega))
      have hto := slice_to A P (filtT ++ 47 :: s.data.toList) (by rw [hA, hP]) ((A.size : Int) - 29 - (s.size : Int)) (by omega)
      have HPre := fun W => hid (prefix_ok P W (by rw [hP]; exact hp) (by omega))
      have hAb : A.size ≤ 1000000 := by omega
      have hAg : 29 + s.size ≤ A.size := by omega
      clear hAl hTl
      rw [← hA]
      by_cases hrev : 1 ≤ rev
      · obtain ⟨n, rfl⟩ : ∃ n : Nat, rev = n := ⟨rev.toNat, by omega⟩
        have hdl := dec_len n (by omega)
        have hrn : ¬ ((n : Int) < 1) := by omega
        have hrd : decide ((n : Int) < 1) = false := decide_eq_false hrn
        obtain ⟨B, hB⟩ : ∃ B : ByteArray, B = ⟨(pre dir.data.toList ++ mnt s.data.toList n).toArray⟩ := ⟨_, rfl⟩
        have c1 := cat P ⟨#[115, 110, 97, 112, 47]⟩ (pre dir.data.toList ++ [115, 110, 97, 112, 47]) (by rw [hP]) (by omega) (by decide)
        obtain ⟨X1, hX1⟩ : ∃ X1 : ByteArray, X1 = ⟨(pre dir.data.toList ++ [115, 110, 97, 112, 47]).toArray⟩ := ⟨_, rfl⟩
        rw [← hX1] at c1
        have l1 : X1.size ≤ 300000 := by rw [hX1, mk_size]; simp; omega
        have c2 := cat X1 s (pre dir.data.toList ++ [115, 110, 97, 112, 47] ++ s.data.toList) (by rw [hX1]) (by omega) (by omega)
        obtain ⟨X2, hX2⟩ : ∃ X2 : ByteArray, X2 = ⟨(pre dir.data.toList ++ [115, 110, 97, 112, 47] ++ s.data.toList).toArray⟩ := ⟨_, rfl⟩
        rw [← hX2] at c2
        have l2 : X2.size ≤ 400000 := by rw [hX2, mk_size]; simp; rw [Array.length_toList] at hsl; omega
        have c3 := cat X2 ⟨#[47]⟩ (pre dir.data.toList ++ [115, 110, 97, 112, 47] ++ s.data.toList ++ [47]) (by rw [hX2]) (by omega) (by decide)
        obtain ⟨X3, hX3⟩ : ∃ X3 : ByteArray, X3 = ⟨(pre dir.data.toList ++ [115, 110, 97, 112, 47] ++ s.data.toList ++ [47]).toArray⟩ := ⟨_, rfl⟩
        rw [← hX3] at c3
        have l3 : X3.size ≤ 500000 := by rw [hX3, mk_size]; simp; rw [Array.length_toList] at hsl; omega
        have c4 := cat X3 ⟨(Lib.decDigits n).toArray⟩ (pre dir.data.toList ++ mnt s.data.toList n) (by rw [hX3]; simp [mnt, snapT]) (by omega) (by rw [mk_size]; omega)
        rw [← hB] at c4
        obtain ⟨Dg, hDg⟩ : ∃ Dg : ByteArray, Dg = ⟨(Lib.decDigits n).toArray⟩ := ⟨_, rfl⟩
        rw [← hDg] at c4
        have HZ := fun W => hid (zzItoa n W (by omega) (by omega))
        rw [← hDg] at HZ
        have HM := hid (mount_ok dir s n w2 HT2.out (by omega) (by omega) (by omega) (by omega) HOk.out)
        rw [← hB] at HM
        clear hX1 hX2 hX3 hB hDg hA hP hT hp hpl hPl hsl hdl
        go_wp2_with fail
        refine HM.out.mono ?_
        rintro e w3 ⟨rfl, B3⟩
        have HW3 := hid (HW2.out.trans (B3.mono (by omega)))
        have hz3 := Nat.le_trans hz2 B3.size
        clear B3 HM
        go_wp2
        go_quiet (fail)
        go_wp2_with fail
        refine (HSuf _).out.mono ?_
        rintro e wx ⟨rfl, hx⟩
        have hx' := hx.symm
        subst hx'
        clear hx
        go_wp2_with fail
        refine (HPre _).out.mono ?_
        rintro e wx ⟨rfl, hx⟩
        have hx' := hx.symm
        subst hx'
        clear hx
        go_wp2_with fail
        refine (HZ _).out.mono ?_
        rintro e w4 ⟨rfl, B4⟩
        have HW4 := hid ((below_drewN HW3.out _).trans (B4.mono (by simp; omega)))
        clear B4
        go_wp2
        go_ret
        exact ⟨rfl, HW4.out⟩
      · have hrn : rev < 1 := by omega
        have hrd : decide (rev < 1) = true := decide_eq_true hrn
        have HM := hid (mount_bad G dir s rev w2 HG2.out (by omega) (fun h => hrev h.2))
        clear hrev hA hP hT hp hpl hPl hsl
        go_wp2_with fail
        refine HM.out.mono ?_
        rintro e w3 ⟨⟨a, rfl⟩, B3⟩
        have HW3 := hid (HW2.out.trans (B3.mono (by omega)))
        clear B3 HM
        go_wp2
        go_quiet (fail)
        go_wp2_with fail
        refine (HSuf _).out.mono ?_
        rintro e wx ⟨rfl, hx⟩
        have hx' := hx.symm
        subst hx'
        clear hx
        go_wp2_with fail
        refine (HPre _).out.mono ?_
        rintro e wx ⟨rfl, hx⟩
        have hx' := hx.symm
        subst hx'
        clear hx
        go_wp2
        go_ret
        exact ⟨rfl, below_drewN HW3.out _⟩
    · have HNo := hid hok
      clear hok
      refine (filt_bad G dir s W1 HG1.out (by omega) HNo.out).mono ?_
      rintro e w2 ⟨⟨a, rfl⟩, B2⟩
      have HW2 := hid (HW1.out.trans (B2.mono (by omega)))
      have hc2 : w2.cell? ⟨w1.heap.size, 0, none⟩ = some (.string dir) := (B2.cell (p := ⟨w1.heap.size, 0, none⟩) hzW).trans hc1
      have hz2 := Nat.le_trans (Nat.le_of_lt hzW) B2.size
      have HG2 := hid (show G.answers w2.tape by rw [HW2.out.tape]; exact HG.out)
      have HM := hid (mount_bad G dir s rev w2 HG2.out (by omega) (fun h => HNo.out h.1))
      clear B2
      go_wp2_with fail
      refine HM.out.mono ?_
      rintro e w3 ⟨⟨a', rfl⟩, B3⟩
      have HW3 := hid (HW2.out.trans (B3.mono (by omega)))
      clear B3 HM
      go_wp2
      go_quiet (fail)
      go_wp2
      go_ret
      exact ⟨rfl, below_drewN HW3.out _⟩

end Go.Proofs.Qxb6609099aFmt
