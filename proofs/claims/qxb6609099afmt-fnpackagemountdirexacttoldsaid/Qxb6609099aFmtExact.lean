/-
  zzRootPrefix, Model, zzModelPrefix; FnPackageMountDirExact, walked.
-/
import Derived.Test.Qxb6609099aFmtDirs
namespace Go.Proofs.Qxb6609099aFmt
set_option linter.unusedVariables false
set_option linter.unusedSimpArgs false
open Go.RowKit Plain
open Go.Extern.Stop Go.Stop Go.Extern

set_option maxHeartbeats 1000000 in
theorem rootPrefix (s : ByteArray) (w : World) (hs : s.size ≤ 1048576) (R : ByteArray) (hR : R.data.toList = rp s.data.toList) : Calls Tryf.prog 23 #[.string s] w fun e w' => e = .returned (.string R) ∧ w' = w := by
  by_cases h1 : s.data.toList = []
  · have e1 : s.toList.isEmpty = true := by rw [Lib.toList_data, h1]; rfl
    have hRR := by_list hR
    unfold rp at hRR
    rw [if_pos h1] at hRR
    subst hRR
    clear h1 hR
    go_enter Tryf.func23, Tryf.ntmps23
    go_wp2
    go_ret
    exact ⟨rfl, rfl⟩
  have e1 := not_empty h1
  by_cases h2 : s.data.toList = [47]
  · have e2 : (s.toList == [47]) = true := by rw [Lib.toList_data, h2]; rfl
    have hRR := by_list hR
    unfold rp at hRR
    rw [if_neg h1, if_pos h2] at hRR
    subst hRR
    clear h1 h2 hR
    go_enter Tryf.func23, Tryf.ntmps23
    go_wp2
    go_ret
    exact ⟨rfl, rfl⟩
  have e2 : (s.toList == [47]) = false := by rw [Lib.toList_data]; simpa using h2
  have hRR := by_list hR
  unfold rp at hRR
  rw [if_neg h1, if_neg h2] at hRR
  have hc := cat s ⟨#[47]⟩ (s.data.toList ++ [47]) rfl (by omega) (by decide)
  rw [← hRR] at hc
  clear h1 h2 hR hRR
  go_enter Tryf.func23, Tryf.ntmps23
  go_wp2
  go_ret
  exact ⟨rfl, rfl⟩

theorem join2 (dir : ByteArray) (bk : Nat) (w : World) (hd : dir.size ≤ 1048576) (A : ByteArray) (hA : A = ⟨(pre dir.data.toList ++ modelT).toArray⟩)
    (c0 : w.cell? ⟨bk, 0, none⟩ = some (.string dir)) (c1 : w.cell? ⟨bk, 1, none⟩ = some (.string ⟨modelT.toArray⟩)) :
    Calls Tryf.prog 21 #[.slice (some ⟨bk, 0, none⟩) 2 2] w fun e w' => e = .returned (.string A) ∧ Below w.heap.size w w' := by
  have h := Tryf.filepath_Join_rules bk 0 2 [dir, ⟨modelT.toArray⟩] w (by
    intro j x hj
    rcases j with _ | _ | j
    · simp at hj; subst hj; exact c0
    · simp at hj; subst hj; exact c1
    · simp at hj) (World.block_lt_of_cell? w _ c0) (by simp) (by
    simp [Lib.lens, modelT]
    have e1 := size_list dir
    rw [Array.length_toList] at e1
    omega)
  have e : Lib.Pa.join ([dir, ⟨modelT.toArray⟩].map (·.data.toList)) = pre dir.data.toList ++ modelT := join_model dir.data.toList
  rw [e, ← hA] at h
  exact h

set_option maxHeartbeats 1000000 in
theorem model (dir : ByteArray) (w : World) (hd : dir.size ≤ 1048576) (A : ByteArray) (hA : A = ⟨(pre dir.data.toList ++ modelT).toArray⟩) :
    Calls Tryf.prog 11 #[.agg #[.string dir]] w fun e w' => e = .returned (.string A) ∧ Below w.heap.size w w' := by
  have HA := hid hA
  clear hA
  go_enter Tryf.func11, Tryf.ntmps11
  go_wp2_with fail
  refine (join2 dir _ _ hd A HA.out (by simp) (by simp [modelT])).mono ?_
  rintro e w2 ⟨rfl, B2⟩
  have HB2 := hid ((((Below.refl w.heap.size w).alloc (Nat.le_refl _) _).alloc (by simp) _).trans (B2.mono (by simp; omega)))
  clear B2
  go_wp2
  go_ret
  exact ⟨rfl, HB2.out⟩

set_option maxHeartbeats 1000000 in
theorem modelPrefix (dir A P : ByteArray) (w : World) (hd : dir.size ≤ 1048576) (hA : A.data.toList = pre dir.data.toList ++ modelT) (hP : P.data.toList = pre dir.data.toList) (hs : A.size ≤ 10000000) :
    Calls Tryf.prog 10 #[.string dir, .string A] w fun e w' => e = .returned (.tuple #[.string P, .bool true]) ∧ w' = w := by
  have hAl : A.size = P.size + 25 := by rw [size_list, size_list, hA, hP, List.length_append]; rfl
  have HSuf := hid (suffix_ok A ⟨modelT.toArray⟩ (pre dir.data.toList) w hA (by omega))
  have hto := slice_to A P modelT (by rw [hA, hP]) ((A.size : Int) - 25) (by omega)
  have HPre := hid (prefix_ok P w (by rw [hP]; exact pre_ok _) (by omega))
  have hA25 : 25 ≤ A.size := by omega
  have HR := hid (fun (h : Dir dir.data.toList) => rootPrefix dir w hd P (by rw [hP]; exact pre_dir _ h))
  have HPl := hid (plainDir dir w hd)
  clear hAl
  by_cases h1 : dir.data.toList = []
  · have e1 : dir.toList.isEmpty = true := by rw [Lib.toList_data, h1]; rfl
    have HR1 := hid (HR.out (Or.inl h1))
    clear h1 HR hA hP
    go_enter Tryf.func10, Tryf.ntmps10
    go_wp2_with fail
    refine HSuf.out.mono ?_
    rintro e wx ⟨rfl, hx⟩
    have hx' := hx.symm
    subst hx'
    clear hx
    go_wp2_with fail
    refine HPre.out.mono ?_
    rintro e wx ⟨rfl, hx⟩
    have hx' := hx.symm
    subst hx'
    clear hx
    go_wp2_with fail
    refine HR1.out.mono ?_
    rintro e wx ⟨rfl, hx⟩
    have hx' := hx.symm
    subst hx'
    clear hx
    go_wp2
    go_ret2
    exact ⟨rfl, rfl⟩
  have e1 := not_empty h1
  clear h1 hA hP
  go_enter Tryf.func10, Tryf.ntmps10
  go_wp2_with fail
  refine HSuf.out.mono ?_
  rintro e wx ⟨rfl, hx⟩
  have hx' := hx.symm
  subst hx'
  clear hx
  go_wp2_with fail
  refine HPre.out.mono ?_
  rintro e wx ⟨rfl, hx⟩
  have hx' := hx.symm
  subst hx'
  clear hx
  go_wp2_with fail
  refine HPl.out.mono ?_
  rintro e wx ⟨⟨bv, rfl, hb⟩, hx⟩
  have hx' := hx.symm
  subst hx'
  clear hx
  cases bv with
  | false =>
    clear hb
    go_wp2
    go_ret2
    exact ⟨rfl, rfl⟩
  | true =>
    have HR1 := hid (HR.out (hb rfl))
    clear hb HR
    go_wp2_with fail
    refine HR1.out.mono ?_
    rintro e wx ⟨rfl, hx⟩
    have hx' := hx.symm
    subst hx'
    clear hx
    go_wp2
    go_ret2
    exact ⟨rfl, rfl⟩

set_option maxHeartbeats 1000000 in
set_option maxRecDepth 100000 in
theorem exact_all (G : Interp) (dir s : ByteArray) (rev : Int) (w : World) (hG : G.answers w.tape) (ht : Tab w) (h0 : -9223372036854775808 ≤ rev) (h1 : rev ≤ 9223372036854775807) :
    Calls Tryf.prog 5 #[.string dir, .string s, .int .i64 rev] w fun e w' => e = .returned (.bool true) ∧ Below w.heap.size w w' := by
  have HG := hid hG
  have HT := hid ht
  clear hG ht
  go_enter Tryf.func5, Tryf.ntmps5
  go_wp2_with fail
  refine (bytes18_any dir s rev w).mono ?_
  rintro e wx ⟨⟨bv, rfl⟩, hx⟩
  have hx' := hx.symm
  subst hx'
  clear hx
  cases bv with
  | false =>
    go_wp2
    go_ret
    exact ⟨rfl, Below.refl _ _⟩
  | true =>
    by_cases d1 : (65536 : Int) < (dir.size : Int)
    · go_wp2
      go_ret
      exact ⟨rfl, Below.refl _ _⟩
    by_cases d2 : (65536 : Int) < (s.size : Int)
    · go_wp2
      go_ret
      exact ⟨rfl, Below.refl _ _⟩
    have hd : dir.size ≤ 65536 := by omega
    have hs : s.size ≤ 65536 := by omega
    go_wp2_with fail
    refine (newRoot dir w).mono ?_
    rintro e w1 ⟨rfl, B1⟩
    have hz1 := B1.size
    have HB1 := hid B1
    clear B1
    go_wp2_with fail
    obtain ⟨W1, hW1⟩ : ∃ W1, W1 = w1.alloc (.cells #[.string dir] 24) := ⟨_, rfl⟩
    rw [← hW1]
    have HW1 := hid (show Below w.heap.size w W1 by rw [hW1]; exact HB1.out.alloc hz1 _)
    have hc1 : W1.cell? ⟨w1.heap.size, 0, none⟩ = some (.string dir) := by rw [hW1]; simp
    have hzW : w1.heap.size < W1.heap.size := by rw [hW1]; simp
    clear hW1
    have HG1 := hid (show G.answers W1.tape by rw [HW1.out.tape]; exact HG.out)
    have HT1 := hid (HT.out.stays HW1.out)
    have hpl : (pre dir.data.toList).length ≤ 200000 := by
      have := Lib.Pa.join_length_le [dir.data.toList, modelT]
      rw [join_model] at this
      simp [Lib.Pa.lens, modelT] at this
      have e1 := size_list dir
      rw [Array.length_toList] at e1
      omega
    obtain ⟨M, hM⟩ : ∃ M : ByteArray, M = ⟨(pre dir.data.toList ++ modelT).toArray⟩ := ⟨_, rfl⟩
    obtain ⟨P, hP⟩ : ∃ P : ByteArray, P = ⟨(pre dir.data.toList).toArray⟩ := ⟨_, rfl⟩
    have HMo := fun W => hid (model dir W (by omega) M hM)
    have HMP := fun W => hid (modelPrefix dir M P W (by omega) (by rw [hM]) (by rw [hP]) (by rw [hM, mk_size, List.length_append]; simp [modelT]; omega))
    have hPl : P.size ≤ 200000 := by rw [hP, mk_size]; exact hpl
    have hPd := hid hP
    clear hM hP
    by_cases hacc : Ok s.data.toList ∧ 1 ≤ rev
    · obtain ⟨hok, hrev⟩ := hacc
      have HOk := hid hok
      clear hok
      obtain ⟨n, rfl⟩ : ∃ n : Nat, rev = n := ⟨rev.toNat, by omega⟩
      have hdl := dec_len n (by omega)
      have hrn : ¬ ((n : Int) < 1) := by omega
      have hsl := size_list s
      obtain ⟨B, hB⟩ : ∃ B : ByteArray, B = ⟨(pre dir.data.toList ++ mnt s.data.toList n).toArray⟩ := ⟨_, rfl⟩
      have c1 := cat P ⟨#[115, 110, 97, 112, 47]⟩ (pre dir.data.toList ++ [115, 110, 97, 112, 47]) (by rw [hPd.out]) (by omega) (by decide)
      obtain ⟨X1, hX1⟩ : ∃ X1 : ByteArray, X1 = ⟨(pre dir.data.toList ++ [115, 110, 97, 112, 47]).toArray⟩ := ⟨_, rfl⟩
      rw [← hX1] at c1
      have l1 : X1.size ≤ 300000 := by rw [hX1, mk_size]; simp; omega
      have c2 := cat X1 s (pre dir.data.toList ++ [115, 110, 97, 112, 47] ++ s.data.toList) (by rw [hX1]) (by omega) (by omega)
      obtain ⟨X2, hX2⟩ : ∃ X2 : ByteArray, X2 = ⟨(pre dir.data.toList ++ [115, 110, 97, 112, 47] ++ s.data.toList).toArray⟩ := ⟨_, rfl⟩
      rw [← hX2] at c2
      have l2 : X2.size ≤ 400000 := by rw [hX2, mk_size]; simp; rw [Array.length_toList] at hsl; omega
      have c3 := cat X2 ⟨#[47]⟩ (pre dir.data.toList ++ [115, 110, 97, 112, 47] ++ s.data.toList ++ [47]) (by rw [hX2]) (by omega) (by decide)
      obtain ⟨X3, hX3⟩ : ∃ X3 : ByteArray, X3 = ⟨(pre dir.data.toList ++ [115, 110, 97, 112, 47] ++ s.data.toList ++ [47]).toArray⟩ := ⟨_, rfl⟩
      rw [← hX3] at c3
      have l3 : X3.size ≤ 500000 := by rw [hX3, mk_size]; simp; rw [Array.length_toList] at hsl; omega
      have c4 := cat X3 ⟨(Lib.decDigits n).toArray⟩ (pre dir.data.toList ++ mnt s.data.toList n) (by rw [hX3]; simp [mnt, snapT]) (by omega) (by rw [mk_size]; omega)
      rw [← hB] at c4
      obtain ⟨Dg, hDg⟩ : ∃ Dg : ByteArray, Dg = ⟨(Lib.decDigits n).toArray⟩ := ⟨_, rfl⟩
      rw [← hDg] at c4
      have HZ := fun W => hid (zzItoa n W (by omega) (by omega))
      rw [← hDg] at HZ
      have HM := hid (mount_ok dir s n W1 HT1.out (by omega) (by omega) (by omega) (by omega) HOk.out)
      rw [← hB] at HM
      have HEl := fun W => hid (elem_ok s W (by omega) HOk.out)
      clear hX1 hX2 hX3 hB hDg hsl hdl hpl
      refine HM.out.mono ?_
      rintro e w2 ⟨rfl, B2⟩
      have HW2 := hid (HW1.out.trans (B2.mono (by omega)))
      have hc2 : w2.cell? ⟨w1.heap.size, 0, none⟩ = some (.string dir) := (B2.cell (p := ⟨w1.heap.size, 0, none⟩) hzW).trans hc1
      have hz2 := HW2.out.size
      clear B2 HM
      go_wp2_with fail
      refine (HMo w2).out.mono ?_
      rintro e w3 ⟨rfl, B3⟩
      have HW3 := hid (HW2.out.trans (B3.mono hz2))
      have hz3 := HW3.out.size
      clear B3
      go_wp2_with fail
      refine (HMP w3).out.mono ?_
      rintro e wx ⟨rfl, hx⟩
      have hx' := hx.symm
      subst hx'
      clear hx
      go_wp2_with fail
      refine (HEl _).out.mono ?_
      rintro e wx ⟨rfl, hx⟩
      have hx' := hx.symm
      subst hx'
      clear hx
      go_wp2_with fail
      refine (HZ _).out.mono ?_
      rintro e w4 ⟨rfl, B4⟩
      have HW4 := hid (HW3.out.trans (B4.mono hz3))
      clear B4
      go_wp2
      go_ret
      exact ⟨rfl, HW4.out⟩
    · have HNo := hid hacc
      have HM := hid (mount_bad G dir s rev W1 HG1.out (by omega) HNo.out)
      refine HM.out.mono ?_
      rintro e w2 ⟨⟨a, rfl⟩, B2⟩
      have HW2 := hid (HW1.out.trans (B2.mono (by omega)))
      have hc2 : w2.cell? ⟨w1.heap.size, 0, none⟩ = some (.string dir) := (B2.cell (p := ⟨w1.heap.size, 0, none⟩) hzW).trans hc1
      have hz2 := HW2.out.size
      clear B2 HM hacc hpl
      go_wp2_with fail
      refine (HMo w2).out.mono ?_
      rintro e w3 ⟨rfl, B3⟩
      have HW3 := hid (HW2.out.trans (B3.mono hz2))
      clear B3
      go_wp2_with fail
      refine (HMP w3).out.mono ?_
      rintro e wx ⟨rfl, hx⟩
      have hx' := hx.symm
      subst hx'
      clear hx
      by_cases hok : Ok s.data.toList
      · have hrn : rev < 1 := by
          rcases Int.lt_or_le rev 1 with h' | h'
          · exact h'
          · exact absurd ⟨hok, h'⟩ HNo.out
        have HEl := fun W => hid (elem_ok s W (by omega) hok)
        clear hok
        go_wp2_with fail
        refine (HEl _).out.mono ?_
        rintro e wx ⟨rfl, hx⟩
        have hx' := hx.symm
        subst hx'
        clear hx
        go_wp2
        go_ret
        exact ⟨rfl, HW3.out⟩
      · have HEl := fun W => hid (elem_bad s W (by omega) hok)
        clear hok
        go_wp2_with fail
        refine (HEl _).out.mono ?_
        rintro e wx ⟨rfl, hx⟩
        have hx' := hx.symm
        subst hx'
        clear hx
        go_wp2
        go_ret
        exact ⟨rfl, HW3.out⟩

end Go.Proofs.Qxb6609099aFmt
