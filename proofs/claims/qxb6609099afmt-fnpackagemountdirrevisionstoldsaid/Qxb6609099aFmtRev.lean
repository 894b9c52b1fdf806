/-
  FnPackageMountDirRevisions, walked.
-/
import Derived.Test.Qxb6609099aFmtAgree
namespace Go.Proofs.Qxb6609099aFmt
set_option linter.unusedVariables false
set_option linter.unusedSimpArgs false
open Go.RowKit Plain
open Go.Extern.Stop Go.Stop Go.Extern

theorem zzB (n : Nat) (w W : World) (hb : Below w.heap.size w W) (h0 : 1 ≤ n) (h1 : n ≤ 9223372036854775807) (Dg : ByteArray) (hD : Dg = ⟨(Lib.decDigits n).toArray⟩) : Calls Tryf.prog 17 #[.int .i64 (n : Int)] W fun e w' => e = .returned (.string Dg) ∧ Below w.heap.size w w' :=
  (zzItoa n W h0 h1).mono fun e w' ⟨p, q⟩ => ⟨by rw [p, hD], hb.trans (q.mono hb.size)⟩

theorem mnt_split (name : List UInt8) (n : Nat) : mnt name n = [115, 110, 97, 112, 47] ++ name ++ [47] ++ Lib.decDigits n := by simp [mnt, snapT]

/-- What the parts of one accepted path are. -/
structure Parts (dir name : ByteArray) (n : Nat) (A T P Q Y1 Y2 Dg : ByteArray) : Prop where
  a : A.data.toList = pre dir.data.toList ++ mnt name.data.toList n
  aw : A = ⟨(pre dir.data.toList ++ mnt name.data.toList n).toArray⟩
  t : T.data.toList = mnt name.data.toList n
  p : P.data.toList = pre dir.data.toList
  q : Q.data.toList = pre dir.data.toList ++ ([115, 110, 97, 112, 47] ++ name.data.toList ++ [47])
  d : Dg = ⟨(Lib.decDigits n).toArray⟩
  sa : A.size ≤ 1000000
  c1 : ∀ w, (Op.stringOp .add ⟨#[115, 110, 97, 112, 47]⟩ name).run Tryf.prog w = .ok (.string Y1) w
  c2 : ∀ w, (Op.stringOp .add Y1 ⟨#[47]⟩).run Tryf.prog w = .ok (.string Y2) w
  c3 : ∀ w, (Op.stringOp .add Y2 Dg).run Tryf.prog w = .ok (.string T) w
  s1 : ∀ w, (Instr.slice 9 (.string A) none (some (.int .i64 ((A.size : Int) - (T.size : Int)))) none).run Tryf.prog w = .ok (.string P) w
  s2 : ∀ w, (Instr.slice 9 (.string A) none (some (.int .i64 ((A.size : Int) - (Dg.size : Int)))) none).run Tryf.prog w = .ok (.string Q) w
  ge1 : T.size ≤ A.size
  ge2 : Dg.size ≤ A.size

theorem parts (dir name : ByteArray) (n : Nat) (hd : dir.size ≤ 65536) (hn : name.size ≤ 65536) (hok : Ok name.data.toList) (h1 : n ≤ 9223372036854775807) :
    Parts dir name n ⟨(pre dir.data.toList ++ mnt name.data.toList n).toArray⟩ ⟨(mnt name.data.toList n).toArray⟩ ⟨(pre dir.data.toList).toArray⟩ ⟨(pre dir.data.toList ++ ([115, 110, 97, 112, 47] ++ name.data.toList ++ [47])).toArray⟩
      ⟨([115, 110, 97, 112, 47] ++ name.data.toList).toArray⟩ ⟨([115, 110, 97, 112, 47] ++ name.data.toList ++ [47]).toArray⟩ ⟨(Lib.decDigits n).toArray⟩ := by
  have hdl := dec_len n (by omega)
  have e1 := size_list dir
  have e2 := size_list name
  have hml : (mnt name.data.toList n).length = 6 + name.size + (Lib.decDigits n).length := by rw [mnt_split, e2]; simp; omega
  have hpl : (pre dir.data.toList).length ≤ 200000 := by
    have := Lib.Pa.join_length_le [dir.data.toList, snapT, name.data.toList, Lib.decDigits n]
    rw [join_mnt _ _ _ (ok_el hok), List.length_append, hml] at this
    simp [Lib.Pa.lens, snapT] at this
    rw [Array.length_toList] at e1 e2
    omega
  refine ⟨rfl, rfl, rfl, rfl, rfl, rfl, ?_, ?_, ?_, ?_, ?_, ?_, ?_, ?_⟩
  · rw [mk_size, List.length_append, hml]; omega
  · exact cat _ name _ rfl (by decide) (by omega)
  · exact cat _ ⟨#[47]⟩ _ rfl (by rw [mk_size, List.length_append, ← e2]; simp; omega) (by decide)
  · exact cat _ _ _ (mnt_split _ _) (by rw [mk_size, List.length_append, List.length_append, ← e2]; simp; omega) (by rw [mk_size]; omega)
  · exact slice_to _ _ (mnt name.data.toList n) rfl _ (by rw [mk_size, mk_size, mk_size, List.length_append]; omega)
  · refine slice_to _ _ (Lib.decDigits n) ?_ _ (by rw [mk_size, mk_size, mk_size, mnt_split]; simp only [List.length_append]; omega)
    show pre dir.data.toList ++ mnt name.data.toList n = _
    rw [mnt_split]; simp
  · rw [mk_size, mk_size, List.length_append]; omega
  · rw [mk_size, mk_size, List.length_append, hml]; omega

set_option maxHeartbeats 8000000 in
set_option maxRecDepth 100000 in
theorem rev_all (G : Interp) (dir s : ByteArray) (r1 r2 : Int) (w : World) (hG : G.answers w.tape) (ht : Tab w) (h0 : -9223372036854775808 ≤ r1) (h1 : r1 ≤ 9223372036854775807) (h2 : -9223372036854775808 ≤ r2) (h3 : r2 ≤ 9223372036854775807) :
    Calls Tryf.prog 6 #[.string dir, .string s, .int .i64 r1, .int .i64 r2] w fun e w' => e = .returned (.bool true) ∧ Below w.heap.size w w' := by
  have HG := hid hG
  have HT := hid ht
  clear hG ht
  go_enter Tryf.func6, Tryf.ntmps6
  go_wp2_with fail
  refine (bytes19_any dir s r1 r2 w).mono ?_
  rintro e wx ⟨⟨bv, rfl⟩, hx⟩
  have hx' := hx.symm
  subst hx'
  clear hx
  cases bv with
  | false =>
    go_wp2
    go_ret
    exact ⟨rfl, Below.refl _ _⟩
  | true =>
    by_cases d1 : (65536 : Int) < (dir.size : Int)
    · go_wp2
      go_ret
      exact ⟨rfl, Below.refl _ _⟩
    by_cases d2 : (65536 : Int) < (s.size : Int)
    · go_wp2
      go_ret
      exact ⟨rfl, Below.refl _ _⟩
    have hd : dir.size ≤ 65536 := by omega
    have hs : s.size ≤ 65536 := by omega
    go_wp2_with fail
    refine (newRoot dir w).mono ?_
    rintro e w1 ⟨rfl, B1⟩
    have hz1 := B1.size
    have HB1 := hid B1
    clear B1
    go_wp2_with fail
    obtain ⟨W1, hW1⟩ : ∃ W1, W1 = w1.alloc (.cells #[.string dir] 24) := ⟨_, rfl⟩
    rw [← hW1]
    have HW1 := hid (show Below w.heap.size w W1 by rw [hW1]; exact HB1.out.alloc hz1 _)
    have hc1 : W1.cell? ⟨w1.heap.size, 0, none⟩ = some (.string dir) := by rw [hW1]; simp
    have hzW : w1.heap.size < W1.heap.size := by rw [hW1]; simp
    clear hW1
    have HG1 := hid (show G.answers W1.tape by rw [HW1.out.tape]; exact HG.out)
    have HT1 := hid (HT.out.stays HW1.out)
    have hp := hid (pre_ok dir.data.toList)
    by_cases hok : Ok s.data.toList
    · have HOk := hid hok
      clear hok
      by_cases k1 : 1 ≤ r1
      · by_cases k2 : 1 ≤ r2
        · obtain ⟨n1, rfl⟩ : ∃ n : Nat, r1 = n := ⟨r1.toNat, by omega⟩
          have g1a : ¬ ((n1 : Int) < 1) := by omega
          have g1b : (1 : Int) ≤ (n1 : Int) := by omega
          have g1c : decide ((n1 : Int) < 1) = false := decide_eq_false g1a
          have g1d : decide ((1 : Int) ≤ (n1 : Int)) = true := decide_eq_true g1b
          clear k1
          obtain ⟨A1, T1, P1, Q1, Y11, Y21, Dg1, hP1⟩ : ∃ A T P Q Y1 Y2 Dg, Parts dir s n1 A T P Q Y1 Y2 Dg := ⟨_, _, _, _, _, _, _, parts dir s n1 hd hs HOk.out (by omega)⟩
          have ca1 := hP1.c1
          have cb1 := hP1.c2
          have cc1 := hP1.c3
          have sa1 := hP1.s1
          have sb1 := hP1.s2
          have sz1 := hP1.sa
          have ge1 := hP1.ge1
          have gf1 := hP1.ge2
          have HPs1 := hid (show P1.size ≤ A1.size by rw [size_list, size_list, hP1.p, hP1.a, List.length_append]; omega)
          have HP1 := hid hP1
          clear hP1
          obtain ⟨n2, rfl⟩ : ∃ n : Nat, r2 = n := ⟨r2.toNat, by omega⟩
          have g2a : ¬ ((n2 : Int) < 1) := by omega
          have g2b : (1 : Int) ≤ (n2 : Int) := by omega
          have g2c : decide ((n2 : Int) < 1) = false := decide_eq_false g2a
          have g2d : decide ((1 : Int) ≤ (n2 : Int)) = true := decide_eq_true g2b
          clear k2
          obtain ⟨A2, T2, P2, Q2, Y12, Y22, Dg2, hP2⟩ : ∃ A T P Q Y1 Y2 Dg, Parts dir s n2 A T P Q Y1 Y2 Dg := ⟨_, _, _, _, _, _, _, parts dir s n2 hd hs HOk.out (by omega)⟩
          have ca2 := hP2.c1
          have cb2 := hP2.c2
          have cc2 := hP2.c3
          have sa2 := hP2.s1
          have sb2 := hP2.s2
          have sz2 := hP2.sa
          have ge2 := hP2.ge1
          have gf2 := hP2.ge2
          have HPs2 := hid (show P2.size ≤ A2.size by rw [size_list, size_list, hP2.p, hP2.a, List.length_append]; omega)
          have HP2 := hid hP2
          clear hP2
          have hY1 : Y11 = Y12 := by have e := (ca1 w).symm.trans (ca2 w); simpa using e
          subst hY1
          have hY2 : Y21 = Y22 := by have e := (cb1 w).symm.trans (cb2 w); simpa using e
          subst hY2
          clear ca2 cb2
          have HM1 := hid (mount_ok dir s n1 W1 HT1.out (by omega) (by omega) (by omega) (by omega) HOk.out)
          rw [← HP1.out.aw] at HM1
          go_wp2_with fail
          refine HM1.out.mono ?_
          rintro e w2 ⟨rfl, Bn⟩
          have HW2 := hid (HW1.out.trans (Bn.mono (by omega)))
          have hz2' := Nat.le_trans (Nat.le_of_lt hzW) Bn.size
          have hc2 : w2.cell? ⟨w1.heap.size, 0, none⟩ = some (.string dir) := (Bn.cell (p := ⟨w1.heap.size, 0, none⟩) (by omega)).trans hc1
          have hzz2 : w1.heap.size < w2.heap.size := World.block_lt_of_cell? _ _ hc2
          have HG2 := hid (show G.answers w2.tape by rw [HW2.out.tape]; exact HG.out)
          have HT2 := hid (HT1.out.stays Bn)
          clear Bn HM1
          have HM2 := hid (mount_ok dir s n2 w2 HT2.out (by omega) (by omega) (by omega) (by omega) HOk.out)
          rw [← HP2.out.aw] at HM2
          go_wp2_with fail
          refine HM2.out.mono ?_
          rintro e w3 ⟨rfl, Bn⟩
          have HW3 := hid (HW2.out.trans (Bn.mono (by omega)))
          have hz3' := Nat.le_trans hz2' Bn.size
          have hc3 : w3.cell? ⟨w1.heap.size, 0, none⟩ = some (.string dir) := (Bn.cell (p := ⟨w1.heap.size, 0, none⟩) (by omega)).trans hc2
          have hzz3 : w1.heap.size < w3.heap.size := World.block_lt_of_cell? _ _ hc3
          have HG3 := hid (show G.answers w3.tape by rw [HW3.out.tape]; exact HG.out)
          have HT3 := hid (HT2.out.stays Bn)
          clear Bn HM2
          go_wp2
          go_quiet (fail)
          go_wp2_with fail
          refine (zzB n1 w _ (below_drewN HW3.out _) (by omega) (by omega) Dg1 HP1.out.d).mono ?_
          rintro e w4 ⟨rfl, Bn⟩
          have Hw4 := hid Bn
          clear Bn
          go_wp2_with fail
          refine (suffix_ok A1 T1 (pre dir.data.toList) _ (by rw [HP1.out.a, HP1.out.t]) (by omega)).mono ?_
          rintro e wx ⟨rfl, hx⟩
          have hx' := hx.symm
          subst hx'
          clear hx
          go_wp2_with fail
          refine (prefix_ok P1 _ (by rw [HP1.out.p]; exact hp.out) (by have := HPs1.out; omega)).mono ?_
          rintro e wx ⟨rfl, hx⟩
          have hx' := hx.symm
          subst hx'
          clear hx
          go_wp2_with fail
          refine (zzB n2 w _ Hw4.out (by omega) (by omega) Dg2 HP2.out.d).mono ?_
          rintro e w5 ⟨rfl, Bn⟩
          have Hw5 := hid Bn
          clear Bn
          go_wp2_with fail
          refine (suffix_ok A2 T2 (pre dir.data.toList) _ (by rw [HP2.out.a, HP2.out.t]) (by omega)).mono ?_
          rintro e wx ⟨rfl, hx⟩
          have hx' := hx.symm
          subst hx'
          clear hx
          go_wp2_with fail
          refine (prefix_ok P2 _ (by rw [HP2.out.p]; exact hp.out) (by have := HPs2.out; omega)).mono ?_
          rintro e wx ⟨rfl, hx⟩
          have hx' := hx.symm
          subst hx'
          clear hx
          have hBel := Hw5.out
          have hwr1 : IntKind.i64.wrap ((A1.size : Int) - (Dg1.size : Int)) = (A1.size : Int) - (Dg1.size : Int) := IntWalk.i64_in _ (by omega)
          have hwr2 : IntKind.i64.wrap ((A2.size : Int) - (Dg2.size : Int)) = (A2.size : Int) - (Dg2.size : Int) := IntWalk.i64_in _ (by omega)
          have hQ : Q1 = Q2 := by rw [by_list HP1.out.q, by_list HP2.out.q]
          subst hQ
          by_cases hnn : n1 = n2
          · subst hnn
            have hAA : A1 = A2 := by rw [HP1.out.aw, HP2.out.aw]
            subst hAA
            have hDD : Dg1 = Dg2 := by rw [HP1.out.d, HP2.out.d]
            subst hDD
            go_wp2_with fail
            go_region_with (go_at_call 17; refine (zzB n1 w _ (by first | assumption | exact Below.drew (by assumption) | exact below_drewN (by assumption) _) (by omega) (by omega) Dg1 HP1.out.d).mono ?_; rintro e wn ⟨rfl, Bn⟩)
            all_goals go_wp2
            all_goals go_ret
            all_goals exact ⟨rfl, by assumption⟩
          · have hne : ((n1 : Int) == (n2 : Int)) = false := by simp; omega
            have hAB : (A1.toList == A2.toList) = false := by
              rw [Lib.toList_data, Lib.toList_data, HP1.out.a, HP2.out.a]
              rw [beq_eq_false_iff_ne]
              intro e
              rw [mnt_split, mnt_split] at e
              simp at e
              exact hnn (dec_inj e)
            go_wp2_with fail
            go_region_with (first | (go_at_call_of 17 (Value.int .i64 (n1 : Int)); refine (zzB n1 w _ (by first | assumption | exact Below.drew (by assumption) | exact below_drewN (by assumption) _) (by omega) (by omega) Dg1 HP1.out.d).mono ?_; rintro e wn ⟨rfl, Bn⟩) | (go_at_call_of 17 (Value.int .i64 (n2 : Int)); refine (zzB n2 w _ (by first | assumption | exact Below.drew (by assumption) | exact below_drewN (by assumption) _) (by omega) (by omega) Dg2 HP2.out.d).mono ?_; rintro e wn ⟨rfl, Bn⟩))
            all_goals go_wp2
            all_goals go_ret
            all_goals exact ⟨rfl, by assumption⟩
        · obtain ⟨n1, rfl⟩ : ∃ n : Nat, r1 = n := ⟨r1.toNat, by omega⟩
          have g1a : ¬ ((n1 : Int) < 1) := by omega
          have g1b : (1 : Int) ≤ (n1 : Int) := by omega
          have g1c : decide ((n1 : Int) < 1) = false := decide_eq_false g1a
          have g1d : decide ((1 : Int) ≤ (n1 : Int)) = true := decide_eq_true g1b
          clear k1
          obtain ⟨A1, T1, P1, Q1, Y11, Y21, Dg1, hP1⟩ : ∃ A T P Q Y1 Y2 Dg, Parts dir s n1 A T P Q Y1 Y2 Dg := ⟨_, _, _, _, _, _, _, parts dir s n1 hd hs HOk.out (by omega)⟩
          have ca1 := hP1.c1
          have cb1 := hP1.c2
          have cc1 := hP1.c3
          have sa1 := hP1.s1
          have sb1 := hP1.s2
          have sz1 := hP1.sa
          have ge1 := hP1.ge1
          have gf1 := hP1.ge2
          have HPs1 := hid (show P1.size ≤ A1.size by rw [size_list, size_list, hP1.p, hP1.a, List.length_append]; omega)
          have HP1 := hid hP1
          clear hP1
          have g2a : r2 < 1 := by omega
          have g2b : ¬ ((1 : Int) ≤ r2) := by omega
          have g2c : decide (r2 < 1) = true := decide_eq_true g2a
          have g2d : decide ((1 : Int) ≤ r2) = false := decide_eq_false g2b
          clear k2
          have HM1 := hid (mount_ok dir s n1 W1 HT1.out (by omega) (by omega) (by omega) (by omega) HOk.out)
          rw [← HP1.out.aw] at HM1
          go_wp2_with fail
          refine HM1.out.mono ?_
          rintro e w2 ⟨rfl, Bn⟩
          have HW2 := hid (HW1.out.trans (Bn.mono (by omega)))
          have hz2' := Nat.le_trans (Nat.le_of_lt hzW) Bn.size
          have hc2 : w2.cell? ⟨w1.heap.size, 0, none⟩ = some (.string dir) := (Bn.cell (p := ⟨w1.heap.size, 0, none⟩) (by omega)).trans hc1
          have hzz2 : w1.heap.size < w2.heap.size := World.block_lt_of_cell? _ _ hc2
          have HG2 := hid (show G.answers w2.tape by rw [HW2.out.tape]; exact HG.out)
          have HT2 := hid (HT1.out.stays Bn)
          clear Bn HM1
          have HM2 := hid (mount_bad G dir s r2 w2 HG2.out (by omega) (fun h => by have := h.2; omega))
          go_wp2_with fail
          refine HM2.out.mono ?_
          rintro e w3 ⟨⟨a2, rfl⟩, Bn⟩
          have HW3 := hid (HW2.out.trans (Bn.mono (by omega)))
          have hz3' := Nat.le_trans hz2' Bn.size
          have hc3 : w3.cell? ⟨w1.heap.size, 0, none⟩ = some (.string dir) := (Bn.cell (p := ⟨w1.heap.size, 0, none⟩) (by omega)).trans hc2
          have hzz3 : w1.heap.size < w3.heap.size := World.block_lt_of_cell? _ _ hc3
          have HG3 := hid (show G.answers w3.tape by rw [HW3.out.tape]; exact HG.out)
          have HT3 := hid (HT2.out.stays Bn)
          clear Bn HM2
          go_wp2
          go_quiet (fail)
          go_wp2_with fail
          refine (zzB n1 w _ (below_drewN HW3.out _) (by omega) (by omega) Dg1 HP1.out.d).mono ?_
          rintro e w4 ⟨rfl, Bn⟩
          have Hw4 := hid Bn
          clear Bn
          go_wp2_with fail
          refine (suffix_ok A1 T1 (pre dir.data.toList) _ (by rw [HP1.out.a, HP1.out.t]) (by omega)).mono ?_
          rintro e wx ⟨rfl, hx⟩
          have hx' := hx.symm
          subst hx'
          clear hx
          go_wp2_with fail
          refine (prefix_ok P1 _ (by rw [HP1.out.p]; exact hp.out) (by have := HPs1.out; omega)).mono ?_
          rintro e wx ⟨rfl, hx⟩
          have hx' := hx.symm
          subst hx'
          clear hx
          go_wp2
          go_ret
          exact ⟨rfl, Hw4.out⟩
      · by_cases k2 : 1 ≤ r2
        · have g1a : r1 < 1 := by omega
          have g1b : ¬ ((1 : Int) ≤ r1) := by omega
          have g1c : decide (r1 < 1) = true := decide_eq_true g1a
          have g1d : decide ((1 : Int) ≤ r1) = false := decide_eq_false g1b
          clear k1
          obtain ⟨n2, rfl⟩ : ∃ n : Nat, r2 = n := ⟨r2.toNat, by omega⟩
          have g2a : ¬ ((n2 : Int) < 1) := by omega
          have g2b : (1 : Int) ≤ (n2 : Int) := by omega
          have g2c : decide ((n2 : Int) < 1) = false := decide_eq_false g2a
          have g2d : decide ((1 : Int) ≤ (n2 : Int)) = true := decide_eq_true g2b
          clear k2
          obtain ⟨A2, T2, P2, Q2, Y12, Y22, Dg2, hP2⟩ : ∃ A T P Q Y1 Y2 Dg, Parts dir s n2 A T P Q Y1 Y2 Dg := ⟨_, _, _, _, _, _, _, parts dir s n2 hd hs HOk.out (by omega)⟩
          have ca2 := hP2.c1
          have cb2 := hP2.c2
          have cc2 := hP2.c3
          have sa2 := hP2.s1
          have sb2 := hP2.s2
          have sz2 := hP2.sa
          have ge2 := hP2.ge1
          have gf2 := hP2.ge2
          have HPs2 := hid (show P2.size ≤ A2.size by rw [size_list, size_list, hP2.p, hP2.a, List.length_append]; omega)
          have HP2 := hid hP2
          clear hP2
          have HM1 := hid (mount_bad G dir s r1 W1 HG1.out (by omega) (fun h => by have := h.2; omega))
          go_wp2_with fail
          refine HM1.out.mono ?_
          rintro e w2 ⟨⟨a1, rfl⟩, Bn⟩
          have HW2 := hid (HW1.out.trans (Bn.mono (by omega)))
          have hz2' := Nat.le_trans (Nat.le_of_lt hzW) Bn.size
          have hc2 : w2.cell? ⟨w1.heap.size, 0, none⟩ = some (.string dir) := (Bn.cell (p := ⟨w1.heap.size, 0, none⟩) (by omega)).trans hc1
          have hzz2 : w1.heap.size < w2.heap.size := World.block_lt_of_cell? _ _ hc2
          have HG2 := hid (show G.answers w2.tape by rw [HW2.out.tape]; exact HG.out)
          have HT2 := hid (HT1.out.stays Bn)
          clear Bn HM1
          have HM2 := hid (mount_ok dir s n2 w2 HT2.out (by omega) (by omega) (by omega) (by omega) HOk.out)
          rw [← HP2.out.aw] at HM2
          go_wp2_with fail
          refine HM2.out.mono ?_
          rintro e w3 ⟨rfl, Bn⟩
          have HW3 := hid (HW2.out.trans (Bn.mono (by omega)))
          have hz3' := Nat.le_trans hz2' Bn.size
          have hc3 : w3.cell? ⟨w1.heap.size, 0, none⟩ = some (.string dir) := (Bn.cell (p := ⟨w1.heap.size, 0, none⟩) (by omega)).trans hc2
          have hzz3 : w1.heap.size < w3.heap.size := World.block_lt_of_cell? _ _ hc3
          have HG3 := hid (show G.answers w3.tape by rw [HW3.out.tape]; exact HG.out)
          have HT3 := hid (HT2.out.stays Bn)
          clear Bn HM2
          go_wp2
          go_quiet (fail)
          go_wp2_with fail
          refine (zzB n2 w _ (below_drewN HW3.out _) (by omega) (by omega) Dg2 HP2.out.d).mono ?_
          rintro e w5 ⟨rfl, Bn⟩
          have Hw5 := hid Bn
          clear Bn
          go_wp2_with fail
          refine (suffix_ok A2 T2 (pre dir.data.toList) _ (by rw [HP2.out.a, HP2.out.t]) (by omega)).mono ?_
          rintro e wx ⟨rfl, hx⟩
          have hx' := hx.symm
          subst hx'
          clear hx
          go_wp2_with fail
          refine (prefix_ok P2 _ (by rw [HP2.out.p]; exact hp.out) (by have := HPs2.out; omega)).mono ?_
          rintro e wx ⟨rfl, hx⟩
          have hx' := hx.symm
          subst hx'
          clear hx
          go_wp2
          go_ret
          exact ⟨rfl, Hw5.out⟩
        · have g1a : r1 < 1 := by omega
          have g1b : ¬ ((1 : Int) ≤ r1) := by omega
          have g1c : decide (r1 < 1) = true := decide_eq_true g1a
          have g1d : decide ((1 : Int) ≤ r1) = false := decide_eq_false g1b
          clear k1
          have g2a : r2 < 1 := by omega
          have g2b : ¬ ((1 : Int) ≤ r2) := by omega
          have g2c : decide (r2 < 1) = true := decide_eq_true g2a
          have g2d : decide ((1 : Int) ≤ r2) = false := decide_eq_false g2b
          clear k2
          have HM1 := hid (mount_bad G dir s r1 W1 HG1.out (by omega) (fun h => by have := h.2; omega))
          go_wp2_with fail
          refine HM1.out.mono ?_
          rintro e w2 ⟨⟨a1, rfl⟩, Bn⟩
          have HW2 := hid (HW1.out.trans (Bn.mono (by omega)))
          have hz2' := Nat.le_trans (Nat.le_of_lt hzW) Bn.size
          have hc2 : w2.cell? ⟨w1.heap.size, 0, none⟩ = some (.string dir) := (Bn.cell (p := ⟨w1.heap.size, 0, none⟩) (by omega)).trans hc1
          have hzz2 : w1.heap.size < w2.heap.size := World.block_lt_of_cell? _ _ hc2
          have HG2 := hid (show G.answers w2.tape by rw [HW2.out.tape]; exact HG.out)
          have HT2 := hid (HT1.out.stays Bn)
          clear Bn HM1
          have HM2 := hid (mount_bad G dir s r2 w2 HG2.out (by omega) (fun h => by have := h.2; omega))
          go_wp2_with fail
          refine HM2.out.mono ?_
          rintro e w3 ⟨⟨a2, rfl⟩, Bn⟩
          have HW3 := hid (HW2.out.trans (Bn.mono (by omega)))
          have hz3' := Nat.le_trans hz2' Bn.size
          have hc3 : w3.cell? ⟨w1.heap.size, 0, none⟩ = some (.string dir) := (Bn.cell (p := ⟨w1.heap.size, 0, none⟩) (by omega)).trans hc2
          have hzz3 : w1.heap.size < w3.heap.size := World.block_lt_of_cell? _ _ hc3
          have HG3 := hid (show G.answers w3.tape by rw [HW3.out.tape]; exact HG.out)
          have HT3 := hid (HT2.out.stays Bn)
          clear Bn HM2
          go_wp2
          go_quiet (fail)
          go_wp2
          go_ret
          exact ⟨rfl, below_drewN HW3.out _⟩
    · have HNo := hid hok
      clear hok
      by_cases k1 : 1 ≤ r1
      · by_cases k2 : 1 ≤ r2
        · have g1a : ¬ (r1 < 1) := by omega
          have g1b : (1 : Int) ≤ r1 := by omega
          have g1c : decide (r1 < 1) = false := decide_eq_false g1a
          have g1d : decide ((1 : Int) ≤ r1) = true := decide_eq_true g1b
          clear k1
          have g2a : ¬ (r2 < 1) := by omega
          have g2b : (1 : Int) ≤ r2 := by omega
          have g2c : decide (r2 < 1) = false := decide_eq_false g2a
          have g2d : decide ((1 : Int) ≤ r2) = true := decide_eq_true g2b
          clear k2
          have HM1 := hid (mount_bad G dir s r1 W1 HG1.out (by omega) (fun h => HNo.out h.1))
          go_wp2_with fail
          refine HM1.out.mono ?_
          rintro e w2 ⟨⟨a1, rfl⟩, Bn⟩
          have HW2 := hid (HW1.out.trans (Bn.mono (by omega)))
          have hz2' := Nat.le_trans (Nat.le_of_lt hzW) Bn.size
          have hc2 : w2.cell? ⟨w1.heap.size, 0, none⟩ = some (.string dir) := (Bn.cell (p := ⟨w1.heap.size, 0, none⟩) (by omega)).trans hc1
          have hzz2 : w1.heap.size < w2.heap.size := World.block_lt_of_cell? _ _ hc2
          have HG2 := hid (show G.answers w2.tape by rw [HW2.out.tape]; exact HG.out)
          have HT2 := hid (HT1.out.stays Bn)
          clear Bn HM1
          have HM2 := hid (mount_bad G dir s r2 w2 HG2.out (by omega) (fun h => HNo.out h.1))
          go_wp2_with fail
          refine HM2.out.mono ?_
          rintro e w3 ⟨⟨a2, rfl⟩, Bn⟩
          have HW3 := hid (HW2.out.trans (Bn.mono (by omega)))
          have hz3' := Nat.le_trans hz2' Bn.size
          have hc3 : w3.cell? ⟨w1.heap.size, 0, none⟩ = some (.string dir) := (Bn.cell (p := ⟨w1.heap.size, 0, none⟩) (by omega)).trans hc2
          have hzz3 : w1.heap.size < w3.heap.size := World.block_lt_of_cell? _ _ hc3
          have HG3 := hid (show G.answers w3.tape by rw [HW3.out.tape]; exact HG.out)
          have HT3 := hid (HT2.out.stays Bn)
          clear Bn HM2
          go_wp2
          go_quiet (fail)
          go_wp2
          go_ret
          exact ⟨rfl, below_drewN HW3.out _⟩
        · have g1a : ¬ (r1 < 1) := by omega
          have g1b : (1 : Int) ≤ r1 := by omega
          have g1c : decide (r1 < 1) = false := decide_eq_false g1a
          have g1d : decide ((1 : Int) ≤ r1) = true := decide_eq_true g1b
          clear k1
          have g2a : r2 < 1 := by omega
          have g2b : ¬ ((1 : Int) ≤ r2) := by omega
          have g2c : decide (r2 < 1) = true := decide_eq_true g2a
          have g2d : decide ((1 : Int) ≤ r2) = false := decide_eq_false g2b
          clear k2
          have HM1 := hid (mount_bad G dir s r1 W1 HG1.out (by omega) (fun h => HNo.out h.1))
          go_wp2_with fail
          refine HM1.out.mono ?_
          rintro e w2 ⟨⟨a1, rfl⟩, Bn⟩
          have HW2 := hid (HW1.out.trans (Bn.mono (by omega)))
          have hz2' := Nat.le_trans (Nat.le_of_lt hzW) Bn.size
          have hc2 : w2.cell? ⟨w1.heap.size, 0, none⟩ = some (.string dir) := (Bn.cell (p := ⟨w1.heap.size, 0, none⟩) (by omega)).trans hc1
          have hzz2 : w1.heap.size < w2.heap.size := World.block_lt_of_cell? _ _ hc2
          have HG2 := hid (show G.answers w2.tape by rw [HW2.out.tape]; exact HG.out)
          have HT2 := hid (HT1.out.stays Bn)
          clear Bn HM1
          have HM2 := hid (mount_bad G dir s r2 w2 HG2.out (by omega) (fun h => HNo.out h.1))
          go_wp2_with fail
          refine HM2.out.mono ?_
          rintro e w3 ⟨⟨a2, rfl⟩, Bn⟩
          have HW3 := hid (HW2.out.trans (Bn.mono (by omega)))
          have hz3' := Nat.le_trans hz2' Bn.size
          have hc3 : w3.cell? ⟨w1.heap.size, 0, none⟩ = some (.string dir) := (Bn.cell (p := ⟨w1.heap.size, 0, none⟩) (by omega)).trans hc2
          have hzz3 : w1.heap.size < w3.heap.size := World.block_lt_of_cell? _ _ hc3
          have HG3 := hid (show G.answers w3.tape by rw [HW3.out.tape]; exact HG.out)
          have HT3 := hid (HT2.out.stays Bn)
          clear Bn HM2
          go_wp2
          go_quiet (fail)
          go_wp2
          go_ret
          exact ⟨rfl, below_drewN HW3.out _⟩
      · by_cases k2 : 1 ≤ r2
        · have g1a : r1 < 1 := by omega
          have g1b : ¬ ((1 : Int) ≤ r1) := by omega
          have g1c : decide (r1 < 1) = true := decide_eq_true g1a
          have g1d : decide ((1 : Int) ≤ r1) = false := decide_eq_false g1b
          clear k1
          have g2a : ¬ (r2 < 1) := by omega
          have g2b : (1 : Int) ≤ r2 := by omega
          have g2c : decide (r2 < 1) = false := decide_eq_false g2a
          have g2d : decide ((1 : Int) ≤ r2) = true := decide_eq_true g2b
          clear k2
          have HM1 := hid (mount_bad G dir s r1 W1 HG1.out (by omega) (fun h => HNo.out h.1))
          go_wp2_with fail
          refine HM1.out.mono ?_
          rintro e w2 ⟨⟨a1, rfl⟩, Bn⟩
          have HW2 := hid (HW1.out.trans (Bn.mono (by omega)))
          have hz2' := Nat.le_trans (Nat.le_of_lt hzW) Bn.size
          have hc2 : w2.cell? ⟨w1.heap.size, 0, none⟩ = some (.string dir) := (Bn.cell (p := ⟨w1.heap.size, 0, none⟩) (by omega)).trans hc1
          have hzz2 : w1.heap.size < w2.heap.size := World.block_lt_of_cell? _ _ hc2
          have HG2 := hid (show G.answers w2.tape by rw [HW2.out.tape]; exact HG.out)
          have HT2 := hid (HT1.out.stays Bn)
          clear Bn HM1
          have HM2 := hid (mount_bad G dir s r2 w2 HG2.out (by omega) (fun h => HNo.out h.1))
          go_wp2_with fail
          refine HM2.out.mono ?_
          rintro e w3 ⟨⟨a2, rfl⟩, Bn⟩
          have HW3 := hid (HW2.out.trans (Bn.mono (by omega)))
          have hz3' := Nat.le_trans hz2' Bn.size
          have hc3 : w3.cell? ⟨w1.heap.size, 0, none⟩ = some (.string dir) := (Bn.cell (p := ⟨w1.heap.size, 0, none⟩) (by omega)).trans hc2
          have hzz3 : w1.heap.size < w3.heap.size := World.block_lt_of_cell? _ _ hc3
          have HG3 := hid (show G.answers w3.tape by rw [HW3.out.tape]; exact HG.out)
          have HT3 := hid (HT2.out.stays Bn)
          clear Bn HM2
          go_wp2
          go_quiet (fail)
          go_wp2
          go_ret
          exact ⟨rfl, below_drewN HW3.out _⟩
        · have g1a : r1 < 1 := by omega
          have g1b : ¬ ((1 : Int) ≤ r1) := by omega
          have g1c : decide (r1 < 1) = true := decide_eq_true g1a
          have g1d : decide ((1 : Int) ≤ r1) = false := decide_eq_false g1b
          clear k1
          have g2a : r2 < 1 := by omega
          have g2b : ¬ ((1 : Int) ≤ r2) := by omega
          have g2c : decide (r2 < 1) = true := decide_eq_true g2a
          have g2d : decide ((1 : Int) ≤ r2) = false := decide_eq_false g2b
          clear k2
          have HM1 := hid (mount_bad G dir s r1 W1 HG1.out (by omega) (fun h => HNo.out h.1))
          go_wp2_with fail
          refine HM1.out.mono ?_
          rintro e w2 ⟨⟨a1, rfl⟩, Bn⟩
          have HW2 := hid (HW1.out.trans (Bn.mono (by omega)))
          have hz2' := Nat.le_trans (Nat.le_of_lt hzW) Bn.size
          have hc2 : w2.cell? ⟨w1.heap.size, 0, none⟩ = some (.string dir) := (Bn.cell (p := ⟨w1.heap.size, 0, none⟩) (by omega)).trans hc1
          have hzz2 : w1.heap.size < w2.heap.size := World.block_lt_of_cell? _ _ hc2
          have HG2 := hid (show G.answers w2.tape by rw [HW2.out.tape]; exact HG.out)
          have HT2 := hid (HT1.out.stays Bn)
          clear Bn HM1
          have HM2 := hid (mount_bad G dir s r2 w2 HG2.out (by omega) (fun h => HNo.out h.1))
          go_wp2_with fail
          refine HM2.out.mono ?_
          rintro e w3 ⟨⟨a2, rfl⟩, Bn⟩
          have HW3 := hid (HW2.out.trans (Bn.mono (by omega)))
          have hz3' := Nat.le_trans hz2' Bn.size
          have hc3 : w3.cell? ⟨w1.heap.size, 0, none⟩ = some (.string dir) := (Bn.cell (p := ⟨w1.heap.size, 0, none⟩) (by omega)).trans hc2
          have hzz3 : w1.heap.size < w3.heap.size := World.block_lt_of_cell? _ _ hc3
          have HG3 := hid (show G.answers w3.tape by rw [HW3.out.tape]; exact HG.out)
          have HT3 := hid (HT2.out.stays Bn)
          clear Bn HM2
          go_wp2
          go_quiet (fail)
          go_wp2
          go_ret
          exact ⟨rfl, below_drewN HW3.out _⟩

end Go.Proofs.Qxb6609099aFmt
