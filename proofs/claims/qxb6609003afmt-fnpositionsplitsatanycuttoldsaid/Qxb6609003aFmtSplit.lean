/-
  FnPositionSplitsAtAnyCut, walked.
-/
import Derived.Test.Qxb6609003aFmtBuf
namespace Go.Proofs.Qxb6609003aFmt
set_option linter.unusedVariables false
set_option linter.unusedSimpArgs false
open Go.RowKit Plain
open Go.Extern.Stop Go.Stop Go.Extern

theorem split_big (ao : Option Addr) (n cap : Nat) (x y : Int) (w : World) (h : 1048576 < n) : Calls Tryf.prog 3 #[.slice ao n cap, .int .i64 x, .int .i64 y] w fun e w' => e = .returned (.bool true) ∧ Below w.heap.size w w' := by
  go_enter Tryf.func3, Tryf.ntmps3
  go_wp2_with fail
  refine (bytes5_big ao n cap x y w h).mono ?_
  rintro e w1 ⟨rfl, hx⟩
  have hx' := hx.symm
  subst hx'
  clear hx
  go_wp2
  go_ret
  exact ⟨rfl, Below.refl _ _⟩

set_option maxHeartbeats 4000000 in
set_option maxRecDepth 100000 in
theorem split_all (G : Interp) (hT : Tells G) {ao : Option Addr} {cap : Nat} {l : List Int} (O C : Int) (w : World) (hG : G.answers w.tape) (hbuf : BufI w ao cap l) (hby : ∀ x ∈ l, 0 ≤ x ∧ x < 256) (hl : l.length ≤ 1048576) :
    Calls Tryf.prog 3 #[.slice ao l.length cap, .int .i64 O, .int .i64 C] w fun e w' => e = .returned (.bool true) ∧ Below w.heap.size w w' := by
  have HT := hid hT
  have HG := hid hG
  have HB := hid hby
  have HBuf := hid hbuf
  have hcap := hbuf.cap
  have HTx := hid (hbuf.txt (by omega))
  clear hT hG hby hbuf
  have q22 : ∀ (w : World) (a : Option Addr) (n c n' c' : Nat), (binOp .neq 22 (.slice a n c) (.slice none n' c')).run Tryf.prog w = .ok (.bool (!a.isNone)) w := fun w a n c n' c' => run_neq_slice_nil_any w _ _ a n c n' c' Tryf.underlying22
  go_enter Tryf.func3, Tryf.ntmps3
  go_wp2_with fail
  refine (bytes5_ok ao l.length cap O C w hl).mono ?_
  rintro e w1 ⟨rfl, hx⟩
  have hx' := hx.symm
  subst hx'
  clear hx
  by_cases a1 : O < 0
  · go_wp2
    go_ret
    exact ⟨rfl, Below.refl _ _⟩
  by_cases a2 : (l.length : Int) < O
  · go_wp2
    go_ret
    exact ⟨rfl, Below.refl _ _⟩
  by_cases a3 : C < 0
  · go_wp2
    go_ret
    exact ⟨rfl, Below.refl _ _⟩
  by_cases a4 : O < C
  · go_wp2
    go_ret
    exact ⟨rfl, Below.refl _ _⟩
  obtain ⟨o, rfl⟩ : ∃ o : Nat, O = o := ⟨O.toNat, by omega⟩
  obtain ⟨c, rfl⟩ : ∃ c : Nat, C = c := ⟨C.toNat, by omega⟩
  have hol : o ≤ l.length := by omega
  have hco : c ≤ o := by omega
  have hs1 := run_head ao l.length cap o o rfl (by omega)
  have HV := hid (validHead (cap := cap) HTx.out HB.out o hol)
  go_wp2_with fail
  refine HV.out.mono ?_
  rintro e w1 ⟨hj, hx⟩
  have hx' := hx.symm
  subst hx'
  clear hx
  obtain ⟨bv, rfl, hgood⟩ := hj
  cases bv with
  | false =>
    clear hgood
    go_wp2
    go_ret
    exact ⟨rfl, Below.refl _ _⟩
  | true =>
    have HGd := hid (hgood rfl)
    clear hgood HV
    by_cases hlt : c < o
    · obtain ⟨b, off, hao, hcell⟩ := HTx.out.2 (by omega)
      subst hao
      have cp := hcell c (by omega)
      have hdb := HB.out (l.getD c 0) (by simp [List.getD, show c < l.length by omega])
      have HCt := hid (fun (hk : ¬ ct (l.getD c 0)) => cut_law l o c HB.out hco hol HGd.out (fun _ => hk))
      generalize l.getD c 0 = d at cp hdb HCt
      have hct := cont_eq d hdb.1 hdb.2
      have hltI : (c : Int) < (o : Int) := by omega
      clear hcell hdb
      by_cases hk : 128 ≤ d ∧ d < 192
      · rw [decide_eq_true hk] at hct
        go_wp2
        go_ret
        exact ⟨rfl, Below.refl _ _⟩
      rw [decide_eq_false hk] at hct
      have HLaw := hid (HCt.out hk)
      clear HCt hk HGd
      have hLa : nl (l.take o) ≤ 1048576 := Nat.le_trans (nl_le _) (by rw [List.length_take]; omega)
      have hLb : nl (l.take c) ≤ 1048576 := Nat.le_trans (nl_le _) (by rw [List.length_take]; omega)
      have hLc : nl ((l.drop c).take (o - c)) ≤ 1048576 := Nat.le_trans (nl_le _) (by rw [List.length_take, List.length_drop]; omega)
      have hRa : rc (aft (l.take o)) ≤ 1048576 := Nat.le_trans (rc_le _) (Nat.le_trans (aft_len _) (by rw [List.length_take]; omega))
      have hRb : rc (aft (l.take c)) ≤ 1048576 := Nat.le_trans (rc_le _) (Nat.le_trans (aft_len _) (by rw [List.length_take]; omega))
      have hRc : rc (aft ((l.drop c).take (o - c))) ≤ 1048576 := Nat.le_trans (rc_le _) (Nat.le_trans (aft_len _) (by rw [List.length_take, List.length_drop]; omega))
      obtain ⟨L, hL⟩ : ∃ L, nl (l.take o) + 1 = L := ⟨_, rfl⟩
      obtain ⟨M, hM⟩ : ∃ M, rc (aft (l.take o)) + 1 = M := ⟨_, rfl⟩
      obtain ⟨H1, hH1⟩ : ∃ H1, nl (l.take c) + 1 = H1 := ⟨_, rfl⟩
      obtain ⟨H2, hH2⟩ : ∃ H2, rc (aft (l.take c)) + 1 = H2 := ⟨_, rfl⟩
      obtain ⟨T1, hT1⟩ : ∃ T1, nl ((l.drop c).take (o - c)) + 1 = T1 := ⟨_, rfl⟩
      obtain ⟨T2, hT2⟩ : ∃ T2, rc (aft ((l.drop c).take (o - c))) + 1 = T2 := ⟨_, rfl⟩
      have bL : 1 ≤ L ∧ L ≤ 1048577 := by omega
      have bM : 1 ≤ M ∧ M ≤ 1048577 := by omega
      have bH1 : 1 ≤ H1 ∧ H1 ≤ 1048577 := by omega
      have bH2 : 1 ≤ H2 ∧ H2 ≤ 1048577 := by omega
      have bT1 : 1 ≤ T1 ∧ T1 ≤ 1048577 := by omega
      have bT2 : 1 ≤ T2 ∧ T2 ≤ 1048577 := by omega
      rw [hL, hM, hH1, hH2, hT1, hT2] at HLaw
      have kL := hid hL
      have kM := hid hM
      have kH1 := hid hH1
      have kH2 := hid hH2
      have kT1 := hid hT1
      have kT2 := hid hT2
      clear hL hM hH1 hH2 hT1 hT2 hLa hLb hLc hRa hRb hRc
      have q1 : ((L : Int) == (H1 : Int) + (T1 : Int) - 1) = true := by have := HLaw.out.line; simp; omega
      have hmk := run_make_row' (P := Tryf.prog) 22 5 (.int .u8 0) 1 Tryf.underlying22 Tryf.info5 rfl .i64 .i64 l.length (by omega) (by omega)
      obtain ⟨W, hcopy, hBuW, hBeW⟩ := copy_run w _ cap l HBuf.out
      have HBu := hid hBuW
      have HBe := hid hBeW
      have hWs := hBeW.size
      clear hBuW hBeW
      go_wp2_with fail
      have K1 := hid (zzpos G HT.out (w := W) HBu.out (by rw [HBe.out.tape]; exact HG.out) HB.out l.length o o rfl hol (by omega) (by simp) L M kL.out kM.out)
      refine K1.out.mono ?_
      rintro e w1 ⟨rfl, B1⟩
      have HBu1 := hid (HBu.out.below B1 (Nat.le_refl _))
      have HBe1 := hid (HBe.out.trans (B1.mono hWs))
      have hWs1 := Nat.le_trans hWs B1.size
      clear B1 K1
      go_wp2_with fail
      have K2 := hid (zzpos G HT.out (w := w1) HBu1.out (by rw [HBe1.out.tape]; exact HG.out) HB.out l.length c c rfl (by omega) (by omega) (by simp) H1 H2 kH1.out kH2.out)
      refine K2.out.mono ?_
      rintro e w2 ⟨rfl, B2⟩
      have HBu2 := hid (HBu1.out.below B2 (Nat.le_refl _))
      have HBe2 := hid (HBe1.out.trans (B2.mono hWs1))
      have hWs2 := Nat.le_trans hWs1 B2.size
      clear B2 K2
      have hsT := run_tail (some ⟨w.heap.size, 0, none⟩) l.length l.length c c rfl (by omega)
      have hcutB := HBu2.out.cut c (by omega)
      have K3 := hid (zzpos G HT.out (w := w2) hcutB (by rw [HBe2.out.tape]; exact HG.out) (mem_drop_b HB.out c) (l.length - c) (o - c) ((o : Int) - (c : Int)) (by omega) (by rw [List.length_drop]; omega) (by rw [List.length_drop]; omega) (by simp [cutA]; split <;> simp) T1 T2 kT1.out kT2.out)
      clear hcutB
      generalize cutA (some ⟨w.heap.size, 0, none⟩) l.length c = ca at *
      generalize l.length - c = lc at *
      generalize l.length - c = cc at *
      go_wp2_with fail
      refine K3.out.mono ?_
      rintro e w3 ⟨rfl, B3⟩
      have HBu3 := hid (HBu2.out.below B3 (Nat.le_refl _))
      have HBe3 := hid (HBe2.out.trans (B3.mono hWs2))
      clear B3 K3 hsT
      have P1 := hid (parse L M w3 (by omega) (by omega) (by omega) (by omega))
      have P2 := hid (parse H1 H2 w3 (by omega) (by omega) (by omega) (by omega))
      have P3 := hid (parse T1 T2 w3 (by omega) (by omega) (by omega) (by omega))
      have HLC := hid (lineHead (cap := l.length) (HBu3.out.all (by omega)) HB.out o hol L M (by have := kL.out; omega) HLaw.out.ec)
      have hsH := run_head (some ⟨w.heap.size, 0, none⟩) l.length l.length o o rfl (by omega)
      generalize (posText L M).toArray = s1 at *
      generalize (posText H1 H2).toArray = s2 at *
      generalize (posText T1 T2).toArray = s3 at *
      go_wp2_with fail
      refine P1.out.mono ?_
      rintro e wx ⟨rfl, hx⟩
      have hx' := hx.symm
      subst hx'
      clear hx
      go_wp2_with fail
      refine P2.out.mono ?_
      rintro e wx ⟨rfl, hx⟩
      have hx' := hx.symm
      subst hx'
      clear hx
      go_wp2_with fail
      refine P3.out.mono ?_
      rintro e wx ⟨rfl, hx⟩
      have hx' := hx.symm
      subst hx'
      clear hx P1 P2 P3
      by_cases hone : T1 = 1
      · subst hone
        have q4 : L = H1 := by have := HLaw.out.line; omega
        subst q4
        have q2 : ((M : Int) == (H2 : Int) + (T2 : Int) - 1) = true := by have := HLaw.out.col; simp at this ⊢; omega
        go_wp2_with fail
        refine HLC.out.mono ?_
        rintro e wx ⟨rfl, hx⟩
        have hx' := hx.symm
        subst hx'
        clear hx HLC
        go_wp2
        go_ret
        exact ⟨rfl, HBe3.out⟩
      · have q2 : ((T1 : Int) == 1) = false := by simp; omega
        have q3 : M = T2 := by have := HLaw.out.col; rw [if_neg hone] at this; exact this
        subst q3
        go_wp2_with fail
        refine HLC.out.mono ?_
        rintro e wx ⟨rfl, hx⟩
        have hx' := hx.symm
        subst hx'
        clear hx HLC
        go_wp2
        go_ret
        exact ⟨rfl, HBe3.out⟩
    · have hltI : ¬ ((c : Int) < (o : Int)) := by omega
      have HLaw := hid (cut_law l o c HB.out hco hol HGd.out (fun h => absurd h hlt))
      clear HGd
      rcases HBuf.out with ⟨hao, hcz, hnil⟩ | ⟨ad, hao, _, _⟩
      · subst hao hcz
        have hl0 := hid (show l.length = 0 by rw [hnil]; rfl)
        clear hnil
        have hLa : nl (l.take o) ≤ 1048576 := Nat.le_trans (nl_le _) (by rw [List.length_take]; omega)
        have hLb : nl (l.take c) ≤ 1048576 := Nat.le_trans (nl_le _) (by rw [List.length_take]; omega)
        have hLc : nl ((l.drop c).take (o - c)) ≤ 1048576 := Nat.le_trans (nl_le _) (by rw [List.length_take, List.length_drop]; omega)
        have hRa : rc (aft (l.take o)) ≤ 1048576 := Nat.le_trans (rc_le _) (Nat.le_trans (aft_len _) (by rw [List.length_take]; omega))
        have hRb : rc (aft (l.take c)) ≤ 1048576 := Nat.le_trans (rc_le _) (Nat.le_trans (aft_len _) (by rw [List.length_take]; omega))
        have hRc : rc (aft ((l.drop c).take (o - c))) ≤ 1048576 := Nat.le_trans (rc_le _) (Nat.le_trans (aft_len _) (by rw [List.length_take, List.length_drop]; omega))
        obtain ⟨L, hL⟩ : ∃ L, nl (l.take o) + 1 = L := ⟨_, rfl⟩
        obtain ⟨M, hM⟩ : ∃ M, rc (aft (l.take o)) + 1 = M := ⟨_, rfl⟩
        obtain ⟨H1, hH1⟩ : ∃ H1, nl (l.take c) + 1 = H1 := ⟨_, rfl⟩
        obtain ⟨H2, hH2⟩ : ∃ H2, rc (aft (l.take c)) + 1 = H2 := ⟨_, rfl⟩
        obtain ⟨T1, hT1⟩ : ∃ T1, nl ((l.drop c).take (o - c)) + 1 = T1 := ⟨_, rfl⟩
        obtain ⟨T2, hT2⟩ : ∃ T2, rc (aft ((l.drop c).take (o - c))) + 1 = T2 := ⟨_, rfl⟩
        have bL : 1 ≤ L ∧ L ≤ 1048577 := by omega
        have bM : 1 ≤ M ∧ M ≤ 1048577 := by omega
        have bH1 : 1 ≤ H1 ∧ H1 ≤ 1048577 := by omega
        have bH2 : 1 ≤ H2 ∧ H2 ≤ 1048577 := by omega
        have bT1 : 1 ≤ T1 ∧ T1 ≤ 1048577 := by omega
        have bT2 : 1 ≤ T2 ∧ T2 ≤ 1048577 := by omega
        rw [hL, hM, hH1, hH2, hT1, hT2] at HLaw
        have kL := hid hL
        have kM := hid hM
        have kH1 := hid hH1
        have kH2 := hid hH2
        have kT1 := hid hT1
        have kT2 := hid hT2
        clear hL hM hH1 hH2 hT1 hT2 hLa hLb hLc hRa hRb hRc
        have q1 : ((L : Int) == (H1 : Int) + (T1 : Int) - 1) = true := by have := HLaw.out.line; simp; omega
        have HBu := hid (show Buf w none 0 l from Or.inl ⟨rfl, rfl, List.eq_nil_of_length_eq_zero hl0.out⟩)
        have HBe := hid (Below.refl w.heap.size w)
        obtain ⟨W, hW⟩ : ∃ W, W = w := ⟨_, rfl⟩
        have hWs : w.heap.size ≤ w.heap.size := Nat.le_refl _
        clear hW W
        go_wp2_with fail
        have K1 := hid (zzpos G HT.out (w := w) HBu.out (by rw [HBe.out.tape]; exact HG.out) HB.out l.length o o rfl hol (by omega) (fun _ => hl0.out) L M kL.out kM.out)
        refine K1.out.mono ?_
        rintro e w1 ⟨rfl, B1⟩
        have HBu1 := hid (HBu.out.below B1 (Nat.le_refl _))
        have HBe1 := hid (HBe.out.trans (B1.mono hWs))
        have hWs1 := Nat.le_trans hWs B1.size
        clear B1 K1
        go_wp2_with fail
        have K2 := hid (zzpos G HT.out (w := w1) HBu1.out (by rw [HBe1.out.tape]; exact HG.out) HB.out l.length c c rfl (by omega) (by omega) (fun _ => hl0.out) H1 H2 kH1.out kH2.out)
        refine K2.out.mono ?_
        rintro e w2 ⟨rfl, B2⟩
        have HBu2 := hid (HBu1.out.below B2 (Nat.le_refl _))
        have HBe2 := hid (HBe1.out.trans (B2.mono hWs1))
        have hWs2 := Nat.le_trans hWs1 B2.size
        clear B2 K2
        have hsT := run_tail none l.length 0 c c rfl (by omega)
        have hcutB := HBu2.out.cut c (by omega)
        have K3 := hid (zzpos G HT.out (w := w2) hcutB (by rw [HBe2.out.tape]; exact HG.out) (mem_drop_b HB.out c) (l.length - c) (o - c) ((o : Int) - (c : Int)) (by omega) (by rw [List.length_drop]; omega) (by rw [List.length_drop]; omega) (by intro _; have := hl0.out; omega) T1 T2 kT1.out kT2.out)
        clear hcutB
        generalize cutA none 0 c = ca at *
        generalize l.length - c = lc at *
        generalize 0 - c = cc at *
        go_wp2_with fail
        refine K3.out.mono ?_
        rintro e w3 ⟨rfl, B3⟩
        have HBu3 := hid (HBu2.out.below B3 (Nat.le_refl _))
        have HBe3 := hid (HBe2.out.trans (B3.mono hWs2))
        clear B3 K3 hsT
        have P1 := hid (parse L M w3 (by omega) (by omega) (by omega) (by omega))
        have P2 := hid (parse H1 H2 w3 (by omega) (by omega) (by omega) (by omega))
        have P3 := hid (parse T1 T2 w3 (by omega) (by omega) (by omega) (by omega))
        have HLC := hid (lineHead (cap := 0) (HBu3.out.all (by omega)) HB.out o hol L M (by have := kL.out; omega) HLaw.out.ec)
        have hsH := run_head none l.length 0 o o rfl (by omega)
        generalize (posText L M).toArray = s1 at *
        generalize (posText H1 H2).toArray = s2 at *
        generalize (posText T1 T2).toArray = s3 at *
        go_wp2_with fail
        refine P1.out.mono ?_
        rintro e wx ⟨rfl, hx⟩
        have hx' := hx.symm
        subst hx'
        clear hx
        go_wp2_with fail
        refine P2.out.mono ?_
        rintro e wx ⟨rfl, hx⟩
        have hx' := hx.symm
        subst hx'
        clear hx
        go_wp2_with fail
        refine P3.out.mono ?_
        rintro e wx ⟨rfl, hx⟩
        have hx' := hx.symm
        subst hx'
        clear hx P1 P2 P3
        by_cases hone : T1 = 1
        · subst hone
          have q4 : L = H1 := by have := HLaw.out.line; omega
          subst q4
          have q2 : ((M : Int) == (H2 : Int) + (T2 : Int) - 1) = true := by have := HLaw.out.col; simp at this ⊢; omega
          go_wp2_with fail
          refine HLC.out.mono ?_
          rintro e wx ⟨rfl, hx⟩
          have hx' := hx.symm
          subst hx'
          clear hx HLC
          go_wp2
          go_ret
          exact ⟨rfl, HBe3.out⟩
        · have q2 : ((T1 : Int) == 1) = false := by simp; omega
          have q3 : M = T2 := by have := HLaw.out.col; rw [if_neg hone] at this; exact this
          subst q3
          go_wp2_with fail
          refine HLC.out.mono ?_
          rintro e wx ⟨rfl, hx⟩
          have hx' := hx.symm
          subst hx'
          clear hx HLC
          go_wp2
          go_ret
          exact ⟨rfl, HBe3.out⟩
      · subst hao
        have hLa : nl (l.take o) ≤ 1048576 := Nat.le_trans (nl_le _) (by rw [List.length_take]; omega)
        have hLb : nl (l.take c) ≤ 1048576 := Nat.le_trans (nl_le _) (by rw [List.length_take]; omega)
        have hLc : nl ((l.drop c).take (o - c)) ≤ 1048576 := Nat.le_trans (nl_le _) (by rw [List.length_take, List.length_drop]; omega)
        have hRa : rc (aft (l.take o)) ≤ 1048576 := Nat.le_trans (rc_le _) (Nat.le_trans (aft_len _) (by rw [List.length_take]; omega))
        have hRb : rc (aft (l.take c)) ≤ 1048576 := Nat.le_trans (rc_le _) (Nat.le_trans (aft_len _) (by rw [List.length_take]; omega))
        have hRc : rc (aft ((l.drop c).take (o - c))) ≤ 1048576 := Nat.le_trans (rc_le _) (Nat.le_trans (aft_len _) (by rw [List.length_take, List.length_drop]; omega))
        obtain ⟨L, hL⟩ : ∃ L, nl (l.take o) + 1 = L := ⟨_, rfl⟩
        obtain ⟨M, hM⟩ : ∃ M, rc (aft (l.take o)) + 1 = M := ⟨_, rfl⟩
        obtain ⟨H1, hH1⟩ : ∃ H1, nl (l.take c) + 1 = H1 := ⟨_, rfl⟩
        obtain ⟨H2, hH2⟩ : ∃ H2, rc (aft (l.take c)) + 1 = H2 := ⟨_, rfl⟩
        obtain ⟨T1, hT1⟩ : ∃ T1, nl ((l.drop c).take (o - c)) + 1 = T1 := ⟨_, rfl⟩
        obtain ⟨T2, hT2⟩ : ∃ T2, rc (aft ((l.drop c).take (o - c))) + 1 = T2 := ⟨_, rfl⟩
        have bL : 1 ≤ L ∧ L ≤ 1048577 := by omega
        have bM : 1 ≤ M ∧ M ≤ 1048577 := by omega
        have bH1 : 1 ≤ H1 ∧ H1 ≤ 1048577 := by omega
        have bH2 : 1 ≤ H2 ∧ H2 ≤ 1048577 := by omega
        have bT1 : 1 ≤ T1 ∧ T1 ≤ 1048577 := by omega
        have bT2 : 1 ≤ T2 ∧ T2 ≤ 1048577 := by omega
        rw [hL, hM, hH1, hH2, hT1, hT2] at HLaw
        have kL := hid hL
        have kM := hid hM
        have kH1 := hid hH1
        have kH2 := hid hH2
        have kT1 := hid hT1
        have kT2 := hid hT2
        clear hL hM hH1 hH2 hT1 hT2 hLa hLb hLc hRa hRb hRc
        have q1 : ((L : Int) == (H1 : Int) + (T1 : Int) - 1) = true := by have := HLaw.out.line; simp; omega
        have hmk := run_make_row' (P := Tryf.prog) 22 5 (.int .u8 0) 1 Tryf.underlying22 Tryf.info5 rfl .i64 .i64 l.length (by omega) (by omega)
        obtain ⟨W, hcopy, hBuW, hBeW⟩ := copy_run w _ cap l HBuf.out
        have HBu := hid hBuW
        have HBe := hid hBeW
        have hWs := hBeW.size
        clear hBuW hBeW
        go_wp2_with fail
        have K1 := hid (zzpos G HT.out (w := W) HBu.out (by rw [HBe.out.tape]; exact HG.out) HB.out l.length o o rfl hol (by omega) (by simp) L M kL.out kM.out)
        refine K1.out.mono ?_
        rintro e w1 ⟨rfl, B1⟩
        have HBu1 := hid (HBu.out.below B1 (Nat.le_refl _))
        have HBe1 := hid (HBe.out.trans (B1.mono hWs))
        have hWs1 := Nat.le_trans hWs B1.size
        clear B1 K1
        go_wp2_with fail
        have K2 := hid (zzpos G HT.out (w := w1) HBu1.out (by rw [HBe1.out.tape]; exact HG.out) HB.out l.length c c rfl (by omega) (by omega) (by simp) H1 H2 kH1.out kH2.out)
        refine K2.out.mono ?_
        rintro e w2 ⟨rfl, B2⟩
        have HBu2 := hid (HBu1.out.below B2 (Nat.le_refl _))
        have HBe2 := hid (HBe1.out.trans (B2.mono hWs1))
        have hWs2 := Nat.le_trans hWs1 B2.size
        clear B2 K2
        have hsT := run_tail (some ⟨w.heap.size, 0, none⟩) l.length l.length c c rfl (by omega)
        have hcutB := HBu2.out.cut c (by omega)
        have K3 := hid (zzpos G HT.out (w := w2) hcutB (by rw [HBe2.out.tape]; exact HG.out) (mem_drop_b HB.out c) (l.length - c) (o - c) ((o : Int) - (c : Int)) (by omega) (by rw [List.length_drop]; omega) (by rw [List.length_drop]; omega) (by simp [cutA]; split <;> simp) T1 T2 kT1.out kT2.out)
        clear hcutB
        generalize cutA (some ⟨w.heap.size, 0, none⟩) l.length c = ca at *
        generalize l.length - c = lc at *
        generalize l.length - c = cc at *
        go_wp2_with fail
        refine K3.out.mono ?_
        rintro e w3 ⟨rfl, B3⟩
        have HBu3 := hid (HBu2.out.below B3 (Nat.le_refl _))
        have HBe3 := hid (HBe2.out.trans (B3.mono hWs2))
        clear B3 K3 hsT
        have P1 := hid (parse L M w3 (by omega) (by omega) (by omega) (by omega))
        have P2 := hid (parse H1 H2 w3 (by omega) (by omega) (by omega) (by omega))
        have P3 := hid (parse T1 T2 w3 (by omega) (by omega) (by omega) (by omega))
        have HLC := hid (lineHead (cap := l.length) (HBu3.out.all (by omega)) HB.out o hol L M (by have := kL.out; omega) HLaw.out.ec)
        have hsH := run_head (some ⟨w.heap.size, 0, none⟩) l.length l.length o o rfl (by omega)
        generalize (posText L M).toArray = s1 at *
        generalize (posText H1 H2).toArray = s2 at *
        generalize (posText T1 T2).toArray = s3 at *
        go_wp2_with fail
        refine P1.out.mono ?_
        rintro e wx ⟨rfl, hx⟩
        have hx' := hx.symm
        subst hx'
        clear hx
        go_wp2_with fail
        refine P2.out.mono ?_
        rintro e wx ⟨rfl, hx⟩
        have hx' := hx.symm
        subst hx'
        clear hx
        go_wp2_with fail
        refine P3.out.mono ?_
        rintro e wx ⟨rfl, hx⟩
        have hx' := hx.symm
        subst hx'
        clear hx P1 P2 P3
        by_cases hone : T1 = 1
        · subst hone
          have q4 : L = H1 := by have := HLaw.out.line; omega
          subst q4
          have q2 : ((M : Int) == (H2 : Int) + (T2 : Int) - 1) = true := by have := HLaw.out.col; simp at this ⊢; omega
          go_wp2_with fail
          refine HLC.out.mono ?_
          rintro e wx ⟨rfl, hx⟩
          have hx' := hx.symm
          subst hx'
          clear hx HLC
          go_wp2
          go_ret
          exact ⟨rfl, HBe3.out⟩
        · have q2 : ((T1 : Int) == 1) = false := by simp; omega
          have q3 : M = T2 := by have := HLaw.out.col; rw [if_neg hone] at this; exact this
          subst q3
          go_wp2_with fail
          refine HLC.out.mono ?_
          rintro e wx ⟨rfl, hx⟩
          have hx' := hx.symm
          subst hx'
          clear hx HLC
          go_wp2
          go_ret
          exact ⟨rfl, HBe3.out⟩
end Go.Proofs.Qxb6609003aFmt
