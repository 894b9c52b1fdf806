/-
  FnPositionAfterAPrefixedLine, walked.
-/
import Derived.Test.Qxb6609003aFmtJoin
namespace Go.Proofs.Qxb6609003aFmt
set_option linter.unusedVariables false
set_option linter.unusedSimpArgs false
open Go.RowKit Plain
open Go.Extern.Stop Go.Stop Go.Extern

theorem pref_big (ao bo : Option Addr) (n cap m bcap : Nat) (y : Int) (w : World) (h : 1048576 < n + m) : Calls Tryf.prog 4 #[.slice ao n cap, .slice bo m bcap, .int .i64 y] w fun e w' => e = .returned (.bool true) ∧ Below w.heap.size w w' := by
  go_enter Tryf.func4, Tryf.ntmps4
  go_wp2_with fail
  refine (bytes10_big ao bo n cap m bcap y w h).mono ?_
  rintro e w1 ⟨rfl, hx⟩
  have hx' := hx.symm
  subst hx'
  clear hx
  go_wp2
  go_ret
  exact ⟨rfl, Below.refl _ _⟩

set_option maxHeartbeats 4000000 in
set_option maxRecDepth 100000 in
theorem pref_all (G : Interp) (hT : Tells G) {ao : Option Addr} {cap : Nat} {l : List Int} {bo : Option Addr} {bcap : Nat} {d : List Int} (O : Int) (w : World) (hG : G.answers w.tape) (hbuf : BufI w ao cap l) (hby : ∀ x ∈ l, 0 ≤ x ∧ x < 256) (hbufd : BufI w bo bcap d) (hbyd : ∀ x ∈ d, 0 ≤ x ∧ x < 256) (hl : l.length + d.length ≤ 1048576) :
    Calls Tryf.prog 4 #[.slice ao l.length cap, .slice bo d.length bcap, .int .i64 O] w fun e w' => e = .returned (.bool true) ∧ Below w.heap.size w w' := by
  have HT := hid hT
  have HG := hid hG
  have HB := hid hby
  have HBuf := hid hbuf
  have HBd := hid hbyd
  have HBufd := hid hbufd
  have hcapd := hbufd.cap
  have HTx := hid (hbuf.txt (by omega))
  have HTd := hid (hbufd.txt (by omega))
  clear hT hG hby hbuf hbyd hbufd
  have hl1 : ¬ (1048576 < (l.length : Int)) := by omega
  have hl2 : ¬ (1048576 - (l.length : Int) < (d.length : Int)) := by omega
  have q22 : ∀ (w : World) (a : Option Addr) (n c n' c' : Nat), (binOp .neq 22 (.slice a n c) (.slice none n' c')).run Tryf.prog w = .ok (.bool (!a.isNone)) w := fun w a n c n' c' => run_neq_slice_nil_any w _ _ a n c n' c' Tryf.underlying22
  go_enter Tryf.func4, Tryf.ntmps4
  go_wp2_with fail
  refine (bytes10_ok ao bo l.length cap d.length bcap O w hl).mono ?_
  rintro e w1 ⟨rfl, hx⟩
  have hx' := hx.symm
  subst hx'
  clear hx
  by_cases a1 : O < 0
  · go_wp2
    go_ret
    exact ⟨rfl, Below.refl _ _⟩
  by_cases a2 : (d.length : Int) < O
  · go_wp2
    go_ret
    exact ⟨rfl, Below.refl _ _⟩
  obtain ⟨o, rfl⟩ : ∃ o : Nat, O = o := ⟨O.toNat, by omega⟩
  have hol : o ≤ d.length := by omega
  have hs1 := run_head bo d.length bcap o o rfl (by omega)
  have HV := hid (validHead (cap := cap) HTx.out HB.out l.length (Nat.le_refl _))
  have HVd := hid (validHead (cap := bcap) HTd.out HBd.out o hol)
  go_wp2_with fail
  refine HV.out.mono ?_
  rintro e w1 ⟨hj, hx⟩
  have hx' := hx.symm
  subst hx'
  clear hx
  obtain ⟨bv, rfl, hgood⟩ := hj
  clear hgood HV
  cases bv with
  | false =>
    go_wp2
    go_ret
    exact ⟨rfl, Below.refl _ _⟩
  | true =>
    go_wp2_with fail
    refine HVd.out.mono ?_
    rintro e w1 ⟨hj, hx⟩
    have hx' := hx.symm
    subst hx'
    clear hx
    obtain ⟨bv, rfl, hgood⟩ := hj
    clear hgood HVd
    cases bv with
    | false =>
      go_wp2
      go_ret
      exact ⟨rfl, Below.refl _ _⟩
    | true =>
      have hLa : nl (d.take o) ≤ 1048576 := Nat.le_trans (nl_le _) (by rw [List.length_take]; omega)
      have hLb : nl l ≤ 1048576 := Nat.le_trans (nl_le _) (by omega)
      have hRa : rc (aft (d.take o)) ≤ 1048576 := Nat.le_trans (rc_le _) (Nat.le_trans (aft_len _) (by rw [List.length_take]; omega))
      have hjn := join_nl l d o
      have hja := join_aft l d o
      have hln : (l ++ 10 :: d).length = l.length + 1 + d.length := by simp; omega
      obtain ⟨m, hm⟩ : ∃ m, nl (d.take o) = m := ⟨_, rfl⟩
      obtain ⟨pm, hpm⟩ : ∃ pm, nl l = pm := ⟨_, rfl⟩
      obtain ⟨A1, hA1⟩ : ∃ A1, nl (d.take o) + 1 = A1 := ⟨_, rfl⟩
      obtain ⟨A2, hA2⟩ : ∃ A2, rc (aft (d.take o)) + 1 = A2 := ⟨_, rfl⟩
      obtain ⟨B1, hB1⟩ : ∃ B1, nl ((l ++ 10 :: d).take (l.length + 1 + o)) + 1 = B1 := ⟨_, rfl⟩
      have bA1 : 1 ≤ A1 ∧ A1 ≤ 1048577 := by omega
      have bA2 : 1 ≤ A2 ∧ A2 ≤ 1048577 := by omega
      have bB1 : 1 ≤ B1 ∧ B1 ≤ 2097155 := by omega
      have bm : m ≤ 1048576 := by omega
      have bpm : pm ≤ 1048576 := by omega
      have q1 : ((A1 : Int) == 1 + (m : Int)) = true := by simp; omega
      have q2 : ((B1 : Int) == (A1 : Int) + (pm : Int) + 1) = true := by simp; omega
      have q3 : (1 : Int) ≤ (A2 : Int) := by omega
      have km := hid hm
      have kpm := hid (show nl (l.take l.length) = pm by rw [List.take_length]; exact hpm)
      have kA1 := hid hA1
      have kA2 := hid hA2
      have kB1 := hid hB1
      have kB2 := hid (show rc (aft ((l ++ 10 :: d).take (l.length + 1 + o))) + 1 = A2 by rw [hja]; exact hA2)
      have kln := hid hln
      clear hm hpm hA1 hA2 hB1 hjn hja hLa hLb hRa hln
      rcases HBufd.out with ⟨hao, hcz, hnil⟩ | ⟨ad, hao, _, _⟩
      · subst hao hcz
        have hl0 := hid (show d.length = 0 by rw [hnil]; rfl)
        clear hnil
        have hBuW : Buf w none 0 d := Or.inl ⟨rfl, rfl, List.eq_nil_of_length_eq_zero hl0.out⟩
        have hBeW := Below.refl w.heap.size w
        have HBu := hid hBuW
        have HBe := hid hBeW
        have hWs := hBeW.size
        clear hBuW hBeW
        obtain ⟨W2, W3, W4, W5, g1, c1, g2, c2, g, c, hJ⟩ := joined w (HBuf.out.below HBe.out (Nat.le_refl _)) HBu.out.i hl
        have j1 := hJ.make
        have j2 := hid hJ.one
        have j3 := hid hJ.two
        have j4 := hid hJ.three
        have HJ := hid hJ.buf
        have HBe5 := hid (HBe.out.trans (hJ.below.mono hWs))
        have hWs5 := HBe5.out.size
        have HBu5 := hid (HBu.out.below hJ.below (Nat.le_refl _))
        clear hJ
        have hbyj : ∀ x ∈ l ++ 10 :: d, 0 ≤ x ∧ x < 256 := by
          intro x hx
          rcases List.mem_append.1 hx with h | h
          · exact HB.out x h
          · rcases List.mem_cons.1 h with h | h
            · subst h; omega
            · exact HBd.out x h
        have HBj := hid hbyj
        clear hbyj
        have K1 := hid (zzpos G HT.out (w := W5) HBu5.out (by rw [HBe5.out.tape]; exact HG.out) HBd.out d.length o o rfl hol (by omega) (fun _ => hl0.out) A1 A2 kA1.out kA2.out)
        go_wp2_with (first | (at_builtin; refine append_step rfl (.tmp 67) (.tmp 68) rfl rfl _ _ _ _ rfl rfl j2.out ?_) | (at_builtin; refine append_step rfl (.tmp 70) (.tmp 71) rfl rfl _ _ _ _ rfl rfl j3.out ?_) | (at_builtin; refine append_step rfl (.tmp 73) (.tmp 74) rfl rfl _ _ _ _ rfl rfl j4.out ?_))
        refine K1.out.mono ?_
        rintro e w1 ⟨rfl, B1'⟩
        have HBu1 := hid (HBu5.out.below B1' (Nat.le_refl _))
        have HJ1 := hid (HJ.out.below B1' (Nat.le_refl _))
        have HBe1 := hid (HBe5.out.trans (B1'.mono hWs5))
        have hWs1 := Nat.le_trans hWs5 B1'.size
        clear B1' K1 j1 j2 j3 j4
        have K2 := hid (zzpos G HT.out (w := w1) HJ1.out (by rw [HBe1.out.tape]; exact HG.out) HBj.out (l.length + 1 + d.length) (l.length + 1 + o) ((l.length : Int) + 1 + (o : Int)) (by omega) (by rw [kln.out]; omega) (by rw [kln.out]; omega) (by simp) B1 A2 kB1.out kB2.out)
        go_wp2_with fail
        refine K2.out.mono ?_
        rintro e w2 ⟨rfl, B2'⟩
        have HBu2 := hid (HBu1.out.below B2' (Nat.le_refl _))
        have HBe2 := hid (HBe1.out.trans (B2'.mono hWs1))
        clear B2' K2
        have P1 := hid (parse A1 A2 w2 (by omega) (by omega) (by omega) (by omega))
        have P2 := hid (parse B1 A2 w2 (by omega) (by omega) (by omega) (by omega))
        have hsH := run_head none d.length 0 o o rfl (by omega)
        have C1 := hid (countHead (cap := 0) (HBu2.out.all (by omega)) o hol m km.out)
        have C2 := hid (countHead (cap := cap) (HTx.out.below HBe2.out (Nat.le_refl _)) l.length (Nat.le_refl _) pm kpm.out)
        generalize (posText A1 A2).toArray = s1 at *
        generalize (posText B1 A2).toArray = s2 at *
        go_wp2_with fail
        refine P1.out.mono ?_
        rintro e wx ⟨rfl, hx⟩
        have hx' := hx.symm
        subst hx'
        clear hx
        go_wp2_with fail
        refine P2.out.mono ?_
        rintro e wx ⟨rfl, hx⟩
        have hx' := hx.symm
        subst hx'
        clear hx P1 P2
        go_wp2_with fail
        refine C1.out.mono ?_
        rintro e wx ⟨rfl, hx⟩
        have hx' := hx.symm
        subst hx'
        clear hx C1
        go_wp2_with fail
        refine C2.out.mono ?_
        rintro e wx ⟨rfl, hx⟩
        have hx' := hx.symm
        subst hx'
        clear hx C2
        go_wp2
        go_ret
        exact ⟨rfl, HBe2.out⟩
      · subst hao
        have hmk := run_make_row' (P := Tryf.prog) 22 5 (.int .u8 0) 1 Tryf.underlying22 Tryf.info5 rfl .i64 .i64 d.length (by omega) (by omega)
        obtain ⟨W, hcopy, hBuW, hBeW⟩ := copy_run w _ bcap d HBufd.out
        have HBu := hid hBuW
        have HBe := hid hBeW
        have hWs := hBeW.size
        clear hBuW hBeW
        obtain ⟨W2, W3, W4, W5, g1, c1, g2, c2, g, c, hJ⟩ := joined W (HBuf.out.below HBe.out (Nat.le_refl _)) HBu.out.i hl
        have j1 := hJ.make
        have j2 := hid hJ.one
        have j3 := hid hJ.two
        have j4 := hid hJ.three
        have HJ := hid hJ.buf
        have HBe5 := hid (HBe.out.trans (hJ.below.mono hWs))
        have hWs5 := HBe5.out.size
        have HBu5 := hid (HBu.out.below hJ.below (Nat.le_refl _))
        clear hJ
        have hbyj : ∀ x ∈ l ++ 10 :: d, 0 ≤ x ∧ x < 256 := by
          intro x hx
          rcases List.mem_append.1 hx with h | h
          · exact HB.out x h
          · rcases List.mem_cons.1 h with h | h
            · subst h; omega
            · exact HBd.out x h
        have HBj := hid hbyj
        clear hbyj
        have K1 := hid (zzpos G HT.out (w := W5) HBu5.out (by rw [HBe5.out.tape]; exact HG.out) HBd.out d.length o o rfl hol (by omega) (by simp) A1 A2 kA1.out kA2.out)
        go_wp2_with (first | (at_builtin; refine append_step rfl (.tmp 67) (.tmp 68) rfl rfl _ _ _ _ rfl rfl j2.out ?_) | (at_builtin; refine append_step rfl (.tmp 70) (.tmp 71) rfl rfl _ _ _ _ rfl rfl j3.out ?_) | (at_builtin; refine append_step rfl (.tmp 73) (.tmp 74) rfl rfl _ _ _ _ rfl rfl j4.out ?_))
        refine K1.out.mono ?_
        rintro e w1 ⟨rfl, B1'⟩
        have HBu1 := hid (HBu5.out.below B1' (Nat.le_refl _))
        have HJ1 := hid (HJ.out.below B1' (Nat.le_refl _))
        have HBe1 := hid (HBe5.out.trans (B1'.mono hWs5))
        have hWs1 := Nat.le_trans hWs5 B1'.size
        clear B1' K1 j1 j2 j3 j4
        have K2 := hid (zzpos G HT.out (w := w1) HJ1.out (by rw [HBe1.out.tape]; exact HG.out) HBj.out (l.length + 1 + d.length) (l.length + 1 + o) ((l.length : Int) + 1 + (o : Int)) (by omega) (by rw [kln.out]; omega) (by rw [kln.out]; omega) (by simp) B1 A2 kB1.out kB2.out)
        go_wp2_with fail
        refine K2.out.mono ?_
        rintro e w2 ⟨rfl, B2'⟩
        have HBu2 := hid (HBu1.out.below B2' (Nat.le_refl _))
        have HBe2 := hid (HBe1.out.trans (B2'.mono hWs1))
        clear B2' K2
        have P1 := hid (parse A1 A2 w2 (by omega) (by omega) (by omega) (by omega))
        have P2 := hid (parse B1 A2 w2 (by omega) (by omega) (by omega) (by omega))
        have hsH := run_head (some ⟨w.heap.size, 0, none⟩) d.length d.length o o rfl (by omega)
        have C1 := hid (countHead (cap := d.length) (HBu2.out.all (by omega)) o hol m km.out)
        have C2 := hid (countHead (cap := cap) (HTx.out.below HBe2.out (Nat.le_refl _)) l.length (Nat.le_refl _) pm kpm.out)
        generalize (posText A1 A2).toArray = s1 at *
        generalize (posText B1 A2).toArray = s2 at *
        go_wp2_with fail
        refine P1.out.mono ?_
        rintro e wx ⟨rfl, hx⟩
        have hx' := hx.symm
        subst hx'
        clear hx
        go_wp2_with fail
        refine P2.out.mono ?_
        rintro e wx ⟨rfl, hx⟩
        have hx' := hx.symm
        subst hx'
        clear hx P1 P2
        go_wp2_with fail
        refine C1.out.mono ?_
        rintro e wx ⟨rfl, hx⟩
        have hx' := hx.symm
        subst hx'
        clear hx C1
        go_wp2_with fail
        refine C2.out.mono ?_
        rintro e wx ⟨rfl, hx⟩
        have hx' := hx.symm
        subst hx'
        clear hx C2
        go_wp2
        go_ret
        exact ⟨rfl, HBe2.out⟩
end Go.Proofs.Qxb6609003aFmt
