/-
  strings.IndexRune on a high rune.
-/
import Derived.Test.Qxb6609099aFmtAny
namespace Go.Proofs.Qxb6609099aFmt
set_option linter.unusedVariables false
set_option linter.unusedSimpArgs false
open Go.RowKit Plain

theorem run_idx (s : ByteArray) (p : Nat) (P : Int) (hP : P = p) (h : p < s.size) (w : World) : (Instr.index 9 (.string s) (.int .i64 P)).run Tryf.prog w = .ok (.int .u8 ((s[p]'h).toNat : Int)) w := by
  subst hP
  simp [go_sem, Tryf.underlying9, h]

theorem valid_same (r : Int) (h : Lib.validRune r = true) (h128 : 128 ≤ r) : Utf8.valid r = true := by
  unfold Lib.validRune at h
  unfold Utf8.valid
  simp at h ⊢
  omega

set_option maxHeartbeats 4000000 in
set_option maxRecDepth 100000 in
theorem rune_high (r : Int) (w : World) (h : 128 ≤ r) (hne : r ≠ 65533) : Calls Tryf.prog 37 #[.string C0, .int .i32 r] w fun e w' => e = .returned (.int .i64 (-1)) ∧ Below w.heap.size w w' := by
  have h0 : (0 : Int) ≤ r := by omega
  have h1 : ¬ r < 128 := by omega
  have h2 : (r == 65533) = false := by simpa using hne
  have HV := hid (Tryf.utf8_ValidRune r w)
  obtain ⟨rs, hrs⟩ : ∃ rs, rs = Utf8.encode r := ⟨_, rfl⟩
  have hcv : ∀ w, (convert 21 9 (.int .i32 r)).run Tryf.prog w = .ok (.string rs) w := fun w => by rw [hrs]; exact run_convert_int_string w 21 9 .i32 r (by rw [Tryf.underlying21]; rfl) Tryf.underlying9
  have hf : Lib.validRune r = true → 2 ≤ rs.size ∧ rs.size ≤ 4 ∧ ∀ h : rs.size - 1 < rs.size, 128 ≤ (rs[rs.size - 1]'h).toNat := fun hv => by rw [hrs]; exact encode_facts r (valid_same r hv h) h
  have HF := hid hf
  clear hrs hf
  generalize Lib.validRune r = vr at *
  go_enter Tryf.func37, Tryf.ntmps37
  go_wp2_with fail
  refine HV.out.mono ?_
  rintro e wx ⟨rfl, hx⟩
  have hx' := hx.symm
  subst hx'
  clear hx HV
  cases vr with
  | false =>
    clear HF
    go_wp2
    go_ret
    exact ⟨rfl, Below.refl _ _⟩
  | true =>
    obtain ⟨f1, f2, f3⟩ := HF.out rfl
    have hlast : rs.size - 1 < rs.size := by omega
    have f4 := f3 hlast
    have hi2 := fun hh => run_idx rs (rs.size - 1) 1 hh hlast
    generalize hlv : ((rs[rs.size - 1]'hlast).toNat : Int) = lb at hi2
    have HI2 := hid hi2
    clear hi2
    have f5 : 128 ≤ lb := by omega
    have f6 : (lb == 0) = false := by simp; omega
    have f7 : ((0 : Int) != lb) = true := by simp; omega
    have hi1 := run_idx C0 1 1 rfl (by decide)
    have e1 : ((C0[1]'(by decide)).toNat : Int) = 0 := rfl
    rw [e1] at hi1
    have hib : ∀ (x : Int) (q n : Nat), Calls Tryf.prog 49 #[.string ⟨#[]⟩, .int .u8 x] ((w.drewN q).drewN n) fun e w' => e = .returned (.int .i64 (-1)) ∧ ∃ m, w' = (w.drewN q).drewN m := fun x q n => (Tryf.strings_IndexByte ⟨#[]⟩ x ((w.drewN q).drewN n)).mono fun e w' ⟨h1, h2⟩ => ⟨h1, n, h2⟩
    have HIB := hid hib
    have HIC := hid (show ∀ (x : Int) (q n : Nat), Calls Tryf.prog 49 #[.string ⟨#[]⟩, .int .u8 x] (w.drewN (q + n)) fun e w' => e = .returned (.int .i64 (-1)) ∧ ∃ m, w' = w.drewN (q + m) from fun x q n => (Tryf.strings_IndexByte ⟨#[]⟩ x (w.drewN (q + n))).mono fun e w' ⟨h1, h2⟩ => ⟨h1, n, h2⟩)
    clear hib
    have hsl : ∀ w, (Instr.slice 9 (.string C0) (some (.int .i64 2)) none none).run Tryf.prog w = .ok (.string ⟨#[]⟩) w := fun w => by
      rw [run_slice_string_from_if w 9 C0 .i64 2 Tryf.underlying9, if_pos (by decide)]
      rfl
    have hw2 : IntKind.i64.wrap 2 = 2 := by decide
    have hcs : (C0.size : Int) = 2 := rfl
    have hcn : C0.size = 2 := rfl
    clear f3 f4 hlv HF
    by_cases hk : rs.size = 2
    · have hL : (rs.size : Int) = 2 := by omega
      have hi2 := HI2.out (by omega)
      go_wp2
      go_step3
      go_wp2
      go_loop [9, 10, 11, 12] (fun i _ _ _ => i = .int .i64 1) (fun _ _ _ _ => 0)
      case atStart => rfl
      case round =>
        subst hrel
        go_wp2
        go_step3
        go_wp2
        go_quiet (fail)
        go_wp2
        go_quiet ((go_at_call 49; first | exact HIC.out _ _ _ | exact HIB.out _ _ _))
        go_wp2
        try rw [Exit.noGoto_ret]
        try go_wp2
        try rw [Exit.noGoto_ret]
        try go_wp2
        go_ret
        exact ⟨rfl, below_drewN (Below.refl _ _) _⟩
    · by_cases hk3 : rs.size = 3
      · have hL : (rs.size : Int) = 3 := by omega
        clear HI2
        go_wp2
        go_step3
        go_wp2
        go_loop [9, 10, 11, 12] (fun i _ _ _ => i = .int .i64 2) (fun _ _ _ _ => 0)
        case atStart => rfl
        case round =>
          subst hrel
          go_wp2
          try rw [Exit.noGoto_ret]
          try go_wp2
          go_ret
          exact ⟨rfl, Below.refl _ _⟩
      · have hL : (rs.size : Int) = 4 := by omega
        clear HI2
        go_wp2
        go_step3
        go_wp2
        go_loop [9, 10, 11, 12] (fun i _ _ _ => i = .int .i64 3) (fun _ _ _ _ => 0)
        case atStart => rfl
        case round =>
          subst hrel
          go_wp2
          try rw [Exit.noGoto_ret]
          try go_wp2
          go_ret
          exact ⟨rfl, Below.refl _ _⟩

end Go.Proofs.Qxb6609099aFmt
