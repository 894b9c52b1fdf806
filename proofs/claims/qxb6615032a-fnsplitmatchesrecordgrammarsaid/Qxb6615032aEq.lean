import Derived.Test.Qxb6615032aBase
namespace Go.Proofs.Qxb6615032a
set_option linter.unusedVariables false
set_option linter.unusedSimpArgs false
open Go.RowKit

theorem ext_getD {l1 l2 : List Int} (hl : l1.length = l2.length) (h : ∀ j, j < l1.length → l1.getD j 0 = l2.getD j 0) : l1 = l2 := by
  apply List.ext_getElem hl
  intro i h1 h2
  have := h i h1
  simpa [List.getD, h1, h2] using this

theorem eq_true {l1 l2 : List Int} (hl : l1.length = l2.length) (k : Nat) (hk : ¬ k < l1.length) (h : ∀ j, j < k → l1.getD j 0 = l2.getD j 0) : (l1 == l2) = true := by
  rw [beq_iff_eq]; exact ext_getD hl fun j hj => h j (by omega)

theorem eq_false {l1 l2 : List Int} (k : Nat) (h : l1.getD k 0 ≠ l2.getD k 0) : (l1 == l2) = false := by
  rw [beq_eq_false_iff_ne]; intro e; subst e; exact h rfl

theorem eq_len {l1 l2 : List Int} (h : ¬ l1.length = l2.length) : (l1 == l2) = false := by
  rw [beq_eq_false_iff_ne]; intro e; subst e; exact h rfl

set_option maxHeartbeats 400000 in
theorem bytesEq (a1 a2 : Option Addr) (c1 c2 : Nat) (l1 l2 : List Int) (w : World) (H1 : Txt w a1 l1) (H2 : Txt w a2 l2) :
    Calls Try.prog 21 #[.slice a1 l1.length c1, .slice a2 l2.length c2] w fun e w' => e = .returned (.bool (l1 == l2)) ∧ ∃ q, w' = w.drewN q := by
  obtain ⟨b1, t1⟩ := H1
  obtain ⟨b2, t2⟩ := H2
  by_cases hl : l1.length = l2.length
  · have hb : ((l1.length : Int) != (l2.length : Int)) = false := by simp [hl]
    have h12 : l1.length ≤ l2.length := by omega
    have h21 : l2.length ≤ l1.length := by omega
    have HL : Hid (l1.length = l2.length) := hl
    clear hl
    go_enter Try.func21, Try.ntmps21
    go_wp2
    go_loopw [5] (fun i wr => ∃ k q : Nat, k ≤ l1.length ∧ i = .int .i64 k ∧ wr = w.drewN q ∧ ∀ j, j < k → l1.getD j 0 = l2.getD j 0) (fun i _ => l1.length - (intOf i).toNat)
    case atStart => exact ⟨0, 0, Nat.zero_le _, rfl, rfl, fun j hj => absurd hj (by omega)⟩
    case round =>
      obtain ⟨k, q, hk, rfl, rfl, hsame⟩ := hrel
      have HS : Hid (∀ j, j < k → l1.getD j 0 = l2.getD j 0) := hsame
      clear hsame
      by_cases hlt : k < l1.length
      · obtain ⟨x1, o1, rfl, g1⟩ := t1 (by omega)
        obtain ⟨x2, o2, rfl, g2⟩ := t2 (by omega)
        have f1 := g1 k (by omega)
        have f2 := g2 k (by omega)
        have k1 : (k : Int) < (l1.length : Int) := by omega
        have k2 : (k : Int) < (l2.length : Int) := by omega
        have k0 : (0 : Int) ≤ (k : Int) := by omega
        clear t1 t2 g1 g2
        generalize hv1 : l1.getD k 0 = v1 at f1
        generalize hv2 : l2.getD k 0 = v2 at f2
        have V1 : Hid (l1.getD k 0 = v1) := hv1
        have V2 : Hid (l2.getD k 0 = v2) := hv2
        clear hv1 hv2
        by_cases hne : v1 = v2
        · subst hne
          go_wp2
          go_quiet (fail)
          go_wp2
          go_roundw
          case rel =>
            refine ⟨k + 1, _, by omega, by go_num, rfl, fun j hj => ?_⟩
            by_cases hjk : j = k
            · subst hjk; rw [V1.out, V2.out]
            · exact HS.out j (by omega)
          case measure => simp [intOf]; omega
        · have hnb : (v1 != v2) = true := by simpa using hne
          have HN : Hid (¬ v1 = v2) := hne
          clear hne
          go_wp2
          go_quiet (fail)
          go_wp2
          go_ret
          exact ⟨by rw [eq_false k (by rw [V1.out, V2.out]; exact HN.out)]; rfl, q + nq, by rw [World.drewN_drewN]⟩
      · go_wp2
        go_ret
        exact ⟨by rw [eq_true HL.out k hlt HS.out]; rfl, _, rfl⟩
  · have hb : ((l1.length : Int) != (l2.length : Int)) = true := by simp; omega
    have HL : Hid (¬ l1.length = l2.length) := hl
    clear hl
    go_enter Try.func21, Try.ntmps21
    go_wp2
    go_ret
    exact ⟨by rw [eq_len HL.out]; rfl, 0, rfl⟩

end Go.Proofs.Qxb6615032a
