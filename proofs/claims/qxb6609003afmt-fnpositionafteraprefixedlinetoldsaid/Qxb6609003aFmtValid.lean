/-
  zzValidUTF8: what it answers true at is a row of characters.
-/
import Derived.Test.Qxb6609003aFmtUtf
import Derived.Laws.Bits
namespace Go.Proofs.Qxb6609003aFmt
set_option linter.unusedVariables false
set_option linter.unusedSimpArgs false
open Go.RowKit Plain

/-- What the bytes behind place p add to r0. -/
def vl (l : List Int) (p : Nat) (r0 : Int) : Nat → Int
  | 0 => r0
  | j + 1 => vl l p r0 j * 64 + l.getD (p + (j + 1)) 0 % 64

theorem vl_bound (l : List Int) (p : Nat) (r0 : Int) (h0 : 0 ≤ r0) (B : Int) (hB : r0 < B) (j : Nat) : 0 ≤ vl l p r0 j ∧ vl l p r0 j < B * 64 ^ j := by
  induction j with
  | zero => simpa [vl] using ⟨h0, hB⟩
  | succ j ih =>
    simp only [vl]
    rw [Int.pow_succ, ← Int.mul_assoc]
    omega

def Cts (l : List Int) (p N : Nat) : Prop := ∀ j, 1 ≤ j → j < N → ct (l.getD (p + j) 0)

theorem good1 {l : List Int} {p : Nat} (h : Good (l.take p)) (hp : p < l.length) (h0 : 0 ≤ l.getD p 0) (h1 : l.getD p 0 < 128) : Good (l.take (p + 1)) := by
  rw [take_succ l p hp]
  exact good_snoc h (Or.inl ⟨_, rfl, h0, h1⟩)
theorem good2 {l : List Int} {p : Nat} (h : Good (l.take p)) (hp : p + 2 ≤ l.length) (ha : 194 ≤ l.getD p 0 ∧ l.getD p 0 ≤ 223) (hc : Cts l p 2) : Good (l.take (p + 2)) := by
  rw [take_succ l (p + 1) (by omega), take_succ l p (by omega), List.append_assoc]
  exact good_snoc h (Or.inr (Or.inl ⟨_, _, rfl, ha, hc 1 (by omega) (by omega)⟩))
theorem good3 {l : List Int} {p : Nat} (h : Good (l.take p)) (hp : p + 3 ≤ l.length) (ha : 224 ≤ l.getD p 0 ∧ l.getD p 0 ≤ 239) (hc : Cts l p 3)
    (hv : 2048 ≤ vl l p (l.getD p 0 % 16) 2) (hv2 : ¬ (55296 ≤ vl l p (l.getD p 0 % 16) 2 ∧ vl l p (l.getD p 0 % 16) 2 ≤ 57343)) : Good (l.take (p + 3)) := by
  have e : vl l p (l.getD p 0 % 16) 2 = l.getD p 0 % 16 * 4096 + l.getD (p + 1) 0 % 64 * 64 + l.getD (p + 2) 0 % 64 := by simp only [vl, Nat.reduceAdd, Nat.zero_add]; omega
  rw [e] at hv hv2
  rw [take_succ l (p + 2) (by omega), take_succ l (p + 1) (by omega), take_succ l p (by omega), List.append_assoc, List.append_assoc]
  exact good_snoc h (Or.inr (Or.inr (Or.inl ⟨_, _, _, rfl, ha, hc 1 (by omega) (by omega), hc 2 (by omega) (by omega), hv, hv2⟩)))
theorem good4 {l : List Int} {p : Nat} (h : Good (l.take p)) (hp : p + 4 ≤ l.length) (ha : 240 ≤ l.getD p 0 ∧ l.getD p 0 ≤ 244) (hc : Cts l p 4)
    (hv : 65536 ≤ vl l p (l.getD p 0 % 8) 3) (hv2 : vl l p (l.getD p 0 % 8) 3 ≤ 1114111) : Good (l.take (p + 4)) := by
  have e : vl l p (l.getD p 0 % 8) 3 = l.getD p 0 % 8 * 262144 + l.getD (p + 1) 0 % 64 * 4096 + l.getD (p + 2) 0 % 64 * 64 + l.getD (p + 3) 0 % 64 := by simp only [vl, Nat.reduceAdd, Nat.zero_add]; omega
  rw [e] at hv hv2
  rw [take_succ l (p + 3) (by omega), take_succ l (p + 2) (by omega), take_succ l (p + 1) (by omega), take_succ l p (by omega), List.append_assoc, List.append_assoc, List.append_assoc]
  exact good_snoc h (Or.inr (Or.inr (Or.inr ⟨_, _, _, _, rfl, ha, hc 1 (by omega) (by omega), hc 2 (by omega) (by omega), hc 3 (by omega) (by omega), hv, hv2⟩)))

/-- What the test answers. -/
def Judged (l : List Int) (e : Ending) : Prop := ∃ b : Bool, e = .returned (.bool b) ∧ (b = true → Good l)
theorem judged_false (l : List Int) : Judged l (.returned (.bool false)) := ⟨false, rfl, by simp⟩
theorem judged_true {l : List Int} (h : Good l) : Judged l (.returned (.bool true)) := ⟨true, rfl, fun _ => h⟩

theorem cts_succ {l : List Int} {p q : Nat} (h : Cts l p q) (hq : ct (l.getD (p + q) 0)) : Cts l p (q + 1) := by
  intro j h1 h2
  by_cases e : j = q
  · subst e; exact hq
  · exact h j h1 (by omega)

set_option maxHeartbeats 4000000 in
set_option maxRecDepth 100000 in
theorem valid (ao : Option Addr) (cap : Nat) (l : List Int) (w : World) (hT : Txt w ao l) (hby : ∀ x ∈ l, 0 ≤ x ∧ x < 256) :
    Calls Tryf.prog 6 #[.slice ao l.length cap] w fun e w' => Judged l e ∧ w' = w := by
  obtain ⟨hb, t⟩ := hT
  have HT := hid t
  have HB := hid hby
  clear t hby
  go_enter Tryf.func6, Tryf.ntmps6
  go_wp2
  go_loop [3, 4, 5, 6, 7, 8, 9] (fun i _ _ _ _ _ _ => ∃ p, i = .int .i64 (p : Nat) ∧ p ≤ l.length ∧ Good (l.take p)) (fun i _ _ _ _ _ _ => l.length - (intOf i).toNat)
  case atStart => exact ⟨0, rfl, Nat.zero_le _, by simpa using good_nil⟩
  case round =>
    obtain ⟨p, rfl, hp, hgood⟩ := hrel
    have HGd := hid hgood
    clear hgood
    by_cases hlt : p < l.length
    · obtain ⟨b, o, rfl, hc⟩ := HT.out (by omega)
      have cp := hc p hlt
      have HX := hid hc
      have hcb := HB.out (l.getD p 0) (by simp [List.getD, hlt])
      have HG1 := hid (good1 HGd.out hlt hcb.1)
      have HG2 := hid (good2 (l := l) (p := p) HGd.out)
      have HG3 := hid (good3 (l := l) (p := p) HGd.out)
      have HG4 := hid (good4 (l := l) (p := p) HGd.out)
      clear hc
      generalize l.getD p 0 = c at *
      have hc0 := hcb.1
      have hc1 := hcb.2
      clear hcb
      by_cases k1 : c < 128
      · go_wp2
        go_round
        case rel => exact ⟨p + 1, by go_num, by omega, HG1.out k1⟩
        case measure => simp [intOf]; omega
      by_cases k2 : 194 ≤ c
      rotate_left
      · have t1 : ¬ (224 ≤ c) := by omega
        have t2 : ¬ (240 ≤ c) := by omega
        go_wp2
        go_ret
        exact ⟨judged_false l, rfl⟩
      by_cases k3 : c ≤ 223
      · have hle2 : c = c := rfl
        have hand := and31 c hc0 hc1
        have hr0 : 0 ≤ c % 32 ∧ c % 32 < 32 := by omega
        have hvb := vl_bound l p (c % 32) hr0.1 32 hr0.2
        by_cases hroom : p + 2 ≤ l.length
        rotate_left
        · have hroom2 : (l.length : Int) - (p : Int) < 2 := by omega
          go_wp2
          go_ret
          exact ⟨judged_false l, rfl⟩
        have hroom2 : ¬ ((l.length : Int) - (p : Int) < 2) := by omega
        go_wp2
        go_loop [6, 8, 9] (fun r k _ => ∃ q : Nat, k = .int .i64 (q : Nat) ∧ 1 ≤ q ∧ q ≤ 2 ∧ r = .int .i32 (vl l p (c % 32) (q - 1)) ∧ Cts l p q) (fun _ k _ => 2 - (intOf k).toNat)
        case atStart => exact ⟨1, rfl, by omega, by omega, rfl, fun j h1 h2 => by omega⟩
        case round =>
          obtain ⟨q, rfl, hq1, hqN, rfl, hcts⟩ := hrel
          have HCt := hid hcts
          clear hcts
          by_cases hq : q < 2
          · have cq := HX.out (p + q) (by omega)
            have hdb := HB.out (l.getD (p + q) 0) (by simp [List.getD, show p + q < l.length by omega])
            have hvq := hvb (q - 1)
            have hv5 : 0 ≤ vl l p (c % 32) (q - 1) ∧ vl l p (c % 32) (q - 1) < 32768 := by
              have : q = 1 := by omega
              rcases this with rfl <;> (simp at hvq ⊢; omega)
            have HV := hid (show vl l p (c % 32) (q + 1 - 1) = vl l p (c % 32) (q - 1) * 64 + l.getD (p + q) 0 % 64 by
              obtain ⟨j, rfl⟩ : ∃ j, q = j + 1 := ⟨q - 1, by omega⟩
              rfl)
            have HC2 := hid (cts_succ HCt.out)
            generalize l.getD (p + q) 0 = d at *
            generalize vl l p (c % 32) (q - 1) = v at *
            have hd0 := hdb.1
            have hd1 := hdb.2
            have hv0 := hv5.1
            have hv1 := hv5.2
            have hct := cont_test d hd0 hd1
            have h63 := and63 d hd0 hd1
            have hor := or_step v (d % 64) hv0 hv1 (by omega) (by omega)
            have hwr : IntKind.i64.wrap ((p : Int) + (q : Int)) = ((p + q : Nat) : Int) := by rw [IntWalk.i64_in _ (by omega)]; omega
            obtain ⟨s, hs⟩ : ∃ s, s = p + q := ⟨_, rfl⟩
            rw [← hs] at hwr cq
            have hsl : s < l.length := by omega
            clear hs
            clear hdb hv5 hvq hvb
            by_cases hdc : 128 ≤ d ∧ d < 192
            · rw [decide_eq_true hdc] at hct
              go_wp2
              go_round
              case rel => exact ⟨q + 1, by go_num, by omega, by omega, by first | (rw [HV.out]; done) | (rw [HV.out]; go_num), HC2.out hdc⟩
              case measure => simp [intOf]; omega
            · rw [decide_eq_false hdc] at hct
              go_wp2
              go_ret
              exact ⟨judged_false l, rfl⟩
          · obtain rfl : q = 2 := by omega
            have HG := hid (HG2.out hroom (by omega) HCt.out)
            have hvN : 0 ≤ vl l p (c % 32) (2 - 1) ∧ vl l p (c % 32) (2 - 1) < 2097152 := by
              have := hvb (2 - 1)
              simp at this ⊢
              omega
            have eN : vl l p (c % 32) (2 - 1) = vl l p (c % 32) 1 := rfl
            rw [eN] at hvN ⊢
            generalize vl l p (c % 32) 1 = v at *
            have hv0 := hvN.1
            have hv1 := hvN.2
            clear hvN hvb HG2 HG3 HG4
            by_cases g1 : v < 128
            · go_wp2
              go_ret
              exact ⟨judged_false l, rfl⟩
            by_cases g2 : 1114111 < v
            · go_wp2
              go_ret
              exact ⟨judged_false l, rfl⟩
            by_cases g3 : 55296 ≤ v
            · by_cases g4 : v ≤ 57343
              · go_wp2
                go_ret
                exact ⟨judged_false l, rfl⟩
              · go_wp2
                go_round
                case rel => exact ⟨p + 2, by go_num, by omega, HG.out⟩
                case measure => simp [intOf]; omega
            · go_wp2
              go_round
              case rel => exact ⟨p + 2, by go_num, by omega, HG.out⟩
              case measure => simp [intOf]; omega
      by_cases k4 : c ≤ 239
      · have hle2 : c = c := rfl
        have k5 : 224 ≤ c := by omega
        have hand := and15 c hc0 hc1
        have hr0 : 0 ≤ c % 16 ∧ c % 16 < 16 := by omega
        have hvb := vl_bound l p (c % 16) hr0.1 16 hr0.2
        by_cases hroom : p + 3 ≤ l.length
        rotate_left
        · have hroom2 : (l.length : Int) - (p : Int) < 3 := by omega
          go_wp2
          go_ret
          exact ⟨judged_false l, rfl⟩
        have hroom2 : ¬ ((l.length : Int) - (p : Int) < 3) := by omega
        go_wp2
        go_loop [6, 8, 9] (fun r k _ => ∃ q : Nat, k = .int .i64 (q : Nat) ∧ 1 ≤ q ∧ q ≤ 3 ∧ r = .int .i32 (vl l p (c % 16) (q - 1)) ∧ Cts l p q) (fun _ k _ => 3 - (intOf k).toNat)
        case atStart => exact ⟨1, rfl, by omega, by omega, rfl, fun j h1 h2 => by omega⟩
        case round =>
          obtain ⟨q, rfl, hq1, hqN, rfl, hcts⟩ := hrel
          have HCt := hid hcts
          clear hcts
          by_cases hq : q < 3
          · have cq := HX.out (p + q) (by omega)
            have hdb := HB.out (l.getD (p + q) 0) (by simp [List.getD, show p + q < l.length by omega])
            have hvq := hvb (q - 1)
            have hv5 : 0 ≤ vl l p (c % 16) (q - 1) ∧ vl l p (c % 16) (q - 1) < 32768 := by
              have : q = 1 ∨ q = 2 := by omega
              rcases this with rfl | rfl <;> (simp at hvq ⊢; omega)
            have HV := hid (show vl l p (c % 16) (q + 1 - 1) = vl l p (c % 16) (q - 1) * 64 + l.getD (p + q) 0 % 64 by
              obtain ⟨j, rfl⟩ : ∃ j, q = j + 1 := ⟨q - 1, by omega⟩
              rfl)
            have HC2 := hid (cts_succ HCt.out)
            generalize l.getD (p + q) 0 = d at *
            generalize vl l p (c % 16) (q - 1) = v at *
            have hd0 := hdb.1
            have hd1 := hdb.2
            have hv0 := hv5.1
            have hv1 := hv5.2
            have hct := cont_test d hd0 hd1
            have h63 := and63 d hd0 hd1
            have hor := or_step v (d % 64) hv0 hv1 (by omega) (by omega)
            have hwr : IntKind.i64.wrap ((p : Int) + (q : Int)) = ((p + q : Nat) : Int) := by rw [IntWalk.i64_in _ (by omega)]; omega
            obtain ⟨s, hs⟩ : ∃ s, s = p + q := ⟨_, rfl⟩
            rw [← hs] at hwr cq
            have hsl : s < l.length := by omega
            clear hs
            clear hdb hv5 hvq hvb
            by_cases hdc : 128 ≤ d ∧ d < 192
            · rw [decide_eq_true hdc] at hct
              go_wp2
              go_round
              case rel => exact ⟨q + 1, by go_num, by omega, by omega, by first | (rw [HV.out]; done) | (rw [HV.out]; go_num), HC2.out hdc⟩
              case measure => simp [intOf]; omega
            · rw [decide_eq_false hdc] at hct
              go_wp2
              go_ret
              exact ⟨judged_false l, rfl⟩
          · obtain rfl : q = 3 := by omega
            have HG := hid (HG3.out hroom (by omega) HCt.out)
            have hvN : 0 ≤ vl l p (c % 16) (3 - 1) ∧ vl l p (c % 16) (3 - 1) < 2097152 := by
              have := hvb (3 - 1)
              simp at this ⊢
              omega
            have eN : vl l p (c % 16) (3 - 1) = vl l p (c % 16) 2 := rfl
            rw [eN] at hvN ⊢
            generalize vl l p (c % 16) 2 = v at *
            have hv0 := hvN.1
            have hv1 := hvN.2
            clear hvN hvb HG2 HG3 HG4
            by_cases g1 : v < 2048
            · go_wp2
              go_ret
              exact ⟨judged_false l, rfl⟩
            by_cases g2 : 1114111 < v
            · go_wp2
              go_ret
              exact ⟨judged_false l, rfl⟩
            by_cases g3 : 55296 ≤ v
            · by_cases g4 : v ≤ 57343
              · go_wp2
                go_ret
                exact ⟨judged_false l, rfl⟩
              · go_wp2
                go_round
                case rel => exact ⟨p + 3, by go_num, by omega, HG.out (by omega) (by omega)⟩
                case measure => simp [intOf]; omega
            · go_wp2
              go_round
              case rel => exact ⟨p + 3, by go_num, by omega, HG.out (by omega) (by omega)⟩
              case measure => simp [intOf]; omega
      by_cases k5 : c ≤ 244
      · have hle2 : c = c := rfl
        have k6 : 240 ≤ c := by omega
        have k7 : 224 ≤ c := by omega
        have hand := and7 c hc0 hc1
        have hr0 : 0 ≤ c % 8 ∧ c % 8 < 8 := by omega
        have hvb := vl_bound l p (c % 8) hr0.1 8 hr0.2
        by_cases hroom : p + 4 ≤ l.length
        rotate_left
        · have hroom2 : (l.length : Int) - (p : Int) < 4 := by omega
          go_wp2
          go_ret
          exact ⟨judged_false l, rfl⟩
        have hroom2 : ¬ ((l.length : Int) - (p : Int) < 4) := by omega
        go_wp2
        go_loop [6, 8, 9] (fun r k _ => ∃ q : Nat, k = .int .i64 (q : Nat) ∧ 1 ≤ q ∧ q ≤ 4 ∧ r = .int .i32 (vl l p (c % 8) (q - 1)) ∧ Cts l p q) (fun _ k _ => 4 - (intOf k).toNat)
        case atStart => exact ⟨1, rfl, by omega, by omega, rfl, fun j h1 h2 => by omega⟩
        case round =>
          obtain ⟨q, rfl, hq1, hqN, rfl, hcts⟩ := hrel
          have HCt := hid hcts
          clear hcts
          by_cases hq : q < 4
          · have cq := HX.out (p + q) (by omega)
            have hdb := HB.out (l.getD (p + q) 0) (by simp [List.getD, show p + q < l.length by omega])
            have hvq := hvb (q - 1)
            have hv5 : 0 ≤ vl l p (c % 8) (q - 1) ∧ vl l p (c % 8) (q - 1) < 32768 := by
              have : q = 1 ∨ q = 2 ∨ q = 3 := by omega
              rcases this with rfl | rfl | rfl <;> (simp at hvq ⊢; omega)
            have HV := hid (show vl l p (c % 8) (q + 1 - 1) = vl l p (c % 8) (q - 1) * 64 + l.getD (p + q) 0 % 64 by
              obtain ⟨j, rfl⟩ : ∃ j, q = j + 1 := ⟨q - 1, by omega⟩
              rfl)
            have HC2 := hid (cts_succ HCt.out)
            generalize l.getD (p + q) 0 = d at *
            generalize vl l p (c % 8) (q - 1) = v at *
            have hd0 := hdb.1
            have hd1 := hdb.2
            have hv0 := hv5.1
            have hv1 := hv5.2
            have hct := cont_test d hd0 hd1
            have h63 := and63 d hd0 hd1
            have hor := or_step v (d % 64) hv0 hv1 (by omega) (by omega)
            have hwr : IntKind.i64.wrap ((p : Int) + (q : Int)) = ((p + q : Nat) : Int) := by rw [IntWalk.i64_in _ (by omega)]; omega
            obtain ⟨s, hs⟩ : ∃ s, s = p + q := ⟨_, rfl⟩
            rw [← hs] at hwr cq
            have hsl : s < l.length := by omega
            clear hs
            clear hdb hv5 hvq hvb
            by_cases hdc : 128 ≤ d ∧ d < 192
            · rw [decide_eq_true hdc] at hct
              go_wp2
              go_round
              case rel => exact ⟨q + 1, by go_num, by omega, by omega, by first | (rw [HV.out]; done) | (rw [HV.out]; go_num), HC2.out hdc⟩
              case measure => simp [intOf]; omega
            · rw [decide_eq_false hdc] at hct
              go_wp2
              go_ret
              exact ⟨judged_false l, rfl⟩
          · obtain rfl : q = 4 := by omega
            have HG := hid (HG4.out hroom (by omega) HCt.out)
            have hvN : 0 ≤ vl l p (c % 8) (4 - 1) ∧ vl l p (c % 8) (4 - 1) < 2097152 := by
              have := hvb (4 - 1)
              simp at this ⊢
              omega
            have eN : vl l p (c % 8) (4 - 1) = vl l p (c % 8) 3 := rfl
            rw [eN] at hvN ⊢
            generalize vl l p (c % 8) 3 = v at *
            have hv0 := hvN.1
            have hv1 := hvN.2
            clear hvN hvb HG2 HG3 HG4
            by_cases g1 : v < 65536
            · go_wp2
              go_ret
              exact ⟨judged_false l, rfl⟩
            by_cases g2 : 1114111 < v
            · go_wp2
              go_ret
              exact ⟨judged_false l, rfl⟩
            by_cases g3 : 55296 ≤ v
            · by_cases g4 : v ≤ 57343
              · go_wp2
                go_ret
                exact ⟨judged_false l, rfl⟩
              · go_wp2
                go_round
                case rel => exact ⟨p + 4, by go_num, by omega, HG.out (by omega) (by omega)⟩
                case measure => simp [intOf]; omega
            · go_wp2
              go_round
              case rel => exact ⟨p + 4, by go_num, by omega, HG.out (by omega) (by omega)⟩
              case measure => simp [intOf]; omega
      have k6 : 240 ≤ c := by omega
      have k7 : 224 ≤ c := by omega
      go_wp2
      go_ret
      exact ⟨judged_false l, rfl⟩
    · obtain rfl : p = l.length := by omega
      have HF := hid (show Good l by have := HGd.out; rwa [List.take_length] at this)
      go_wp2
      go_ret
      exact ⟨judged_true HF.out, rfl⟩

end Go.Proofs.Qxb6609003aFmt
