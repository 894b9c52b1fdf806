/-
  zzFieldsEqual, zzCommaPieces.
-/
import Derived.Test.Qxb6615032aInv
import Derived.Test.Qxb6615032aEq
namespace Go.Proofs.Qxb6615032a
set_option linter.unusedVariables false
set_option linter.unusedSimpArgs false
open Go.RowKit Plain


/-- The value v is a slice of the bytes l. -/
def HB (w : World) (v : Value) (l : List Int) : Prop := ∃ ao cap, v = .slice ao l.length cap ∧ (ao = none → cap = 0) ∧ Txt w ao l

theorem HB.drewN {w : World} {v : Value} {l : List Int} (h : HB w v l) (q : Nat) : HB (w.drewN q) v l := by
  obtain ⟨ao, cap, e, n, t⟩ := h; exact ⟨ao, cap, e, n, t.drewN q⟩

theorem bytesEqV {v1 v2 : Value} {l1 l2 : List Int} {w : World} (H1 : HB w v1 l1) (H2 : HB w v2 l2) :
    Calls Try.prog 21 #[v1, v2] w fun e w' => e = .returned (.bool (l1 == l2)) ∧ ∃ q, w' = w.drewN q := by
  obtain ⟨a1, c1, rfl, _, t1⟩ := H1
  obtain ⟨a2, c2, rfl, _, t2⟩ := H2
  exact bytesEq a1 a2 c1 c2 l1 l2 w t1 t2

/-- The value v is a slice of slices of bytes. -/
def Flds (w : World) (v : Value) (ls : List (List Int)) : Prop :=
  ∃ ao cap, v = .slice ao ls.length cap ∧ ls.length ≤ 2097153 ∧ (0 < ls.length → ∃ b o, ao = some ⟨b, o, none⟩ ∧ ∀ i, i < ls.length → ∃ u, w.cell? ⟨b, o + i, none⟩ = some u ∧ HB w u (ls.getD i []))

theorem Flds.drewN {w : World} {v : Value} {ls : List (List Int)} (h : Flds w v ls) (q : Nat) : Flds (w.drewN q) v ls := by
  obtain ⟨ao, cap, e, hl, t⟩ := h
  refine ⟨ao, cap, e, hl, fun h0 => ?_⟩
  obtain ⟨b, o, e', f⟩ := t h0
  refine ⟨b, o, e', fun i hi => ?_⟩
  obtain ⟨u, hu, hb⟩ := f i hi
  exact ⟨u, by simpa using hu, hb.drewN q⟩

theorem extL {l1 l2 : List (List Int)} (hl : l1.length = l2.length) (h : ∀ j, j < l1.length → l1.getD j [] = l2.getD j []) : l1 = l2 := by
  apply List.ext_getElem hl
  intro i h1 h2
  have := h i h1
  simpa [List.getD, h1, h2] using this

theorem eqL_true {l1 l2 : List (List Int)} (hl : l1.length = l2.length) (k : Nat) (hk : ¬ k < l1.length) (h : ∀ j, j < k → l1.getD j [] = l2.getD j []) : (l1 == l2) = true := by
  rw [beq_iff_eq]; exact extL hl fun j hj => h j (by omega)
theorem eqL_false {l1 l2 : List (List Int)} (k : Nat) (h : l1.getD k [] ≠ l2.getD k []) : (l1 == l2) = false := by
  rw [beq_eq_false_iff_ne]; intro e; subst e; exact h rfl
theorem eqL_len {l1 l2 : List (List Int)} (h : ¬ l1.length = l2.length) : (l1 == l2) = false := by
  rw [beq_eq_false_iff_ne]; intro e; subst e; exact h rfl

set_option maxHeartbeats 1000000 in
theorem fieldsEq {v1 v2 : Value} {l1 l2 : List (List Int)} {w : World} (H1 : Flds w v1 l1) (H2 : Flds w v2 l2) :
    Calls Try.prog 20 #[v1, v2] w fun e w' => e = .returned (.bool (l1 == l2)) ∧ ∃ q, w' = w.drewN q := by
  obtain ⟨a1, c1, rfl, b1, t1⟩ := H1
  obtain ⟨a2, c2, rfl, b2, t2⟩ := H2
  by_cases hl : l1.length = l2.length
  · have hb : ((l1.length : Int) != (l2.length : Int)) = false := by simp [hl]
    have h12 : l1.length ≤ l2.length := by omega
    have h21 : l2.length ≤ l1.length := by omega
    have HL := hid hl
    clear hl
    go_enter Try.func20, Try.ntmps20
    go_wp2
    go_loopw [5] (fun i wr => ∃ k q : Nat, k ≤ l1.length ∧ i = .int .i64 k ∧ wr = w.drewN q ∧ ∀ j, j < k → l1.getD j [] = l2.getD j []) (fun i _ => l1.length - (intOf i).toNat)
    case atStart => exact ⟨0, 0, Nat.zero_le _, rfl, rfl, fun j hj => absurd hj (by omega)⟩
    case round =>
      obtain ⟨k, q, hk, rfl, rfl, hsame⟩ := hrel
      have HS := hid hsame
      clear hsame
      by_cases hlt : k < l1.length
      · obtain ⟨x1, o1, rfl, g1⟩ := t1 (by omega)
        obtain ⟨x2, o2, rfl, g2⟩ := t2 (by omega)
        obtain ⟨u1, f1, d1⟩ := g1 k (by omega)
        obtain ⟨u2, f2, d2⟩ := g2 k (by omega)
        have D1 := hid d1
        have D2 := hid d2
        have k1 : (k : Int) < (l1.length : Int) := by omega
        have k2 : (k : Int) < (l2.length : Int) := by omega
        have k0 : (0 : Int) ≤ (k : Int) := by omega
        clear t1 t2 g1 g2 d1 d2
        generalize hm1 : l1.getD k [] = m1 at D1
        generalize hm2 : l2.getD k [] = m2 at D2
        have M1 := hid hm1
        have M2 := hid hm2
        clear hm1 hm2
        generalize hbq : (m1 == m2) = bq
        have HQ := hid hbq
        have hc : ∀ n, Calls Try.prog 21 #[u1, u2] (w.drewN (q + n)) fun e w' => e = .returned (.bool bq) ∧ ∃ m, w' = w.drewN (q + m) := by
          intro n
          refine (bytesEqV (D1.out.drewN (q + n)) (D2.out.drewN (q + n))).mono ?_
          rintro e w' ⟨rfl, q', rfl⟩
          exact ⟨by rw [hbq], n + q', by rw [World.drewN_drewN, Nat.add_assoc]⟩
        have HC := hid hc
        clear hbq hc
        go_wp2
        go_quiet ((go_at_call 21; exact HC.out _))
        cases bq with
        | true =>
          go_wp2
          go_roundw
          case rel =>
            refine ⟨k + 1, _, by omega, by go_num, rfl, fun j hj => ?_⟩
            by_cases hjk : j = k
            · subst hjk; rw [M1.out, M2.out]; simpa using HQ.out
            · exact HS.out j (by omega)
          case measure => simp [intOf]; omega
        | false =>
          go_wp2
          go_ret
          exact ⟨by rw [eqL_false k (by rw [M1.out, M2.out]; simpa using HQ.out)]; rfl, q + nq, by rw [World.drewN_drewN]⟩
      · go_wp2
        go_ret
        exact ⟨by rw [eqL_true HL.out k hlt HS.out]; rfl, _, rfl⟩
  · have hb : ((l1.length : Int) != (l2.length : Int)) = true := by simp; omega
    have HL := hid hl
    clear hl
    go_enter Try.func20, Try.ntmps20
    go_wp2
    go_ret
    exact ⟨by rw [eqL_len HL.out]; rfl, 0, rfl⟩

theorem pieces_len (l : List Int) (s p : Nat) : (pieces l s p).length ≤ l.length + 1 := by
  induction l generalizing s p with
  | nil => simp [pieces]
  | cons c r ih =>
    have h0 := ih (p + 1) (p + 1)
    have h1 := ih s (p + 1)
    simp only [pieces]
    split <;> simp <;> omega

/-- fs has been read, what is left reads from (s, p). -/
def LeftP (l : List Int) (s p : Nat) (fs : List (Nat × Nat)) : Prop := pieces l 0 0 = fs ++ pieces (l.drop p) s p
theorem LeftP.start (l : List Int) : LeftP l 0 0 [] := by simp [LeftP]
theorem LeftP.len {l : List Int} {s p : Nat} {fs : List (Nat × Nat)} (h : LeftP l s p fs) : fs.length ≤ l.length + 1 := by
  have := pieces_len l 0 0
  rw [h] at this
  simp at this
  omega
theorem LeftP.comma {l : List Int} {s p : Nat} {fs : List (Nat × Nat)} (h : LeftP l s p fs) (hp : p < l.length) (hc : l.getD p 0 = 44) : LeftP l (p + 1) (p + 1) (fs ++ [(s, p)]) := by
  unfold LeftP; rw [h, drop_at l p hp, hc]; simp [pieces]
theorem LeftP.plain {l : List Int} {s p : Nat} {fs : List (Nat × Nat)} (h : LeftP l s p fs) (hp : p < l.length) (hc : l.getD p 0 ≠ 44) : LeftP l s (p + 1) fs := by
  unfold LeftP; rw [h, drop_at l p hp]; simp only [pieces]; rw [if_neg hc]
theorem LeftP.fin {l : List Int} {s p : Nat} {fs : List (Nat × Nat)} (h : LeftP l s p fs) (hp : l.length ≤ p) : pieces l 0 0 = fs ++ [(s, p)] := by
  rw [h, List.drop_of_length_le hp]; simp [pieces]

theorem own_push {w1 : World} {B g : Nat} {v : Value} {fs : List (Nat × Nat)} {ao : Option Addr} {cap : Nat} {x : Nat × Nat} (h : w1.ownsRow B 29 1 v (fs.length + 1) (fs.map (cutV ao cap) ++ [cutV ao cap x])) :
    w1.ownsRow B 29 1 v (fs ++ [x]).length ((fs ++ [x]).map (cutV ao cap)) := by simpa using h

set_option maxHeartbeats 1000000 in
theorem commaPieces (ao : Option Addr) (cap : Nat) (l : List Int) (w : World) (hT : Txt w ao l) (hcap : l.length ≤ cap) :
    Calls Try.prog 26 #[.slice ao l.length cap] w fun e w' => ∃ v, e = .returned v ∧ w'.ownsRow w.heap.size 29 1 v (pieces l 0 0).length ((pieces l 0 0).map (cutV ao cap)) ∧ Below w.heap.size w w' := by
  have hb0 := hT.1
  have HT := hid hT
  obtain ⟨i0, hi0, hz0, hz1, hz2⟩ := info_parts Try.info29
  clear hT
  go_enter Try.func26, Try.ntmps26
  go_wp2
  go_loopw [3, 4, 5] (fun out st i wr => ∃ s p fs, st = .int .i64 (s : Nat) ∧ i = .int .i64 (p : Nat) ∧ s ≤ p ∧ p ≤ l.length ∧ LeftP l s p fs ∧ wr.ownsRow w.heap.size 29 1 out fs.length (fs.map (cutV ao cap)) ∧ Below w.heap.size w wr) (fun _ _ i _ => l.length - (intOf i).toNat)
  case atStart => exact ⟨0, 0, [], rfl, rfl, Nat.le_refl _, Nat.zero_le _, LeftP.start l, World.ownsRow_nil _ _ _ _, Below.refl _ _⟩
  case round =>
    obtain ⟨s, p, fs, rfl, rfl, hsp, hpl, hleft, hown, hbel⟩ := hrel
    have hflen := hleft.len
    have HL := hid hleft
    have HO := hid hown
    have HW := hid hbel
    have hsz := hbel.size
    clear hleft hown hbel
    by_cases hp : p < l.length
    · obtain ⟨b, o, hao, hc⟩ := HT.out.2 (by omega)
      have cp0 := hc p hp
      have hbl := World.block_lt_of_cell? w _ cp0
      have cp := (HW.out.cell (p := ⟨b, o + p, none⟩) hbl).trans cp0
      clear hc cp0 hbl
      subst hao
      generalize hcv : l.getD p 0 = c at cp
      have HV := hid hcv
      clear hcv
      by_cases h44 : c = 44
      · subst h44
        have hcut := run_cut (some ⟨b, o, none⟩) l.length cap s p s p rfl rfl hsp (by omega)
        go_wp2_with (at_builtin; refine wpList_append_own _ rfl _ _ 24 rfl w.heap.size 29 i0 (.slice none 0 0) 1 24 Try.underlying24 hi0 hz0 hz1 hz2 rfl (by decide) _ _ _ rfl (HO.out.alloc _) ⟨wr.heap.size, 0, none⟩ 1 1 [cutV (some ⟨b, o, none⟩) cap (s, p)] rfl rfl (World.news_of_block (cs := #[cutV (some ⟨b, o, none⟩) cap (s, p)]) (t := 29) (fr := (0, 0)) (heap_alloc_new wr _)) (by simp [Value.oneCell', cutV]) (by unfold maxLen; omega) (by omega) (by simp; omega) ?_)
        intro v' w1 hown' hgrow _
        have R1 := hid (own_push (g := 0) hown')
        have R2 := hid ((HW.out.alloc hsz _).grown hgrow (by simp; omega) (fun k hk => (HO.out.lt k hk).1))
        clear hown' hgrow hcut cp
        go_wp2
        go_roundw
        case rel => exact ⟨p + 1, p + 1, fs ++ [(s, p)], by go_num, by go_num, Nat.le_refl _, by omega, HL.out.comma hp HV.out, R1.out, R2.out⟩
        case measure => simp [intOf]; omega
      · have e44 : (c == 44) = false := by simpa using h44
        have X := hid h44
        clear h44
        go_wp2
        go_roundw
        case rel => exact ⟨s, p + 1, fs, rfl, by go_num, by omega, by omega, HL.out.plain hp (by rw [HV.out]; exact X.out), HO.out, HW.out⟩
        case measure => simp [intOf]; omega
    · have hcutl := run_cut_l ao l.length cap s s rfl (by omega)
      obtain rfl : p = l.length := by omega
      have HF := hid (HL.out.fin (Nat.le_refl _))
      go_wp2_with (at_builtin; refine wpList_append_own _ rfl _ _ 24 rfl w.heap.size 29 i0 (.slice none 0 0) 1 24 Try.underlying24 hi0 hz0 hz1 hz2 rfl (by decide) _ _ _ rfl (HO.out.alloc _) ⟨wr.heap.size, 0, none⟩ 1 1 [cutV ao cap (s, l.length)] rfl rfl (World.news_of_block (cs := #[cutV ao cap (s, l.length)]) (t := 29) (fr := (0, 0)) (heap_alloc_new wr _)) (by simp [Value.oneCell', cutV]) (by unfold maxLen; omega) (by omega) (by simp; omega) ?_)
      intro v' w1 hown' hgrow _
      have R1 := hid (own_push (g := 0) hown')
      have R2 := hid ((HW.out.alloc hsz _).grown hgrow (by simp; omega) (fun k hk => (HO.out.lt k hk).1))
      clear hown' hgrow hcutl
      go_wp2
      go_ret
      exact ⟨_, rfl, by rw [HF.out]; exact R1.out, R2.out⟩

end Go.Proofs.Qxb6615032a
