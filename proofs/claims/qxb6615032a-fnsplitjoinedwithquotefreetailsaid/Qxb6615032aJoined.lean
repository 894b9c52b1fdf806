/-
  FnSplitJoinedWithQuoteFreeTail: the walk.
-/
import Derived.Test.Qxb6615032aRead
namespace Go.Proofs.Qxb6615032a
set_option linter.unusedVariables false
set_option linter.unusedSimpArgs false
open Go.RowKit Plain

theorem free_of {l : List Int} {k : Nat} (hk : ¬ k < l.length) (h : ∀ j, j < k → l.getD j 0 ≠ 34) : ∀ x ∈ l, x ≠ 34 := by
  intro x hx
  obtain ⟨i, hi, rfl⟩ := List.getElem_of_mem hx
  have := h i (by omega)
  simpa [List.getD, hi] using this

theorem join_left (a b : List Int) (j : Nat) (h : j < a.length) : (a ++ 44 :: b).getD j 0 = a.getD j 0 := by
  simp [List.getD, List.getElem?_append_left h]
theorem join_mid (a b : List Int) : (a ++ 44 :: b).getD a.length 0 = 44 := by
  simp [List.getD]
theorem join_right (a b : List Int) (j : Nat) : (a ++ 44 :: b).getD (a.length + 1 + j) 0 = b.getD j 0 := by
  simp only [List.getD]
  rw [List.getElem?_append_right (by omega), show a.length + 1 + j - a.length = j + 1 by omega, List.getElem?_cons_succ]

theorem byJoin {a b : List Int} (ha : ∀ x ∈ a, 0 ≤ x ∧ x < 256) (hb : ∀ x ∈ b, 0 ≤ x ∧ x < 256) : ∀ x ∈ a ++ 44 :: b, 0 ≤ x ∧ x < 256 := by
  intro x hx
  rcases List.mem_append.1 hx with h | h
  · exact ha x h
  · rcases List.mem_cons.1 h with rfl | h
    · omega
    · exact hb x h

theorem flds_len {w : World} {v : Value} {ls : List (List Int)} (h : Flds w v ls) : ls.length ≤ 2097153 := by
  obtain ⟨_, _, _, h, _⟩ := h; exact h

/-- The plain law. -/
theorem joined_plain (a b : List Int) (hb : ∀ x ∈ b, x ≠ 34) :
    (gram b 0 0 0).1 = true ∧ (gram b 0 0 0).2.map (Plain.part b) = (pieces b 0 0).map (Plain.part b) ∧ (gram (a ++ 44 :: b) 0 0 0).1 = (gram a 0 0 0).1 ∧
    ((gram a 0 0 0).1 = true → (gram (a ++ 44 :: b) 0 0 0).2.map (Plain.part (a ++ 44 :: b)) = (gram a 0 0 0).2.map (Plain.part a) ++ (pieces b 0 0).map (Plain.part b)) := by
  have hj := gram_join a b 0 0 0 hb
  have hf := gram_free b 0 0 hb
  refine ⟨by rw [hf], by rw [hf], hj.1, fun h => ?_⟩
  rw [hj.2 h, List.map_append]
  congr 1
  · apply List.map_congr_left
    intro x hx
    have := gram_bounds a 0 0 0 (Nat.le_refl _) (by omega) x hx
    exact part_left a (44 :: b) x this.1 (by omega)
  · have hs := pieces_shift b 0 0 (a.length + 1)
    rw [show 0 + a.length + 1 = 0 + (a.length + 1) by omega, hs, List.map_map]
    apply List.map_congr_left
    intro x _
    exact part_right a b x

theorem getD_app_left (a b : List (List Int)) (i : Nat) (h : i < a.length) : (a ++ b).getD i [] = a.getD i [] := by
  simp [List.getD, List.getElem?_append_left h]
theorem getD_app_right (a b : List (List Int)) (i : Nat) : (a ++ b).getD (a.length + i) [] = b.getD i [] := by
  simp [List.getD, List.getElem?_append_right]

theorem flds_cell {w : World} {ax : Option Addr} {n cx : Nat} {ls : List (List Int)} (h : Flds w (.slice ax n cx) ls) (h0 : 0 < ls.length) :
    ∃ b o, ax = some ⟨b, o, none⟩ ∧ ∀ i, i < ls.length → ∃ u, w.cell? ⟨b, o + i, none⟩ = some u ∧ HB w u (ls.getD i []) := by
  obtain ⟨a, c, e, _, r⟩ := h
  injection e with e1 _ _
  subst e1
  exact r h0

/-- One comparison of two fields, in whatever number of draws. -/
theorem same_field {w : World} {u1 u2 : Value} {l1 l2 : List Int} (h1 : HB w u1 l1) (h2 : HB w u2 l2) (e : l1 = l2) (q : Nat) :
    ∀ n, Calls Try.prog 21 #[u1, u2] (w.drewN (q + n)) fun e w' => e = .returned (.bool true) ∧ ∃ m, w' = w.drewN (q + m) := by
  intro n
  refine (bytesEqV (h1.drewN (q + n)) (h2.drewN (q + n))).mono ?_
  rintro x w' ⟨rfl, q', rfl⟩
  subst e
  exact ⟨by simp, n + q', by rw [World.drewN_drewN, Nat.add_assoc]⟩

set_option maxHeartbeats 4000000 in
set_option maxRecDepth 100000 in
theorem joined_core (a0 a1 : Option Addr) (cap0 cap1 : Nat) (lA lB : List Int) (w : World) (TA : Txt w a0 lA) (TB : Txt w a1 lB) (ca : lA.length ≤ cap0) (cb : lB.length ≤ cap1) (na : a0 = none → cap0 = 0) (nb : a1 = none → cap1 = 0)
    (byA : ∀ x ∈ lA, 0 ≤ x ∧ x < 256) (byB : ∀ x ∈ lB, 0 ≤ x ∧ x < 256) (hsum : lA.length + lB.length ≤ 1048576) :
    Calls Try.prog 6 #[.slice a0 lA.length cap0, .slice a1 lB.length cap1] w fun e w' => e = .returned (.bool true) ∧ Below w.heap.size w w' := by
  have HTA := hid TA
  have HTB := hid TB
  have HNA := hid na
  have HNB := hid nb
  have HBA := hid byA
  have HBB := hid byB
  have hA : (lA.length : Int) ≤ 1048576 := by omega
  have hB : (lB.length : Int) ≤ 1048576 := by omega
  have hAB : (lA.length : Int) + (lB.length : Int) ≤ 1048576 := by omega
  have hmk := run_make_row' (P := Try.prog) 29 5 (.int .u8 0) 1 Try.underlying29 Try.info5 rfl .i64 .i64 (lA.length + 1 + lB.length) (by omega) (by omega)
  have ec : ((lA.length + 1 + lB.length : Nat) : Int) = (lA.length : Int) + 1 + (lB.length : Int) := by omega
  rw [ec] at hmk
  clear TA TB na nb byA byB ec
  go_enter Try.func6, Try.ntmps6
  go_wp2
  go_loop [6] (fun i => ∃ k : Nat, k ≤ lB.length ∧ i = .int .i64 k ∧ ∀ j, j < k → lB.getD j 0 ≠ 34) (fun i => lB.length - (intOf i).toNat)
  case atStart => exact ⟨0, Nat.zero_le _, rfl, fun j hj => absurd hj (by omega)⟩
  case round =>
    obtain ⟨k, hk, rfl, hno⟩ := hrel
    have HNO := hid hno
    clear hno
    by_cases hlt : k < lB.length
    · obtain ⟨b, o, rfl, hc⟩ := HTB.out.2 (by omega)
      have cp := hc k hlt
      clear hc
      generalize hcv : lB.getD k 0 = c at cp
      have HV := hid hcv
      clear hcv hmk
      by_cases hq : c = 34
      · subst hq
        go_wp2
        go_ret
        exact ⟨rfl, Below.refl _ _⟩
      · have hqb : (c == 34) = false := by simpa using hq
        have HQ := hid hq
        clear hq
        go_wp2
        go_round
        case rel =>
          refine ⟨k + 1, by omega, by go_num, fun j hj => ?_⟩
          by_cases e : j = k
          · subst e; rw [HV.out]; exact HQ.out
          · exact HNO.out j (by omega)
        case measure => simp [intOf]; omega
    · have HF := hid (free_of hlt HNO.out)
      clear HNO
      go_wp2_with fail
      refine (clone a0 cap0 lA w HTA.out HNA.out).mono ?_
      rintro e w1 ⟨aoA, rfl, OA, B1⟩
      have HOA := hid OA
      have HB1 := hid B1
      clear OA B1
      go_wp2_with fail
      refine (clone a1 cap1 lB w1 (txt_below HTB.out HB1.out) HNB.out).mono ?_
      rintro e w2 ⟨aoB, rfl, OB, B2⟩
      have HOA2 := hid (own_below HOA.out B2)
      have HOB := hid OB
      have HTA2 := hid (txt_below (txt_below HTA.out HB1.out) B2)
      have HTB2 := hid (txt_below (txt_below HTB.out HB1.out) B2)
      have HB2 := hid (HB1.out.trans (B2.mono HB1.out.size))
      clear OB B2 HOA HB1 HTA HTB HNA
      go_wp2
      go_loopw [10] (fun i wr => ∃ (k : Nat) (c : Array Value), k ≤ lA.length ∧ i = .int .i64 k ∧ wr = w2.alloc (.cells c 5) ∧ c.size = lA.length + 1 + lB.length ∧ ∀ j, j < k → c[j]? = some (.int .u8 ((lA ++ 44 :: lB).getD j 0))) (fun i _ => lA.length - (intOf i).toNat)
      case atStart => exact ⟨0, _, Nat.zero_le _, rfl, rfl, by simp [madeCells], fun j hj => absurd hj (by omega)⟩
      case round =>
        obtain ⟨m, c, hm, rfl, rfl, hcs, hrow⟩ := hrel
        have HR := hid hrow
        have HS := hid hcs
        clear hrow hmk
        by_cases hlm : m < lA.length
        · obtain ⟨b, o, rfl, hc⟩ := HTA2.out.2 (by omega)
          have cp := hc m hlm
          have hbl := World.block_lt_of_cell? w2 _ cp
          clear hc
          generalize hcv : lA.getD m 0 = cv at cp
          have HV := hid hcv
          obtain ⟨ov, hov⟩ : ∃ v, c[m]? = some v := ⟨_, Array.getElem?_eq_getElem (by omega)⟩
          clear hcv hcs
          go_wp2
          go_roundw
          case rel => exact ⟨m + 1, _, by omega, by go_num, rfl, by rw [Array.size_setIfInBounds]; exact HS.out, set_get HS.out (by omega) _ (fun j => .int .u8 ((lA ++ 44 :: lB).getD j 0)) HR.out (by rw [join_left _ _ _ hlm, HV.out])⟩
          case measure => simp [intOf]; omega
        · obtain rfl : m = lA.length := by omega
          obtain ⟨ov, hov⟩ : ∃ v, c[lA.length]? = some v := ⟨_, Array.getElem?_eq_getElem (by omega)⟩
          clear hcs
          go_wp2
          clear hov
          have HR2 := hid (set_get HS.out (by omega) (.int .u8 44) (fun j => .int .u8 ((lA ++ 44 :: lB).getD j 0)) HR.out (by rw [join_mid]))
          have HS2 := hid (show (c.setIfInBounds lA.length (.int .u8 44)).size = lA.length + 1 + lB.length by rw [Array.size_setIfInBounds]; exact HS.out)
          generalize c.setIfInBounds lA.length (.int .u8 44) = c' at *
          clear HR HS
          go_loopw [11] (fun i wr => ∃ (k : Nat) (c : Array Value), k ≤ lB.length ∧ i = .int .i64 k ∧ wr = w2.alloc (.cells c 5) ∧ c.size = lA.length + 1 + lB.length ∧ ∀ j, j < lA.length + 1 + k → c[j]? = some (.int .u8 ((lA ++ 44 :: lB).getD j 0))) (fun i _ => lB.length - (intOf i).toNat)
          case atStart => exact ⟨0, _, Nat.zero_le _, rfl, rfl, HS2.out, HR2.out⟩
          case round =>
            obtain ⟨n, c2, hn, rfl, rfl, hcs, hrow⟩ := hrel
            have HR := hid hrow
            have HS := hid hcs
            clear hrow
            by_cases hlm : n < lB.length
            · obtain ⟨b, o, rfl, hc⟩ := HTB2.out.2 (by omega)
              have cp := hc n hlm
              have hbl := World.block_lt_of_cell? w2 _ cp
              clear hc
              generalize hcv : lB.getD n 0 = cv at cp
              have HV := hid hcv
              obtain ⟨ov, hov⟩ : ∃ v, c2[lA.length + 1 + n]? = some v := ⟨_, Array.getElem?_eq_getElem (by omega)⟩
              clear hcv hcs
              go_wp2
              go_roundw
              case rel => exact ⟨n + 1, _, by omega, by go_num, rfl, by rw [Array.size_setIfInBounds]; exact HS.out, set_get (k := lA.length + 1 + n) HS.out (by omega) _ (fun j => .int .u8 ((lA ++ 44 :: lB).getD j 0)) HR.out (by rw [join_right, HV.out])⟩
              case measure => simp [intOf]; omega
            · obtain rfl : n = lB.length := by omega
              have HRow := hid (row_of (l := lA ++ 44 :: lB) (by rw [HS.out]; simp; omega) (fun j hj => HR.out j (by simp at hj; omega)))
              clear hcs HS HR HS2 HR2
              rw [HRow.out]
              clear HRow
              obtain ⟨W, hW⟩ : ∃ W, W = w2.alloc (.cells (row (lA ++ 44 :: lB)) 5) := ⟨_, rfl⟩
              have bW : Below w2.heap.size w2 W := by rw [hW]; exact (Below.refl _ _).alloc (Nat.le_refl _) _
              have gW : W.heap[w2.heap.size]? = some (.cells (row (lA ++ 44 :: lB)) 5 (0, 0)) := by rw [hW]; exact heap_alloc_new w2 _
              have HWA := hid (own_below HOA2.out bW)
              have HWB := hid (own_below HOB.out bW)
              have HWT := hid (txt_below HTB2.out bW)
              have HWW := hid (HB2.out.trans (bW.mono HB2.out.size))
              have HWO := hid (show Own 0 W (some ⟨w2.heap.size, 0, none⟩) (lA ++ 44 :: lB) from Or.inr ⟨_, Nat.zero_le _, rfl, gW⟩)
              rw [← hW]
              clear hW bW gW HOA2 HOB HTB2 HTA2 HB2
              generalize w2.heap.size = gab at *
              have hP := joined_plain lA lB HF.out
              generalize hokA : (gram lA 0 0 0).1 = okA at hP
              generalize hlsA : (gram lA 0 0 0).2.map (Plain.part lA) = lsA at hP
              generalize hlsB : (pieces lB 0 0).map (Plain.part lB) = lsB at hP
              generalize hls : (gram (lA ++ 44 :: lB) 0 0 0).2.map (Plain.part (lA ++ 44 :: lB)) = ls at hP
              obtain ⟨p1, p2, p3, p4⟩ := hP
              have P1 := hid p1
              have P2 := hid p2
              have P3 := hid p3
              have P4 := hid p4
              have P5 := hid hokA
              have P6 := hid hlsA
              have P7 := hid hls
              have P8 := hid hlsB
              clear p1 p2 p3 p4 hokA hlsA hls hlsB
              go_wp2_with fail
              refine (newReader W).mono ?_
              rintro e wx ⟨rfl, rfl⟩
              go_wp2_with fail
              refine (splitNew W.heap.size lA.length aoA lA _ okA lsA P5.out P6.out rfl (by omega) (own_below HWA.out.zero ((Below.refl _ _).alloc (Nat.le_refl _) _)) HBA.out HWA.out.lt (heap_alloc_new W _)).mono ?_
              rintro e w4 ⟨axA, cxA, rfl, cellA, FA, B4⟩
              have HC4 := hid cellA
              have HFA := hid FA
              have b4 : Below W.heap.size W w4 := (Below.refl _ W).alloc (Nat.le_refl _) _ |>.trans B4
              have HWB4 := hid (own_below HWB.out b4)
              have HWT4 := hid (txt_below HWT.out b4)
              have HWW4 := hid (HWW.out.trans (b4.mono HWW.out.size))
              have HWO4 := hid (own_below HWO.out b4)
              clear cellA FA B4 b4 HWA HWB HWT HWW HWO
              go_wp2_with fail
              refine (readerFields _ _ w4 HC4.out).mono ?_
              rintro e wx ⟨rfl, hx⟩
              have hx' := hx.symm
              subst hx'
              clear hx HC4
              go_wp2_with fail
              refine (newReader w4).mono ?_
              rintro e wx ⟨rfl, rfl⟩
              go_wp2_with fail
              refine (splitNew w4.heap.size lB.length aoB lB _ true lsB P1.out P2.out rfl (by omega) (own_below HWB4.out.zero ((Below.refl _ _).alloc (Nat.le_refl _) _)) HBB.out HWB4.out.lt (heap_alloc_new w4 _)).mono ?_
              rintro e w5 ⟨axB, cxB, rfl, cellB, FB, B5⟩
              have HC5 := hid cellB
              have HFB := hid FB
              have b5 : Below w4.heap.size w4 w5 := (Below.refl _ w4).alloc (Nat.le_refl _) _ |>.trans B5
              have HFA5 := hid (flds_below HFA.out b5)
              have HWT5 := hid (txt_below HWT4.out b5)
              have HWW5 := hid (HWW4.out.trans (b5.mono HWW4.out.size))
              have HWO5 := hid (own_below HWO4.out b5)
              clear cellB FB B5 b5 HFA HWB4 HWT4 HWW4 HWO4
              go_wp2_with fail
              refine (readerFields _ _ w5 HC5.out).mono ?_
              rintro e wx ⟨rfl, hx⟩
              have hx' := hx.symm
              subst hx'
              clear hx HC5
              go_wp2_with fail
              refine (newReader w5).mono ?_
              rintro e wx ⟨rfl, rfl⟩
              go_wp2_with fail
              refine (splitNew w5.heap.size (lA.length + 1 + lB.length) (some ⟨gab, 0, none⟩) (lA ++ 44 :: lB) _ okA ls P3.out P7.out (by simp; omega) (by simp; omega) (own_below HWO5.out.zero ((Below.refl _ _).alloc (Nat.le_refl _) _)) (byJoin HBA.out HBB.out) HWO5.out.lt (heap_alloc_new w5 _)).mono ?_
              rintro e w6 ⟨ax, cx, rfl, cellX, FX, B6⟩
              have HC6 := hid cellX
              have HFX := hid FX
              have b6 : Below w5.heap.size w5 w6 := (Below.refl _ w5).alloc (Nat.le_refl _) _ |>.trans B6
              have HFA6 := hid (flds_below HFA5.out b6)
              have HFB6 := hid (flds_below HFB.out b6)
              have HWT6 := hid (txt_below HWT5.out b6)
              have HWW6 := hid (HWW5.out.trans (b6.mono HWW5.out.size))
              clear cellX FX B6 b6 HFA5 HFB HWT5 HWW5 HWO5
              go_wp2_with fail
              refine (readerFields _ _ w6 HC6.out).mono ?_
              rintro e wx ⟨rfl, hx⟩
              have hx' := hx.symm
              subst hx'
              clear hx HC6
              go_wp2_with fail
              refine (commaPieces a1 cap1 lB w6 HWT6.out cb).mono ?_
              rintro e w7 ⟨v, rfl, OP, B7⟩
              have HFP := hid (show Flds w7 v lsB by
                rw [← P8.out]
                refine flds_of OP (txt_below HWT6.out B7) cb HNB.out ?_ ?_
                · intro x hx
                  have := pieces_bounds lB 0 0 (Nat.le_refl _) x hx
                  omega
                · have := pieces_len lB 0 0; omega)
              have HFA7 := hid (flds_below HFA6.out B7)
              have HFB7 := hid (flds_below HFB6.out B7)
              have HFX7 := hid (flds_below HFX.out B7)
              have HWW7 := hid (HWW6.out.trans (B7.mono HWW6.out.size))
              clear OP B7 HFA6 HFB6 HFX HWT6 HWW6
              have HEQ := hid ((fieldsEq HFB7.out HFP.out).mono (R' := fun e w' => e = .returned (.bool true) ∧ ∃ q, w' = w7.drewN q) (fun e w' h => ⟨by rw [h.1]; simp, h.2⟩))
              clear HFP
              go_wp2_with fail
              refine HEQ.out.mono ?_
              rintro e wx ⟨rfl, q0, rfl⟩
              clear HEQ
              cases okA with
              | false =>
                go_wp2
                go_ret
                exact ⟨rfl, below_drewN HWW7.out _⟩
              | true =>
                have hls := P4.out rfl
                have bA : lsA.length ≤ 2097153 := flds_len HFA7.out
                have bB : lsB.length ≤ 2097153 := flds_len HFB7.out
                have hlen : ls.length = lsA.length + lsB.length := by rw [hls, List.length_append]
                have hlb : ((ls.length : Int) != (lsA.length : Int) + (lsB.length : Int)) = false := by simp; omega
                have HLS := hid hls
                have HLN := hid hlen
                have hl1 : lsA.length + lsB.length ≤ ls.length := by omega
                clear hls hlen
                go_wp2
                go_loopw [21] (fun i wr => ∃ k q : Nat, k ≤ lsA.length ∧ i = .int .i64 k ∧ wr = w7.drewN q) (fun i _ => lsA.length - (intOf i).toNat)
                case atStart => exact ⟨0, _, Nat.zero_le _, rfl, rfl⟩
                case round =>
                  obtain ⟨m, q, hm4, rfl, rfl⟩ := hrel
                  by_cases hlm4 : m < lsA.length
                  · obtain ⟨x1, o1, rfl, g1⟩ := flds_cell HFX7.out (by omega)
                    obtain ⟨x2, o2, rfl, g2⟩ := flds_cell HFA7.out (by omega)
                    obtain ⟨u1, f1, d1⟩ := g1 m (by omega)
                    obtain ⟨u2, f2, d2⟩ := g2 m (by omega)
                    have HC := hid (same_field d1 d2 (by rw [HLS.out, getD_app_left _ _ _ hlm4]) q)
                    have k1 : (m : Int) < (ls.length : Int) := by omega
                    have k2 : (m : Int) < (lsA.length : Int) := by omega
                    have k0 : (0 : Int) ≤ (m : Int) := by omega
                    clear g1 g2 d1 d2
                    go_wp2
                    go_quiet ((go_at_call 21; exact HC.out _))
                    go_wp2
                    go_roundw
                    case rel => exact ⟨m + 1, _, by omega, by go_num, rfl⟩
                    case measure => simp [intOf]; omega
                  · go_wp2
                    go_loopw [22] (fun i wr => ∃ k q : Nat, k ≤ lsB.length ∧ i = .int .i64 k ∧ wr = w7.drewN q) (fun i _ => lsB.length - (intOf i).toNat)
                    case atStart => exact ⟨0, _, Nat.zero_le _, rfl, rfl⟩
                    case round =>
                      obtain ⟨n, q, hn5, rfl, rfl⟩ := hrel
                      by_cases hlm5 : n < lsB.length
                      · obtain ⟨x1, o1, rfl, g1⟩ := flds_cell HFX7.out (by omega)
                        obtain ⟨x2, o2, rfl, g2⟩ := flds_cell HFB7.out (by omega)
                        obtain ⟨u1, f1, d1⟩ := g1 (lsA.length + n) (by omega)
                        obtain ⟨u2, f2, d2⟩ := g2 n (by omega)
                        have HC := hid (same_field d1 d2 (by rw [HLS.out, getD_app_right]) q)
                        have hwr : IntKind.i64.wrap ((lsA.length : Int) + (n : Int)) = (lsA.length : Int) + (n : Int) := IntWalk.i64_in _ (by omega)
                        have hnat : ((lsA.length : Int) + (n : Int)).toNat = lsA.length + n := by omega
                        have k1 : (lsA.length : Int) + (n : Int) < (ls.length : Int) := by omega
                        have k2 : (n : Int) < (lsB.length : Int) := by omega
                        have k0 : (0 : Int) ≤ (n : Int) := by omega
                        have k3 : (0 : Int) ≤ (lsA.length : Int) + (n : Int) := by omega
                        clear g1 g2 d1 d2
                        go_wp2
                        go_quiet ((go_at_call 21; exact HC.out _))
                        go_wp2
                        go_roundw
                        case rel => exact ⟨n + 1, _, by omega, by go_num, rfl⟩
                        case measure => simp [intOf]; omega
                      · go_wp2
                        go_ret
                        exact ⟨rfl, below_drewN HWW7.out _⟩

end Go.Proofs.Qxb6615032a
