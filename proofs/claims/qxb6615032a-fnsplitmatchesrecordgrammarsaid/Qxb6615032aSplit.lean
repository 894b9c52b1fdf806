import Derived.Test.Qxb6615032aInv
import Derived.Deep.RegionLaw
namespace Go.Proofs.Qxb6615032a
set_option linter.unusedVariables false
set_option linter.unusedSimpArgs false
open Go.RowKit Plain

theorem und24 : Try.prog.underlying 24 = some (.slice (Try.prog.elem 24)) := by kernel_rfl
theorem size29 (w : World) : (sizeOf (Try.prog.elem 24)).run Try.prog w = .ok 1 w := by kernel_rfl

theorem own_head {w : World} {ao : Option Addr} {n cap : Nat} {xs : List Value} (h : w.ownsRow 0 29 1 (.slice ao n cap) n xs) : ao = none ∨ ∃ g, ao = some ⟨g, 0, none⟩ := by
  rcases h.2 with ⟨e, _⟩ | ⟨g, c, cur, e, _⟩
  · injection e with e; exact Or.inl e
  · injection e with e; exact Or.inr ⟨g, e⟩

theorem run_empty {w : World} {ao : Option Addr} {n cap : Nat} {xs : List Value} (h : w.ownsRow 0 29 1 (.slice ao n cap) n xs) (w' : World) :
    (Instr.slice 24 (.slice ao n cap) none (some (.int .i64 0)) none).run Try.prog w' = .ok (.slice ao 0 cap) w' := by
  rw [run_slice_h w' 24 ao n cap und24 .i64 0 (by omega) (by omega), size29]
  rcases own_head h with rfl | ⟨g, rfl⟩ <;> simp [Result.andThen, sliced, Addr.add]

theorem inv_start {w : World} {br : Nat} {c0 c1 c2 c3 c5 c6 : Value} {ao0 : Option Addr} {n0 cap0 : Nat} {xs0 : List Value} (ao : Option Addr) (cap : Nat)
    (hrd : w.heap[br]? = some (.cells #[c0, c1, c2, c3, .slice ao0 n0 cap0, c5, c6] 57 (0, 0))) (hown : w.ownsRow 0 29 1 (.slice ao0 n0 cap0) n0 xs0) (hne : (Value.slice ao0 n0 cap0).ownBlock ≠ some br) :
    Inv w br c0 c1 c2 c3 c5 c6 (Value.slice ao0 n0 cap0).ownBlock ao cap (w.setCell ⟨br, 4, none⟩ (.slice ao0 0 cap0)) (.slice ao0 0 cap0) [] := by
  refine ⟨?_, ?_, ?_, ?_⟩
  · rw [heap_setCell_at hrd]; rfl
  · refine ⟨rfl, ?_⟩
    rcases hown.2 with ⟨e, e0⟩ | ⟨g, c, cur, e, hb, hh, hn, hm, hs, ht⟩
    · injection e with e1 e2 e3; subst e1 e3; exact Or.inl ⟨rfl, rfl⟩
    · injection e with e1 e2 e3
      subst e1 e3
      refine Or.inr ⟨g, cap0, cur, rfl, hb, ?_, Nat.zero_le _, hm, hs, by simp⟩
      rw [Below.heap_setCell _ _ _ _ (fun e => hne (by simp [Value.ownBlock, e]))]
      exact hh
  · left; cases ao0 <;> rfl
  · exact (Fr.refl _ w).setCell (Or.inl rfl) _

theorem hat_flip {v : Value} {g n : Nat} (h : v.ownBlock = some g ∨ g = n + 1) : n ≤ g ∨ v.ownBlock = some g := by
  rcases h with h | h
  · exact Or.inr h
  · exact Or.inl (by omega)

theorem behind_grow {wr w1 : World} {o : Obj} {row : Option Nat} {br : Nat} (hgrow : (wr.alloc o).drew.grownBy w1 row) (hlt : br < wr.heap.size) (far : row ≠ some br) : w1.heap[br]? = wr.heap[br]? := by
  rw [hgrow.block br (by simp; omega) (Ne.symm far)]
  exact Below.heap_alloc wr o br hlt

set_option maxHeartbeats 2000000 in
set_option maxRecDepth 100000 in
theorem split (br : Nat) (c0 c1 c2 c3 c5 c6 : Value) (ao0 : Option Addr) (n0 cap0 : Nat) (xs0 : List Value) (ao : Option Addr) (l : List Int) (w : World)
    (hT : Txt w ao l) (hby : ∀ x ∈ l, 0 ≤ x ∧ x < 256) (hsep : ∀ g o, ao = some ⟨g, o, none⟩ → g ≠ br ∧ (Value.slice ao0 n0 cap0).ownBlock ≠ some g)
    (hrd : w.heap[br]? = some (.cells #[c0, c1, c2, c3, .slice ao0 n0 cap0, c5, c6] 57 (0, 0))) (hown : w.ownsRow 0 29 1 (.slice ao0 n0 cap0) n0 xs0) (hne : (Value.slice ao0 n0 cap0).ownBlock ≠ some br) :
    Calls Try.prog 28 #[.pointer (some ⟨br, 0, none⟩), .slice ao l.length l.length] w fun e w' => ∃ v, e = .returned (.bool (gram l 0 0 0).1) ∧
      Inv w br c0 c1 c2 c3 c5 c6 (Value.slice ao0 n0 cap0).ownBlock ao l.length w' v (gram l 0 0 0).2 := by
  have hbr : br < w.heap.size := (Array.getElem?_eq_some_iff.1 hrd).1
  have hb0 := hT.1
  have hcell : w.cell? ⟨br, 4, none⟩ = some (.slice ao0 n0 cap0) := by rw [cell_of_heap hrd]; rfl
  have hfree : w.frozen? ⟨br, 4, none⟩ = false := by simp [World.frozen?, hrd]
  have hsl := run_empty hown
  have HS := hid (inv_start ao l.length hrd hown hne)
  have HT := hid (hT)
  have HB := hid (hby)
  have HP := hid (hsep)
  have HN := hid (hne)
  obtain ⟨i0, hi0, hz0, hz1, hz2⟩ := info_parts Try.info29
  generalize (Value.slice ao0 n0 cap0).ownBlock = b0 at *
  clear hT hown hrd hby hsep hne
  go_enter Try.func28, Try.ntmps28
  go_wp2
  clear hcell hfree hsl
  go_loopw [5, 6] (fun st i wr => ∃ s p fs v, st = .int .i64 (s : Nat) ∧ i = .int .i64 (p : Nat) ∧ s ≤ p ∧ p ≤ l.length ∧ Left l s p fs ∧ Inv w br c0 c1 c2 c3 c5 c6 b0 ao l.length wr v fs) (fun _ i _ => l.length - (intOf i).toNat)
  case atStart => exact ⟨0, 0, [], _, rfl, rfl, Nat.le_refl _, Nat.zero_le _, Left.start l, HS.out⟩
  case round =>
    obtain ⟨s, p, fs, v, rfl, rfl, hsp, hpl, hleft, hinv⟩ := hrel
    clear HS
    have hflen := hleft.len
    have cell4 := hinv.cell
    have free4 := hinv.free
    have far := hinv.far hbr HN.out
    have hlt4 := hinv.lt
    have hfa : ∀ o1, (wr.alloc o1).frozen? ⟨br, 4, none⟩ = false := fun o1 => by rw [World.frozen?_of_block (w := wr) (Below.heap_alloc wr o1 br hlt4)]; exact free4
    have HI := hid (hinv)
    have HL := hid (hleft)
    clear hinv hleft
    by_cases hp : p < l.length
    · obtain ⟨b, o, hao, hc⟩ := (HT.out.fr HI.out.fr (by intro g o e k; rcases k with k | k; exact (HP.out g o e).1 k; exact (HP.out g o e).2 k.symm)).2 (by omega)
      have cp := hc p hp
      have HC := hid (hc)
      clear hc
      subst hao
      generalize hcv : l.getD p 0 = c at cp
      have HV : Hid (l.getD p 0 = c) := hcv
      clear hcv
      by_cases h44 : c = 44
      · subst h44
        have hcut := run_cut (some ⟨b, o, none⟩) l.length l.length s p s p rfl rfl hsp (by omega)
        have HO := hid HI.out.own
        go_wp2
        go_region_law ((refine step_append_lies _ (by rfl) _ _ _ (by rfl) 0 29 i0 _ 1 24 Try.underlying24 hi0 hz0 hz1 hz2 rfl (by omega) v fs.length (fs.map (cutV (some ⟨b, o, none⟩) l.length)) (by rfl) ((HO.out.alloc _).drew) ⟨wr.heap.size, 0, none⟩ 1 1 [cutV (some ⟨b, o, none⟩) l.length (s, p)] (by rfl) (by rfl) (World.news_of_block (cs := #[cutV (some ⟨b, o, none⟩) l.length (s, p)]) (t := 29) (fr := (0, 0)) (heap_alloc_new wr _)) (by simp [Value.oneCell', cutV]) (by omega) (by unfold maxLen; omega) (by omega) (by omega) (wr.heap.size + 1) (by simp) ?_; intro gg cap w1 hown1 hgrow hat hltg; have cw1 := (World.cell?_of_block (w := wr) (a := ⟨br, 4, none⟩) (behind_grow hgrow hlt4 far)).trans cell4; have fw1 := (World.frozen?_of_block (w := wr) (a := ⟨br, 4, none⟩) (behind_grow hgrow hlt4 far)).trans free4))
        all_goals
          have R := hid (HI.out.push hbr HN.out (((Fr.refl _ wr).alloc _).drew) (hat_flip hat) hown1 rfl hgrow hltg)
          clear hown1 hgrow hat cw1 fw1 hcut hfa cell4 free4 cp
          go_wp2
          go_roundw
          case rel => exact ⟨p + 1, p + 1, fs ++ [(s, p)], _, by go_num, by go_num, Nat.le_refl _, by omega, HL.out.go (at_comma l s p hp HV.out), R.out⟩
          case measure => simp [intOf]; omega
      · have e44 : (c == 44) = false := by simpa using h44
        by_cases h34 : c = 34
        · subst h34
          by_cases hs : s = p
          · subst hs
            have hcutl := run_cut_l (some ⟨b, o, none⟩) l.length l.length (s + 1) ((s : Int) + 1) (by omega) (by omega)
            have HX := hid (show Txt wr (some ⟨b, o, none⟩) l from ⟨hb0, fun _ => ⟨b, o, rfl, HC.out⟩⟩)
            have hss : ((s : Int) != (s : Int)) = false := by simp
            rcases index_plain (l.drop (s + 1)) (fun x hx => HB.out x (List.mem_of_mem_drop hx)) with ⟨hD, hno⟩ | ⟨d, hD, hd, h1, h2⟩
            · have HD := hid hD
              have HF := hid (HL.out.is (at_unclosed l s hp HV.out hno))
              clear hD hno hfa
              go_wp2_with (go_at_call 31; refine (indexQuote _ l _ (s + 1) (by omega) (by omega) HX.out (-1) HD.out).mono ?_; rintro e w' ⟨rfl, hw⟩; have hw' := hw.symm; subst hw')
              go_ret
              exact ⟨v, by rw [HF.out]; rfl, by rw [HF.out]; simpa using HI.out⟩
            · have hd' : d + s + 2 ≤ l.length := by simp at hd; omega
              have HD := hid hD
              have HF := hid (at_closed l s d hp HV.out hd h1 h2)
              clear hD hd h1 h2
              by_cases hq : d + s + 2 = l.length
              · have hb1 : ((d : Int) + (s : Int) + 1 == (s : Int)) = false := by simp; omega
                have hb2 : ¬ ((d : Int) + (s : Int) + 1 + 1 < (l.length : Int)) := by omega
                have hb3 : ((d : Int) + (s : Int) + 1 + 1 == (l.length : Int)) = true := by simp; omega
                have hwr : IntKind.i64.wrap ((s : Int) + 1) = (s : Int) + 1 := IntWalk.i64_in _ (by omega)
                have hdd : d + s + 1 - (s + 1) = d := by omega
                have hcut := run_cut (some ⟨b, o, none⟩) l.length l.length (s + 1) (d + s + 1) ((s : Int) + 1) ((d : Int) + (s : Int) + 1) (by omega) (by omega) (by omega) (by omega)
                rw [hdd] at hcut
                have HCV := hid (show cutV (some ⟨b, o, none⟩) l.length (s + 1, d + s + 1) = Value.slice (cutA (some ⟨b, o, none⟩) l.length (s + 1)) d (l.length - (s + 1)) by unfold cutV; rw [hdd])
                clear hdd
                have HO := hid HI.out.own
                have HG := hid (HL.out.is (HF.out.trans (at_last l (s + 1) (d + s + 1) (by omega))))
                have HQ := hid hq
                clear hq
                go_wp2_with (go_at_call 31; refine (indexQuote _ l _ (s + 1) (by omega) (by omega) HX.out d HD.out).mono ?_; rintro e w' ⟨rfl, hw⟩; have hw' := hw.symm; subst hw')
                go_region_law ((refine step_append_lies _ (by rfl) _ _ _ (by rfl) 0 29 i0 _ 1 24 Try.underlying24 hi0 hz0 hz1 hz2 rfl (by omega) v fs.length (fs.map (cutV (some ⟨b, o, none⟩) l.length)) (by rfl) ((HO.out.alloc _).drew) ⟨wr.heap.size, 0, none⟩ 1 1 [Value.slice (cutA (some ⟨b, o, none⟩) l.length (s + 1)) d (l.length - (s + 1))] (by rfl) (by rfl) (World.news_of_block (cs := #[Value.slice (cutA (some ⟨b, o, none⟩) l.length (s + 1)) d (l.length - (s + 1))]) (t := 29) (fr := (0, 0)) (heap_alloc_new wr _)) (by simp [Value.oneCell', cutV]) (by omega) (by unfold maxLen; omega) (by omega) (by omega) (wr.heap.size + 1) (by simp) ?_; intro gg cap w1 hown1 hgrow hat hltg; have cw1 := (World.cell?_of_block (w := wr) (a := ⟨br, 4, none⟩) (behind_grow hgrow hlt4 far)).trans cell4; have fw1 := (World.frozen?_of_block (w := wr) (a := ⟨br, 4, none⟩) (behind_grow hgrow hlt4 far)).trans free4))
                all_goals
                  rw [← HCV.out] at hown1
                  have R := hid (HI.out.push hbr HN.out (((Fr.refl _ wr).alloc _).drew) (hat_flip hat) hown1 rfl hgrow hltg)
                  clear hown1 hgrow hat cw1 fw1 hcut hcutl hfa cell4 free4 cp
                  go_wp2
                  go_ret
                  exact ⟨_, by rw [HG.out]; rfl, by rw [HG.out]; exact R.out⟩
              · have hb1 : ((d : Int) + (s : Int) + 1 == (s : Int)) = false := by simp; omega
                have hb2 : (d : Int) + (s : Int) + 1 + 1 < (l.length : Int) := by omega
                have hb3 : ((d : Int) + (s : Int) + 1 + 1 == (l.length : Int)) = false := by simp; omega
                have cq := HC.out (d + s + 1 + 1) (by omega)
                generalize hcq : l.getD (d + s + 1 + 1) 0 = y2 at cq
                have HQ := hid hcq
                clear hcq hq
                by_cases h2 : y2 = 44
                · subst h2
                  have hwr : IntKind.i64.wrap ((s : Int) + 1) = (s : Int) + 1 := IntWalk.i64_in _ (by omega)
                  have hdd : d + s + 1 - (s + 1) = d := by omega
                  have hcut := run_cut (some ⟨b, o, none⟩) l.length l.length (s + 1) (d + s + 1) ((s : Int) + 1) ((d : Int) + (s : Int) + 1) (by omega) (by omega) (by omega) (by omega)
                  rw [hdd] at hcut
                  have HCV := hid (show cutV (some ⟨b, o, none⟩) l.length (s + 1, d + s + 1) = Value.slice (cutA (some ⟨b, o, none⟩) l.length (s + 1)) d (l.length - (s + 1)) by unfold cutV; rw [hdd])
                  clear hdd
                  have HO := hid HI.out.own
                  have HG := hid (HF.out.trans (at_next l (s + 1) (d + s + 1) (by omega) HQ.out))
                  go_wp2_with (go_at_call 31; refine (indexQuote _ l _ (s + 1) (by omega) (by omega) HX.out d HD.out).mono ?_; rintro e w' ⟨rfl, hw⟩; have hw' := hw.symm; subst hw')
                  go_region_law ((refine step_append_lies _ (by rfl) _ _ _ (by rfl) 0 29 i0 _ 1 24 Try.underlying24 hi0 hz0 hz1 hz2 rfl (by omega) v fs.length (fs.map (cutV (some ⟨b, o, none⟩) l.length)) (by rfl) ((HO.out.alloc _).drew) ⟨wr.heap.size, 0, none⟩ 1 1 [Value.slice (cutA (some ⟨b, o, none⟩) l.length (s + 1)) d (l.length - (s + 1))] (by rfl) (by rfl) (World.news_of_block (cs := #[Value.slice (cutA (some ⟨b, o, none⟩) l.length (s + 1)) d (l.length - (s + 1))]) (t := 29) (fr := (0, 0)) (heap_alloc_new wr _)) (by simp [Value.oneCell', cutV]) (by omega) (by unfold maxLen; omega) (by omega) (by omega) (wr.heap.size + 1) (by simp) ?_; intro gg cap w1 hown1 hgrow hat hltg; have cw1 := (World.cell?_of_block (w := wr) (a := ⟨br, 4, none⟩) (behind_grow hgrow hlt4 far)).trans cell4; have fw1 := (World.frozen?_of_block (w := wr) (a := ⟨br, 4, none⟩) (behind_grow hgrow hlt4 far)).trans free4))
                  all_goals
                    rw [← HCV.out] at hown1
                    have R := hid (HI.out.push hbr HN.out (((Fr.refl _ wr).alloc _).drew) (hat_flip hat) hown1 rfl hgrow hltg)
                    clear hown1 hgrow hat cw1 fw1 hcut hcutl hfa cell4 free4 cp cq hwr
                    go_wp2
                    go_roundw
                    case rel => exact ⟨d + s + 1 + 2, d + s + 1 + 2, fs ++ [(s + 1, d + s + 1)], _, by go_num, by go_num, Nat.le_refl _, by omega, HL.out.go HG.out, R.out⟩
                    case measure => simp [intOf]; omega
                · have hb4 : (y2 != 44) = true := by simpa using h2
                  have HG := hid (HL.out.is (HF.out.trans (at_behind l (s + 1) (d + s + 1) (by omega) (by rw [HQ.out]; exact h2))))
                  clear h2
                  go_wp2_with (go_at_call 31; refine (indexQuote _ l _ (s + 1) (by omega) (by omega) HX.out d HD.out).mono ?_; rintro e w' ⟨rfl, hw⟩; have hw' := hw.symm; subst hw')
                  go_ret
                  exact ⟨v, by rw [HG.out]; rfl, by rw [HG.out]; simpa using HI.out⟩
          · have hb : ((p : Int) != (s : Int)) = true := by simp; omega
            have HF := hid (HL.out.is (at_bad l s p hp HV.out hs))
            clear hs
            go_wp2
            go_ret
            exact ⟨v, by rw [HF.out]; rfl, by rw [HF.out]; simpa using HI.out⟩
        · have e34 : (c == 34) = false := by simpa using h34
          have X := hid (And.intro h44 h34)
          clear h44 h34
          go_wp2
          go_roundw
          case rel => exact ⟨s, p + 1, fs, _, rfl, by go_num, by omega, by omega, HL.out.on (at_plain l s p hp (by rw [HV.out]; exact X.out.1) (by rw [HV.out]; exact X.out.2)), HI.out⟩
          case measure => simp [intOf]; omega
    · have hcutl := run_cut_l ao l.length l.length s s rfl (by omega)
      have HO := hid HI.out.own
      have HF := hid (HL.out.is (at_end l s p (by omega)))
      obtain rfl : p = l.length := by omega
      go_wp2
      go_region_law ((refine step_append_lies _ (by rfl) _ _ _ (by rfl) 0 29 i0 _ 1 24 Try.underlying24 hi0 hz0 hz1 hz2 rfl (by omega) v fs.length (fs.map (cutV ao l.length)) (by rfl) ((HO.out.alloc _).drew) ⟨wr.heap.size, 0, none⟩ 1 1 [cutV ao l.length (s, l.length)] (by rfl) (by rfl) (World.news_of_block (cs := #[cutV ao l.length (s, l.length)]) (t := 29) (fr := (0, 0)) (heap_alloc_new wr _)) (by simp [Value.oneCell', cutV]) (by omega) (by unfold maxLen; omega) (by omega) (by omega) (wr.heap.size + 1) (by simp) ?_; intro gg cap w1 hown1 hgrow hat hltg; have cw1 := (World.cell?_of_block (w := wr) (a := ⟨br, 4, none⟩) (behind_grow hgrow hlt4 far)).trans cell4; have fw1 := (World.frozen?_of_block (w := wr) (a := ⟨br, 4, none⟩) (behind_grow hgrow hlt4 far)).trans free4))
      all_goals
        have R := hid (HI.out.push hbr HN.out (((Fr.refl _ wr).alloc _).drew) (hat_flip hat) hown1 rfl hgrow hltg)
        clear hown1 hgrow hat cw1 fw1 hcutl hfa cell4 free4
        go_wp2
        go_ret
        exact ⟨_, by rw [HF.out]; rfl, by rw [HF.out]; exact R.out⟩

end Go.Proofs.Qxb6615032a
