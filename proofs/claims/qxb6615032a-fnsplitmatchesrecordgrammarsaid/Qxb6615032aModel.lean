/-
  zzSplitModel: the walk.
-/
import Derived.Test.Qxb6615032aInv
namespace Go.Proofs.Qxb6615032a
set_option linter.unusedVariables false
set_option linter.unusedSimpArgs false
open Go.RowKit Plain

/-! ### The grammar at a place, more -/
theorem in_quote (l : List Int) (s k : Nat) (h : k < l.length) (hq : l.getD k 0 ≠ 34) : gram (l.drop k) 1 s k = gram (l.drop (k + 1)) 1 s (k + 1) := by
  rw [drop_at l k h]; simp only [gram]; rw [if_pos trivial, if_neg hq]
theorem end_quote (l : List Int) (s k : Nat) (h : k < l.length) (hq : l.getD k 0 = 34) : gram (l.drop k) 1 s k = gram (l.drop (k + 1)) 2 s (k + 1) := by
  rw [drop_at l k h, hq]; simp [gram]
theorem no_quote (l : List Int) (s k : Nat) (h : l.length ≤ k) : gram (l.drop k) 1 s k = (false, []) := by
  rw [List.drop_of_length_le h]; simp [gram]
theorem at_nought (l : List Int) (p k : Nat) (h : k < l.length) (hq : l.getD k 0 = 34) (hp : p < k) : gram (l.drop k) 0 p k = (false, []) := at_bad l p k h hq (by omega)

/-! ### Two rows of ints -/
structure Two (w wr : World) (vs ve : Value) (fs : List (Nat × Nat)) : Prop where
  s : wr.ownsRow w.heap.size 3 1 vs fs.length (fs.map fun x => Value.int .i64 x.1)
  e : wr.ownsRow w.heap.size 3 1 ve fs.length (fs.map fun x => Value.int .i64 x.2)
  ap : ∀ g, vs.ownBlock = some g → ve.ownBlock ≠ some g
  below : Below w.heap.size w wr

theorem pair_step {B : Nat} {wr w1 : World} {o : Obj} {va vb : Value} {na nb g : Nat} {xa xb : List Value} (ha : wr.ownsRow B 3 1 va na xa) (hb : wr.ownsRow B 3 1 vb nb xb) (ap : ∀ g, va.ownBlock = some g → vb.ownBlock ≠ some g)
    (hgrow : (wr.alloc o).grownBy w1 va.ownBlock) (hat : va.ownBlock = some g ∨ g = wr.heap.size + 1) : w1.ownsRow B 3 1 vb nb xb ∧ vb.ownBlock ≠ some g := by
  refine ⟨(hb.alloc o).kept hgrow ?_, ?_⟩
  · cases hv : vb.ownBlock with
    | none => exact Or.inl rfl
    | some g' =>
      right
      intro e
      exact ap g' e.symm hv
  · rcases hat with h | h
    · exact ap g h
    · intro e
      have := (hb.lt g e).2
      omega

theorem Two.first {w wr w1 : World} {vs ve : Value} {fs : List (Nat × Nat)} {o : Obj} {g : Nat} (h : Two w wr vs ve fs) (hgrow : (wr.alloc o).grownBy w1 vs.ownBlock) (hat : vs.ownBlock = some g ∨ g = wr.heap.size + 1) :
    w1.ownsRow w.heap.size 3 1 ve fs.length (fs.map fun x => Value.int .i64 x.2) ∧ ve.ownBlock ≠ some g ∧ Below w.heap.size w w1 :=
  ⟨(pair_step h.s h.e h.ap hgrow hat).1, (pair_step h.s h.e h.ap hgrow hat).2, (h.below.alloc h.below.size _).grown hgrow (by have := h.below.size; simp; omega) (fun k hk => (h.s.lt k hk).1)⟩

theorem Two.second {w w1 w2 : World} {ve : Value} {fs : List (Nat × Nat)} {o : Obj} {g g2 n n2 cap cap2 : Nat} {x : Nat × Nat} {X Y : Int} (hX : X = x.1) (hY : Y = x.2)
    (h1 : w1.ownsRow w.heap.size 3 1 (.slice (some ⟨g, 0, none⟩) n cap) n ((fs.map fun x => Value.int .i64 x.1) ++ [.int .i64 X])) (he : w1.ownsRow w.heap.size 3 1 ve fs.length (fs.map fun x => Value.int .i64 x.2)) (hne : ve.ownBlock ≠ some g) (hb : Below w.heap.size w w1)
    (h2 : w2.ownsRow w.heap.size 3 1 (.slice (some ⟨g2, 0, none⟩) n2 cap2) n2 ((fs.map fun x => Value.int .i64 x.2) ++ [.int .i64 Y])) (hn : n = fs.length + 1) (hn2 : n2 = fs.length + 1)
    (hgrow : (w1.alloc o).grownBy w2 ve.ownBlock) (hat : ve.ownBlock = some g2 ∨ g2 = w1.heap.size + 1) :
    Two w w2 (.slice (some ⟨g, 0, none⟩) n cap) (.slice (some ⟨g2, 0, none⟩) n2 cap2) (fs ++ [x]) := by
  subst hX hY
  have ap : ∀ k, ve.ownBlock = some k → (Value.slice (some ⟨g, 0, none⟩) n cap).ownBlock ≠ some k := by
    intro k hk e
    have : g = k := by simpa [Value.ownBlock] using e
    subst this
    exact hne hk
  have r := pair_step he h1 ap hgrow hat
  subst hn hn2
  refine ⟨by simpa using r.1, by simpa using h2, ?_, (hb.alloc hb.size _).grown hgrow (by have := hb.size; simp; omega) (fun k hk => (he.lt k hk).1)⟩
  intro k hk e
  have e1 : g = k := by simpa [Value.ownBlock] using hk
  have e2 : g2 = k := by simpa [Value.ownBlock] using e
  subst e1 e2
  exact r.2 rfl

set_option maxHeartbeats 4000000 in
set_option maxRecDepth 100000 in
theorem splitModel (ao : Option Addr) (cap : Nat) (l : List Int) (w : World) (hT : Txt w ao l) :
    Calls Try.prog 24 #[.slice ao l.length cap] w fun e w' => ∃ vs ve, e = .returned (.tuple #[.bool (gram l 0 0 0).1, vs, ve]) ∧ Two w w' vs ve (gram l 0 0 0).2 := by
  have hb0 := hT.1
  have HT := hid hT
  obtain ⟨i0, hi0, hz0, hz1, hz2⟩ := info_parts Try.info3
  clear hT
  go_enter Try.func24, Try.ntmps24
  go_wp2
  go_loopw [6, 7, 8] (fun vs ve i wr => ∃ p fs, i = .int .i64 (p : Nat) ∧ p ≤ l.length ∧ Left l p p fs ∧ Two w wr vs ve fs) (fun _ _ i _ => l.length + 1 - (intOf i).toNat)
  case atStart => exact ⟨0, [], rfl, Nat.zero_le _, Left.start l, World.ownsRow_nil _ _ _ _, World.ownsRow_nil _ _ _ _, by simp [Value.ownBlock], Below.refl _ _⟩
  case round =>
    obtain ⟨p, fs, rfl, hpl, hleft, htwo⟩ := hrel
    have hflen := hleft.len
    have HL := hid hleft
    have H2 := hid htwo
    have hsz := htwo.below.size
    clear hleft htwo
    by_cases hp : p < l.length
    · obtain ⟨b, o, hao, hc0⟩ := HT.out.2 (by omega)
      subst hao
      have hc : ∀ i, i < l.length → wr.cell? ⟨b, o + i, none⟩ = some (.int .u8 (l.getD i 0)) := fun i hi => (H2.out.below.cell (p := ⟨b, o + i, none⟩) (World.block_lt_of_cell? w _ (hc0 i hi))).trans (hc0 i hi)
      have HC := hid hc
      have cp := hc p hp
      clear hc hc0
      generalize hcv : l.getD p 0 = c at cp
      have HV := hid hcv
      clear hcv
      by_cases h34 : c = 34
      · subst h34
        go_wp2
        go_loop [9] (fun i => ∃ k, i = .int .i64 (k : Nat) ∧ p + 1 ≤ k ∧ k ≤ l.length ∧ gram (l.drop p) 0 p p = gram (l.drop k) 1 (p + 1) k) (fun i => l.length - (intOf i).toNat)
        case atStart => exact ⟨p + 1, by go_num, Nat.le_refl _, by omega, at_open l p hp HV.out⟩
        case round =>
          obtain ⟨k, rfl, hk1, hk2, hg⟩ := hrel
          have HG := hid hg
          clear hg cp
          by_cases hk : k < l.length
          · have ck := HC.out k hk
            generalize hck : l.getD k 0 = ck0 at ck
            have HK := hid hck
            clear hck
            by_cases hq : ck0 = 34
            · subst hq
              have HE := hid (HG.out.trans (end_quote l (p + 1) k hk HK.out))
              have hb3 : ¬ ((l.length : Int) ≤ (k : Int)) := by omega
              by_cases hk3 : k + 1 < l.length
              · have cn := HC.out (k + 1) hk3
                generalize hcn : l.getD (k + 1) 0 = cn0 at cn
                have HN := hid hcn
                have hb4 : (k : Int) + 1 < (l.length : Int) := by omega
                clear hcn
                by_cases h44 : cn0 = 44
                · subst h44
                  have HX := hid (HE.out.trans (at_next l (p + 1) k hk3 HN.out))
                  go_wp2_with (first | (at_builtin; refine wpList_append_lies _ rfl (.tmp 59) (.tmp 62) 23 rfl w.heap.size 3 i0 (.int .i64 0) 1 8 Try.underlying23 hi0 hz0 hz1 hz2 rfl (by decide) u6 fs.length _ rfl (H2.out.s.alloc _) ⟨wr.heap.size, 0, none⟩ 1 1 [.int .i64 ((p : Int) + 1)] rfl rfl (World.news_of_block (cs := #[.int .i64 ((p : Int) + 1)]) (t := 3) (fr := (0, 0)) (heap_alloc_new wr _)) (by simp [Value.oneCell']) (by omega) (by unfold maxLen; omega) (by omega) (by simp; omega) (wr.heap.size + 1) (by simp) ?_; intro g1 cp1 w1 hown1 hgrow1 hat1 hlt1; have R1 := hid (H2.out.first hgrow1 hat1); have hs1 := R1.out.2.2.size; have O1 := hid hown1; clear hown1 hgrow1 hat1 hlt1) | (at_builtin; refine wpList_append_lies _ rfl (.tmp 64) (.tmp 66) 23 rfl w.heap.size 3 i0 (.int .i64 0) 1 8 Try.underlying23 hi0 hz0 hz1 hz2 rfl (by decide) u7 fs.length _ rfl (R1.out.1.alloc _) ⟨w1.heap.size, 0, none⟩ 1 1 [.int .i64 (k : Int)] rfl rfl (World.news_of_block (cs := #[.int .i64 (k : Int)]) (t := 3) (fr := (0, 0)) (heap_alloc_new w1 _)) (by simp [Value.oneCell']) (by omega) (by unfold maxLen; omega) (by omega) (by simp; omega) (w1.heap.size + 1) (by simp) ?_; intro g2 cp2 w2 hown2 hgrow2 hat2 hlt2; have R2 := hid (Two.second (x := (p + 1, k)) (by simp) (by simp) O1.out R1.out.1 R1.out.2.1 R1.out.2.2 hown2 rfl rfl hgrow2 hat2); clear hown2 hgrow2 hat2 hlt2))
                  go_roundw
                  case rel => exact ⟨k + 2, _, by go_num, by omega, HL.out.go HX.out, R2.out⟩
                  case measure => simp [intOf]; omega
                · have hb5 : (cn0 != 44) = true := by simpa using h44
                  have HX := hid (HL.out.is (HE.out.trans (at_behind l (p + 1) k hk3 (by rw [HN.out]; exact h44))))
                  clear h44
                  go_wp2
                  go_ret3
                  exact ⟨_, _, by rw [HX.out]; rfl, by rw [HX.out]; simpa using H2.out⟩
              · have hb4 : ¬ ((k : Int) + 1 < (l.length : Int)) := by omega
                have hb5 : (l.length : Int) ≤ (k : Int) + 1 := by omega
                have HX := hid (HL.out.is (HE.out.trans (at_last l (p + 1) k (by omega))))
                go_wp2_with (first | (at_builtin; refine wpList_append_lies _ rfl (.tmp 59) (.tmp 62) 23 rfl w.heap.size 3 i0 (.int .i64 0) 1 8 Try.underlying23 hi0 hz0 hz1 hz2 rfl (by decide) u6 fs.length _ rfl (H2.out.s.alloc _) ⟨wr.heap.size, 0, none⟩ 1 1 [.int .i64 ((p : Int) + 1)] rfl rfl (World.news_of_block (cs := #[.int .i64 ((p : Int) + 1)]) (t := 3) (fr := (0, 0)) (heap_alloc_new wr _)) (by simp [Value.oneCell']) (by omega) (by unfold maxLen; omega) (by omega) (by simp; omega) (wr.heap.size + 1) (by simp) ?_; intro g1 cp1 w1 hown1 hgrow1 hat1 hlt1; have R1 := hid (H2.out.first hgrow1 hat1); have hs1 := R1.out.2.2.size; have O1 := hid hown1; clear hown1 hgrow1 hat1 hlt1) | (at_builtin; refine wpList_append_lies _ rfl (.tmp 64) (.tmp 66) 23 rfl w.heap.size 3 i0 (.int .i64 0) 1 8 Try.underlying23 hi0 hz0 hz1 hz2 rfl (by decide) u7 fs.length _ rfl (R1.out.1.alloc _) ⟨w1.heap.size, 0, none⟩ 1 1 [.int .i64 (k : Int)] rfl rfl (World.news_of_block (cs := #[.int .i64 (k : Int)]) (t := 3) (fr := (0, 0)) (heap_alloc_new w1 _)) (by simp [Value.oneCell']) (by omega) (by unfold maxLen; omega) (by omega) (by simp; omega) (w1.heap.size + 1) (by simp) ?_; intro g2 cp2 w2 hown2 hgrow2 hat2 hlt2; have R2 := hid (Two.second (x := (p + 1, k)) (by simp) (by simp) O1.out R1.out.1 R1.out.2.1 R1.out.2.2 hown2 rfl rfl hgrow2 hat2); clear hown2 hgrow2 hat2 hlt2))
                go_ret3
                exact ⟨_, _, by rw [HX.out]; rfl, by rw [HX.out]; exact R2.out⟩
            · have hqb : (ck0 != 34) = true := by simpa using hq
              have HE := hid (HG.out.trans (in_quote l (p + 1) k hk (by rw [HK.out]; exact hq)))
              clear hq
              go_wp2
              go_round
              case rel => exact ⟨k + 1, by go_num, by omega, by omega, HE.out⟩
              case measure => simp [intOf]; omega
          · have HX := hid (HL.out.is (HG.out.trans (no_quote l (p + 1) k (by omega))))
            go_wp2
            go_ret3
            exact ⟨_, _, by rw [HX.out]; rfl, by rw [HX.out]; simpa using H2.out⟩
      · have h34b : (c == 34) = false := by simpa using h34
        have HC34 := hid h34
        clear h34
        go_wp2
        clear cp
        go_loop [10] (fun i => ∃ k, i = .int .i64 (k : Nat) ∧ p ≤ k ∧ k ≤ l.length ∧ (k = p → l.getD k 0 ≠ 34) ∧ gram (l.drop p) 0 p p = gram (l.drop k) 0 p k) (fun i => l.length - (intOf i).toNat)
        case atStart => exact ⟨p, rfl, Nat.le_refl _, by omega, fun _ => by rw [HV.out]; exact HC34.out, rfl⟩
        case round =>
          obtain ⟨k, rfl, hk1, hk2, hfirst, hg⟩ := hrel
          have HG := hid hg
          have HFi := hid hfirst
          clear hg hfirst
          by_cases hk : k < l.length
          · have ck := HC.out k hk
            generalize hck : l.getD k 0 = ck0 at ck
            have HK := hid hck
            clear hck
            by_cases h44 : ck0 = 44
            · subst h44
              have hb6 : ¬ ((l.length : Int) ≤ (k : Int)) := by omega
              have HX := hid (HG.out.trans (at_comma l p k hk HK.out))
              go_wp2_with (first | (at_builtin; refine wpList_append_lies _ rfl (.tmp 96) (.tmp 98) 23 rfl w.heap.size 3 i0 (.int .i64 0) 1 8 Try.underlying23 hi0 hz0 hz1 hz2 rfl (by decide) u6 fs.length _ rfl (H2.out.s.alloc _) ⟨wr.heap.size, 0, none⟩ 1 1 [.int .i64 (p : Int)] rfl rfl (World.news_of_block (cs := #[.int .i64 (p : Int)]) (t := 3) (fr := (0, 0)) (heap_alloc_new wr _)) (by simp [Value.oneCell']) (by omega) (by unfold maxLen; omega) (by omega) (by simp; omega) (wr.heap.size + 1) (by simp) ?_; intro g1 cp1 w1 hown1 hgrow1 hat1 hlt1; have R1 := hid (H2.out.first hgrow1 hat1); have hs1 := R1.out.2.2.size; have O1 := hid hown1; clear hown1 hgrow1 hat1 hlt1) | (at_builtin; refine wpList_append_lies _ rfl (.tmp 100) (.tmp 102) 23 rfl w.heap.size 3 i0 (.int .i64 0) 1 8 Try.underlying23 hi0 hz0 hz1 hz2 rfl (by decide) u7 fs.length _ rfl (R1.out.1.alloc _) ⟨w1.heap.size, 0, none⟩ 1 1 [.int .i64 (k : Int)] rfl rfl (World.news_of_block (cs := #[.int .i64 (k : Int)]) (t := 3) (fr := (0, 0)) (heap_alloc_new w1 _)) (by simp [Value.oneCell']) (by omega) (by unfold maxLen; omega) (by omega) (by simp; omega) (w1.heap.size + 1) (by simp) ?_; intro g2 cp2 w2 hown2 hgrow2 hat2 hlt2; have R2 := hid (Two.second (x := (p, k)) (by simp) (by simp) O1.out R1.out.1 R1.out.2.1 R1.out.2.2 hown2 rfl rfl hgrow2 hat2); clear hown2 hgrow2 hat2 hlt2))
              go_roundw
              case rel => exact ⟨k + 1, _, by go_num, by omega, HL.out.go HX.out, R2.out⟩
              case measure => simp [intOf]; omega
            · have h44b : (ck0 != 44) = true := by simpa using h44
              by_cases hq : ck0 = 34
              · subst hq
                have hpk : p < k := by
                  by_cases e : k = p
                  · exact absurd HK.out (HFi.out e)
                  · omega
                have HX := hid (HL.out.is (HG.out.trans (at_nought l p k hk HK.out hpk)))
                clear h44
                go_wp2
                go_ret3
                exact ⟨_, _, by rw [HX.out]; rfl, by rw [HX.out]; simpa using H2.out⟩
              · have hqb : (ck0 == 34) = false := by simpa using hq
                have HE := hid (HG.out.trans (at_plain l p k hk (by rw [HK.out]; exact h44) (by rw [HK.out]; exact hq)))
                clear h44 hq
                go_wp2
                go_round
                case rel => exact ⟨k + 1, by go_num, by omega, by omega, fun e => by omega, HE.out⟩
                case measure => simp [intOf]; omega
          · obtain rfl : k = l.length := by omega
            have HX := hid (HL.out.is (HG.out.trans (at_end l p l.length (Nat.le_refl _))))
            go_wp2_with (first | (at_builtin; refine wpList_append_lies _ rfl (.tmp 96) (.tmp 98) 23 rfl w.heap.size 3 i0 (.int .i64 0) 1 8 Try.underlying23 hi0 hz0 hz1 hz2 rfl (by decide) u6 fs.length _ rfl (H2.out.s.alloc _) ⟨wr.heap.size, 0, none⟩ 1 1 [.int .i64 (p : Int)] rfl rfl (World.news_of_block (cs := #[.int .i64 (p : Int)]) (t := 3) (fr := (0, 0)) (heap_alloc_new wr _)) (by simp [Value.oneCell']) (by omega) (by unfold maxLen; omega) (by omega) (by simp; omega) (wr.heap.size + 1) (by simp) ?_; intro g1 cp1 w1 hown1 hgrow1 hat1 hlt1; have R1 := hid (H2.out.first hgrow1 hat1); have hs1 := R1.out.2.2.size; have O1 := hid hown1; clear hown1 hgrow1 hat1 hlt1) | (at_builtin; refine wpList_append_lies _ rfl (.tmp 100) (.tmp 102) 23 rfl w.heap.size 3 i0 (.int .i64 0) 1 8 Try.underlying23 hi0 hz0 hz1 hz2 rfl (by decide) u7 fs.length _ rfl (R1.out.1.alloc _) ⟨w1.heap.size, 0, none⟩ 1 1 [.int .i64 (l.length : Int)] rfl rfl (World.news_of_block (cs := #[.int .i64 (l.length : Int)]) (t := 3) (fr := (0, 0)) (heap_alloc_new w1 _)) (by simp [Value.oneCell']) (by omega) (by unfold maxLen; omega) (by omega) (by simp; omega) (w1.heap.size + 1) (by simp) ?_; intro g2 cp2 w2 hown2 hgrow2 hat2 hlt2; have R2 := hid (Two.second (x := (p, l.length)) (by simp) (by simp) O1.out R1.out.1 R1.out.2.1 R1.out.2.2 hown2 rfl rfl hgrow2 hat2); clear hown2 hgrow2 hat2 hlt2))
            go_ret3
            exact ⟨_, _, by rw [HX.out]; rfl, by rw [HX.out]; exact R2.out⟩
    · obtain rfl : p = l.length := by omega
      have HX := hid (HL.out.is (at_end l l.length l.length (Nat.le_refl _)))
      go_wp2
      refine wp_loop_rounds 1 ?_
      rw [rounds_succ]
      go_wp2_with (first | (at_builtin; refine wpList_append_lies _ rfl (.tmp 96) (.tmp 98) 23 rfl w.heap.size 3 i0 (.int .i64 0) 1 8 Try.underlying23 hi0 hz0 hz1 hz2 rfl (by decide) u6 fs.length _ rfl (H2.out.s.alloc _) ⟨wr.heap.size, 0, none⟩ 1 1 [.int .i64 (l.length : Int)] rfl rfl (World.news_of_block (cs := #[.int .i64 (l.length : Int)]) (t := 3) (fr := (0, 0)) (heap_alloc_new wr _)) (by simp [Value.oneCell']) (by omega) (by unfold maxLen; omega) (by omega) (by simp; omega) (wr.heap.size + 1) (by simp) ?_; intro g1 cp1 w1 hown1 hgrow1 hat1 hlt1; have R1 := hid (H2.out.first hgrow1 hat1); have hs1 := R1.out.2.2.size; have O1 := hid hown1; clear hown1 hgrow1 hat1 hlt1) | (at_builtin; refine wpList_append_lies _ rfl (.tmp 100) (.tmp 102) 23 rfl w.heap.size 3 i0 (.int .i64 0) 1 8 Try.underlying23 hi0 hz0 hz1 hz2 rfl (by decide) u7 fs.length _ rfl (R1.out.1.alloc _) ⟨w1.heap.size, 0, none⟩ 1 1 [.int .i64 (l.length : Int)] rfl rfl (World.news_of_block (cs := #[.int .i64 (l.length : Int)]) (t := 3) (fr := (0, 0)) (heap_alloc_new w1 _)) (by simp [Value.oneCell']) (by omega) (by unfold maxLen; omega) (by omega) (by simp; omega) (w1.heap.size + 1) (by simp) ?_; intro g2 cp2 w2 hown2 hgrow2 hat2 hlt2; have R2 := hid (Two.second (x := (l.length, l.length)) (by simp) (by simp) O1.out R1.out.1 R1.out.2.1 R1.out.2.2 hown2 rfl rfl hgrow2 hat2); clear hown2 hgrow2 hat2 hlt2))
      go_ret3
      exact ⟨_, _, by rw [HX.out]; rfl, by rw [HX.out]; exact R2.out⟩

end Go.Proofs.Qxb6615032a
