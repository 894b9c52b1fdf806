/-
  strings.IndexAny, strings.ContainsAny with a slash and a NUL, for every string of bytes.
-/
import Derived.Test.Qxb6609099aFmtRune
namespace Go.Proofs.Qxb6609099aFmt
set_option linter.unusedVariables false
set_option linter.unusedSimpArgs false
open Go.RowKit Plain

/-- A slash or a NUL is in it. -/
def has (l : List UInt8) : Bool := l.contains 47 || l.contains 0
def Told (s : ByteArray) (w : World) (e : Ending) (w' : World) : Prop := ∃ I : Int, e = .returned (.int .i64 I) ∧ decide (0 ≤ I) = has s.data.toList ∧ Below w.heap.size w w'

theorem has_none {l : List UInt8} (h : Lib.NoAny l [47, 0] l.length) : has l = false := by
  unfold has
  rw [Bool.or_eq_false_iff]
  refine ⟨?_, ?_⟩
  · rw [List.contains_eq_mem, decide_eq_false_iff_not]
    intro hm
    obtain ⟨j, hj, e⟩ := List.getElem_of_mem hm
    have := h j 47 hj (by rw [List.getElem?_eq_getElem hj, e])
    simp at this
  · rw [List.contains_eq_mem, decide_eq_false_iff_not]
    intro hm
    obtain ⟨j, hj, e⟩ := List.getElem_of_mem hm
    have := h j 0 hj (by rw [List.getElem?_eq_getElem hj, e])
    simp at this
theorem has_hit {l : List UInt8} {i : Nat} {x : UInt8} (hx : l[i]? = some x) (hc : ([47, 0] : List UInt8).contains x = true) : has l = true := by
  have hm : x ∈ l := List.mem_of_getElem? hx
  unfold has
  rw [Bool.or_eq_true, List.contains_eq_mem, List.contains_eq_mem, decide_eq_true_iff, decide_eq_true_iff]
  simp at hc
  rcases hc with rfl | rfl
  · exact Or.inl hm
  · exact Or.inr hm

theorem any_has (l : List UInt8) : decide (0 ≤ Lib.indexAny l [47, 0]) = has l := by
  by_cases h : ∃ i : Nat, ∃ x, l[i]? = some x ∧ ([47, 0] : List UInt8).contains x = true
  · have hex : ∃ i : Nat, (∃ x, l[i]? = some x ∧ ([47, 0] : List UInt8).contains x = true) ∧ Lib.NoAny l [47, 0] i := by
      obtain ⟨i, hi⟩ := h
      induction i using Nat.strongRecOn with
      | ind i ih =>
        by_cases hn : Lib.NoAny l [47, 0] i
        · exact ⟨i, hi, hn⟩
        · unfold Lib.NoAny at hn
          simp only [Classical.not_forall] at hn
          obtain ⟨j, b, hj, hb, hc⟩ := hn
          exact ih j hj ⟨b, hb, by cases hq : ([47, 0] : List UInt8).contains b with | true => rfl | false => exact absurd hq hc⟩
    obtain ⟨i, ⟨x, hx, hc⟩, hn⟩ := hex
    rw [Lib.indexAny_hit hn hx hc, has_hit hx hc]
    simp
  · have hn : Lib.NoAny l [47, 0] l.length := fun j b hj hb => by
      cases hc : ([47, 0] : List UInt8).contains b with
      | false => rfl
      | true => exact absurd ⟨j, b, hb, hc⟩ h
    rw [Lib.indexAny_none hn, has_none hn]
    decide

theorem high_width (s : ByteArray) (pos : Nat) (h : pos < s.size) (ha : 128 ≤ (s.get! pos).toNat) :
    1 ≤ (Utf8.decode s pos).2 ∧ pos + (Utf8.decode s pos).2 ≤ s.size ∧ ∀ j, pos ≤ j → j < pos + (Utf8.decode s pos).2 → 128 ≤ (s.get! j).toNat := by
  rw [Lib.decode_at]
  unfold Lib.decodeN
  rw [if_neg (by omega)]
  have one : ∀ j, pos ≤ j → j < pos + 1 → 128 ≤ (s.get! j).toNat := fun j h1 h2 => by
    have e : j = pos := by omega
    rw [e]; exact ha
  split
  · rename_i hc
    split
    · refine ⟨by omega, by simp only; omega, fun j h1 h2 => ?_⟩
      simp only at h2
      have : j = pos ∨ j = pos + 1 := by omega
      rcases this with rfl | rfl
      · exact ha
      · omega
    · exact ⟨by omega, by simp only; omega, one⟩
  · split
    · rename_i hc
      split
      · refine ⟨by omega, by simp only; omega, fun j h1 h2 => ?_⟩
        simp only at h2
        have : j = pos ∨ j = pos + 1 ∨ j = pos + 2 := by omega
        rcases this with rfl | rfl | rfl
        · exact ha
        · omega
        · omega
      · exact ⟨by omega, by simp only; omega, one⟩
    · split
      · rename_i hc
        split
        · refine ⟨by omega, by simp only; omega, fun j h1 h2 => ?_⟩
          simp only at h2
          have : j = pos ∨ j = pos + 1 ∨ j = pos + 2 ∨ j = pos + 3 := by omega
          rcases this with rfl | rfl | rfl | rfl
          · exact ha
          · omega
          · omega
          · omega
        · exact ⟨by omega, by simp only; omega, one⟩
      · exact ⟨by omega, by simp only; omega, one⟩

/-- One step of a range over a string, its iterator at block B. -/
theorem next_any (W : World) (B : Nat) (s : ByteArray) (pos : Nat) (ty : TypeId) (hB : W.heap[B]? = some (.stringIter s pos)) (h : pos < s.size) :
    (Instr.next (.pointer (some ⟨B, 0, none⟩)) true ty).run Tryf.prog W = .ok (.tuple #[.bool true, .int .i64 pos, .int .i32 (Utf8.decode s pos).1]) { W with heap := W.heap.setIfInBounds B (.stringIter s (pos + (Utf8.decode s pos).2)) } := by
  simp only [Instr.next, getObj, setObj, Sem.run_bind, Sem.run, hB, Result.andThen, h, if_true]
  simp [goInt]
theorem next_end (W : World) (B : Nat) (s : ByteArray) (pos : Nat) (ty : TypeId) (hB : W.heap[B]? = some (.stringIter s pos)) (h : ¬ pos < s.size) :
    (Instr.next (.pointer (some ⟨B, 0, none⟩)) true ty).run Tryf.prog W = .ok (.tuple #[.bool false]) W := by
  simp [Instr.next, getObj, Sem.run, hB, h]

theorem set_below {B : Nat} {w W : World} (h : Below B w W) (o : Obj) : Below B w { W with heap := W.heap.setIfInBounds B o } :=
  h.trans ⟨rfl, rfl, rfl, by simp, fun k hk => by simp only; rw [Array.getElem?_setIfInBounds_ne (by omega)]⟩

theorem no_more {s : ByteArray} {i d : Nat} (h : Lib.NoAny s.data.toList [47, 0] i) (hj : ∀ j, i ≤ j → j < i + d → 128 ≤ (s.get! j).toNat) : Lib.NoAny s.data.toList [47, 0] (i + d) := by
  intro j b hlt hb
  by_cases hji : j < i
  · exact h j b hji hb
  · have h1 := hj j (by omega) hlt
    have e : s.get! j = b := by rw [← Lib.getD_get!', List.getD, hb]; rfl
    rw [e] at h1
    cases hc : ([47, 0] : List UInt8).contains b with
    | false => rfl
    | true =>
      simp at hc
      rcases hc with rfl | rfl <;> simp at h1

set_option maxHeartbeats 4000000 in
set_option maxRecDepth 100000 in
theorem index_short (s : ByteArray) (w : World) (h8 : s.size ≤ 8) : Calls Tryf.prog 31 #[.string s, .string C0] w fun e w' => Told s w e w' := by
  have hemp : C0.toList.isEmpty = false := by rw [Lib.toList_data]; rfl
  have hn1 : ((C0.size : Int) == 1) = false := by decide
  have h8z : decide ((8 : Int) < (s.size : Int)) = false := decide_eq_false (by omega)
  have HS := hid (Tryf.strings_shouldUseASCIISet (s.size : Int) w)
  rw [h8z] at HS
  go_enter Tryf.func31, Tryf.ntmps31
  go_wp2_with fail
  refine HS.out.mono ?_
  rintro e wx ⟨rfl, hx⟩
  have hx' := hx.symm
  subst hx'
  clear hx HS
  have HB0 := hid (below_iter w s 0)
  have HI0 := hid (World.iter_heap w s 0)
  go_wp2
  go_loopg [9, 10] s.size (fun g _ _ wx => ∃ i : Nat, i + g = s.size ∧ Hid (wx.heap[w.heap.size]? = some (.stringIter s i)) ∧ Hid (Below w.heap.size w wx) ∧ Hid (Lib.NoAny s.data.toList [47, 0] i))
  case atStart => exact ⟨0, by omega, HI0, HB0, hid (Lib.NoAny.zero _ _)⟩
  case round =>
    obtain ⟨i, hig, HI, HB, HN⟩ := hrel
    by_cases hlt : i < s.size
    · have hnx := fun ty => next_any wr w.heap.size s i ty HI.out hlt
      have hsz : w.heap.size < wr.heap.size := (Array.getElem?_eq_some_iff.1 HI.out).1
      obtain ⟨x, hx⟩ : ∃ x : UInt8, s[i]'hlt = x := ⟨_, rfl⟩
      have hxl : s.data.toList[i]? = some x := by rw [← hx]; exact Lib.data_getElem? s i hlt
      have hxg : s.get! i = x := by rw [← Lib.getD_get!', List.getD, hxl]; rfl
      have hf : ∀ d, ({ wr with heap := wr.heap.setIfInBounds w.heap.size (.stringIter s (i + d)) } : World).heap[w.heap.size]? = some (.stringIter s (i + d)) := fun d => by
        simp only
        rw [Array.getElem?_setIfInBounds_self_of_lt hsz]
      have hbl := fun d => set_below HB.out (.stringIter s (i + d))
      by_cases hasc : x.toNat < 128
      · have hde : Utf8.decode s i = (x.toNat, 1) := by rw [decode_ascii s i hlt (by rw [hx]; exact hasc), hx]
        rw [hde] at hnx
        have f1 := hf 1
        have b1 := hbl 1
        simp only at hnx
        obtain ⟨W1, hW1⟩ : ∃ W1, W1 = ({ wr with heap := wr.heap.setIfInBounds w.heap.size (.stringIter s (i + 1)) } : World) := ⟨_, rfl⟩
        rw [← hW1] at hnx f1 b1
        have HI1 := hid f1
        have HB1 := hid b1
        have hback : ((x.toNat : Int)).toNat.toUInt8 = x := by simp
        have HR := hid (Tryf.strings_IndexRune_ascii C0 (x.toNat : Int) W1 (by omega) (by omega))
        rw [hback] at HR
        have hcon := Lib.contains_iff_indexByte C0.data.toList x
        have Hx := hid hxl
        have eC : C0.data.toList = [47, 0] := rfl
        rw [eC] at hcon HR
        clear hf hbl hde hW1 f1 b1 hxl hxg hx eC hsz
        cases hin : ([47, 0] : List UInt8).contains x
        · rw [hin] at hcon
          have hlt' : ¬ ((0 : Int) ≤ Lib.indexByte [47, 0] x) := of_decide_eq_false hcon.symm
          generalize Lib.indexByte [47, 0] x = ib at *
          have HIN := hid hin
          clear hcon hin
          go_wp2_with fail
          refine HR.out.mono ?_
          rintro e wy ⟨rfl, hy⟩
          have hy' := hy.symm
          subst hy'
          clear hy HR
          go_wp2
          go_roundg (s.size - (i + 1))
          case measure => omega
          case rel => exact ⟨i + 1, by omega, HI1, HB1, hid (HN.out.succ Hx.out HIN.out)⟩
        · rw [hin] at hcon
          have hge : (0 : Int) ≤ Lib.indexByte [47, 0] x := of_decide_eq_true hcon.symm
          generalize Lib.indexByte [47, 0] x = ib at *
          have HIN := hid hin
          clear hcon hin
          go_wp2_with fail
          refine HR.out.mono ?_
          rintro e wy ⟨rfl, hy⟩
          have hy' := hy.symm
          subst hy'
          clear hy HR
          go_wp2
          go_ret
          exact ⟨(i : Int), rfl, by rw [has_hit Hx.out HIN.out]; simp, HB1.out⟩
      · have hwd := high_width s i hlt (by rw [hxg]; omega)
        have hdh := (decode_high s i hlt (by rw [hx]; omega)).1
        generalize (Utf8.decode s i).1 = r at hnx hdh
        generalize (Utf8.decode s i).2 = d at hnx hwd
        obtain ⟨d1, d2, d3⟩ := hwd
        have f1 := hf d
        have b1 := hbl d
        obtain ⟨W1, hW1⟩ : ∃ W1, W1 = ({ wr with heap := wr.heap.setIfInBounds w.heap.size (.stringIter s (i + d)) } : World) := ⟨_, rfl⟩
        rw [← hW1] at hnx f1 b1
        have HI1 := hid f1
        have HB1 := hid b1
        have hs1 : w.heap.size < W1.heap.size := (Array.getElem?_eq_some_iff.1 f1).1
        have HN1 := hid (no_more HN.out d3)
        have HR : Hid (Calls Tryf.prog 37 #[.string C0, .int .i32 (r : Int)] W1 fun e w' => e = .returned (.int .i64 (-1)) ∧ Below W1.heap.size W1 w') := by
          by_cases he : (r : Int) = 65533
          · rw [he]; exact rune_error W1
          · exact rune_high (r : Int) W1 (by omega) he
        clear hf hbl hW1 f1 b1 hxl hxg hx d3
        go_wp2_with fail
        refine HR.out.mono ?_
        rintro e wy ⟨rfl, By⟩
        have HBy := hid By
        clear By HR
        go_wp2
        go_roundg (s.size - (i + d))
        case measure => omega
        case rel => exact ⟨i + d, by omega, hid ((HBy.out.block _ hs1).trans HI1.out), hid (HB1.out.trans (HBy.out.mono (Nat.le_of_lt hs1))), HN1⟩
    · have hnx := fun ty => next_end wr w.heap.size s i ty HI.out hlt
      obtain rfl : i = s.size := by omega
      have HF := hid (has_none (by rw [← Lib.size_eq]; exact HN.out))
      go_wp2
      go_ret
      exact ⟨-1, rfl, by rw [HF.out]; decide, HB.out⟩

theorem zero56 (w : World) : (zeroValue 56).run Tryf.prog w = .ok (.agg (Array.replicate 256 (.bool false))) w := by kernel_rfl

theorem index_any (s : ByteArray) (w : World) (h : s.size ≤ 1048576) : Calls Tryf.prog 31 #[.string s, .string C0] w fun e w' => Told s w e w' := by
  by_cases h8 : s.size ≤ 8
  · exact index_short s w h8
  · refine (Tryf.strings_IndexAny_long zero56 s C0 w (by decide) (by omega) (by omega) (by decide) ?_).mono ?_
    · intro j b hb
      have : j = 0 ∨ j = 1 := by
        have hl := (List.getElem?_eq_some_iff.1 hb).1
        have : C0.data.toList.length = 2 := rfl
        omega
      rcases this with rfl | rfl
      · have e : C0.data.toList[0]? = some 47 := rfl
        rw [e] at hb; cases hb; decide
      · have e : C0.data.toList[1]? = some 0 := rfl
        rw [e] at hb; cases hb; decide
    · rintro e w' ⟨rfl, rfl⟩
      exact ⟨_, rfl, any_has _, ((Below.refl _ _).alloc (Nat.le_refl _) _).alloc (by simp) _⟩

set_option maxHeartbeats 400000 in
theorem contains_any (s : ByteArray) (w : World) (h : s.size ≤ 1048576) : Calls Tryf.prog 26 #[.string s, .string C0] w fun e w' => e = .returned (.bool (has s.data.toList)) ∧ Below w.heap.size w w' := by
  have HC := hid (index_any s w h)
  go_enter Tryf.func26, Tryf.ntmps26
  go_wp2_with fail
  refine HC.out.mono ?_
  rintro e w1 ⟨I, rfl, hI, B1⟩
  have HB1 := hid B1
  clear B1 HC
  go_wp2
  go_ret
  exact ⟨rfl, HB1.out⟩

end Go.Proofs.Qxb6609099aFmt
