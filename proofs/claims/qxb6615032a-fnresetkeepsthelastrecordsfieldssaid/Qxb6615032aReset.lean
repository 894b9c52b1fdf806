/-
  FnResetKeepsTheLastRecordsFields: the walk.
-/
import Derived.Test.Qxb6615032aCloneF
namespace Go.Proofs.Qxb6615032a
set_option linter.unusedVariables false
set_option linter.unusedSimpArgs false
open Go.RowKit Plain

set_option maxHeartbeats 1000000 in
theorem reset (br : Nat) (c0 c1 c2 c3 c4 c5 c6 : Value) (ao : Option Addr) (n cap : Nat) (first : Int) (w : World)
    (hrd : w.heap[br]? = some (.cells #[c0, c1, c2, c3, c4, c5, c6] 57 (0, 0))) :
    Calls Try.prog 18 #[.pointer (some ⟨br, 0, none⟩), .slice ao n cap, .int .i64 first] w fun e w' => e = .returned (.tuple #[]) ∧
      w'.heap[br]? = some (.cells #[.nilIface, .slice ao n cap, .int .i64 0, .int .i64 (wrap64 (first - 1)), c4, c5, c6] 57 (0, 0)) ∧ Fr (fun k => k = br) w w' := by
  have k0 : w.cell? ⟨br, 0, none⟩ = some c0 := by rw [cell_of_heap hrd]; rfl
  have k1 : w.cell? ⟨br, 1, none⟩ = some c1 := by rw [cell_of_heap hrd]; rfl
  have k2 : w.cell? ⟨br, 2, none⟩ = some c2 := by rw [cell_of_heap hrd]; rfl
  have k3 : w.cell? ⟨br, 3, none⟩ = some c3 := by rw [cell_of_heap hrd]; rfl
  have f0 : w.frozen? ⟨br, 0, none⟩ = false := by simp [World.frozen?, hrd]
  have f1 : w.frozen? ⟨br, 1, none⟩ = false := by simp [World.frozen?, hrd]
  have f2 : w.frozen? ⟨br, 2, none⟩ = false := by simp [World.frozen?, hrd]
  have f3 : w.frozen? ⟨br, 3, none⟩ = false := by simp [World.frozen?, hrd]
  have HR := hid hrd
  clear hrd
  go_enter Try.func18, Try.ntmps18
  go_wp2
  go_end0
  go_wp2
  go_end0
  refine ⟨rfl, ?_, ?_⟩
  · rw [heap_setCell_at (heap_setCell_at (heap_setCell_at (heap_setCell_at HR.out 0 _) 1 _) 2 _) 3 _]; rfl
  · exact ((((Fr.refl (fun k => k = br) w).setCell (p := ⟨br, 0, none⟩) rfl _).setCell (p := ⟨br, 1, none⟩) rfl _).setCell (p := ⟨br, 2, none⟩) rfl _).setCell (p := ⟨br, 3, none⟩) rfl _

set_option maxHeartbeats 1000000 in
theorem readerState (br : Nat) (ao : Option Addr) (n cap : Nat) (x y : Int) (c4 c5 c6 : Value) (w : World)
    (hrd : w.heap[br]? = some (.cells #[.nilIface, .slice ao n cap, .int .i64 x, .int .i64 y, c4, c5, c6] 57 (0, 0))) :
    Calls Try.prog 19 #[.pointer (some ⟨br, 0, none⟩)] w fun e w' => e = .returned (.tuple #[.bool true, .slice ao n cap, .int .i64 x, .int .i64 y]) ∧ ∃ q, w' = w.drewN q := by
  have k0 : w.cell? ⟨br, 0, none⟩ = some .nilIface := by rw [cell_of_heap hrd]; rfl
  have k1 : w.cell? ⟨br, 1, none⟩ = some (.slice ao n cap) := by rw [cell_of_heap hrd]; rfl
  have k2 : w.cell? ⟨br, 2, none⟩ = some (.int .i64 x) := by rw [cell_of_heap hrd]; rfl
  have k3 : w.cell? ⟨br, 3, none⟩ = some (.int .i64 y) := by rw [cell_of_heap hrd]; rfl
  clear hrd
  go_enter Try.func19, Try.ntmps19
  go_wp2
  go_quiet (fail)
  go_wp2
  exact bodyPost_ret (v := .tuple #[.bool true, .slice ao n cap, .int .i64 x, .int .i64 y]) (by simp [results, Try.results19, go_sem]) rfl ⟨rfl, _, rfl⟩

theorem txt_br {w w' : World} {br : Nat} {cs : Array Value} {t : TypeId} {fr : Nat × Nat} (hrd : w.heap[br]? = some (.cells cs t fr)) (hno : ∀ (i : Nat) (x : Int), cs[i]? ≠ some (.int .u8 x)) (f : Fr (fun k => k = br) w w')
    {ao : Option Addr} {l : List Int} (hT : Txt w ao l) : Txt w' ao l := by
  refine ⟨hT.1, fun h1 => ?_⟩
  obtain ⟨y, p, e2, hc⟩ := hT.2 h1
  refine ⟨y, p, e2, fun j hj => ?_⟩
  have hcj := hc j hj
  have hy : y ≠ br := by
    intro ey
    subst ey
    rw [cell_of_heap hrd] at hcj
    exact hno _ _ hcj
  rw [World.cell?_of_block (w := w) (f.block y (World.block_lt_of_cell? w _ hcj) hy)]; exact hcj

/-- Fields whose row is not at br stay as they are while the reader's block, in which no byte lies, is written. -/
theorem flds_br {w w' : World} {br : Nat} {cs : Array Value} {t : TypeId} {fr : Nat × Nat} (hrd : w.heap[br]? = some (.cells cs t fr)) (hno : ∀ (i : Nat) (x : Int), cs[i]? ≠ some (.int .u8 x)) (f : Fr (fun k => k = br) w w')
    {ao : Option Addr} {n cap : Nat} {ls : List (List Int)} (h : Flds w (.slice ao n cap) ls) (hr : ∀ g, ao = some g → g.block ≠ br) : Flds w' (.slice ao n cap) ls := by
  obtain ⟨a, c, e, hl, r⟩ := h
  injection e with e1 e2 e3
  subst e1 e2 e3
  refine ⟨ao, cap, rfl, hl, fun h0 => ?_⟩
  obtain ⟨x, o, e', g⟩ := r h0
  refine ⟨x, o, e', fun i hi => ?_⟩
  obtain ⟨u, hu, a2, c2, hu2, hn2, hT⟩ := g i hi
  have hx : x ≠ br := hr ⟨x, o, none⟩ e'
  refine ⟨u, ?_, a2, c2, hu2, hn2, hT.1, fun h1 => ?_⟩
  · rw [World.cell?_of_block (w := w) (f.block x (World.block_lt_of_cell? w _ hu) hx)]; exact hu
  · obtain ⟨y, p, e2, hc⟩ := hT.2 h1
    refine ⟨y, p, e2, fun j hj => ?_⟩
    have hcj := hc j hj
    have hy : y ≠ br := by
      intro ey
      subst ey
      rw [cell_of_heap hrd] at hcj
      exact hno _ _ hcj
    rw [World.cell?_of_block (w := w) (f.block y (World.block_lt_of_cell? w _ hcj) hy)]; exact hcj

theorem reader_no_byte (c0 c1 c2 c3 c4 c5 c6 : Value) (h0 : ∀ x, c0 ≠ .int .u8 x) (h1 : ∀ x, c1 ≠ .int .u8 x) (h2 : ∀ x, c2 ≠ .int .u8 x) (h3 : ∀ x, c3 ≠ .int .u8 x) (h4 : ∀ x, c4 ≠ .int .u8 x) (h5 : ∀ x, c5 ≠ .int .u8 x) (h6 : ∀ x, c6 ≠ .int .u8 x) :
    ∀ (i : Nat) (x : Int), (#[c0, c1, c2, c3, c4, c5, c6] : Array Value)[i]? ≠ some (.int .u8 x) := by
  intro i x
  match i with
  | 0 => simpa using h0 x
  | 1 => simpa using h1 x
  | 2 => simpa using h2 x
  | 3 => simpa using h3 x
  | 4 => simpa using h4 x
  | 5 => simpa using h5 x
  | 6 => simpa using h6 x
  | n + 7 => simp

/-- A fresh reader that has split a text of the call's own: its block, its fields. -/
theorem splitRd (br n : Nat) (ao : Option Addr) (l : List Int) (w : World) (ls : List (List Int)) (hls : (gram l 0 0 0).2.map (Plain.part l) = ls) (hn : l.length = n)
    (hl : l.length ≤ 2097152) (hown : Own 0 w ao l) (hby : ∀ x ∈ l, 0 ≤ x ∧ x < 256) (hsep : ∀ g, ao = some ⟨g, 0, none⟩ → g < br) (hrd : w.heap[br]? = some (.cells fresh 57 (0, 0))) :
    Calls Try.prog 15 #[.pointer (some ⟨br, 0, none⟩), .slice ao n n] w fun e w' => ∃ ok ax cx, e = .returned (.bool ok) ∧
      w'.heap[br]? = some (.cells #[.nilIface, .slice none 0 0, .int .i64 0, .int .i64 0, .slice ax ls.length cx, .slice none 0 0, .slice none 0 0] 57 (0, 0)) ∧
      Flds w' (.slice ax ls.length cx) ls ∧ (∀ g, ax = some g → g.block ≠ br) ∧ (ax = none → cx = 0) ∧ Below br w w' := by
  subst hn hls
  have hT := hown.txt hl
  have hbr : br < w.heap.size := (Array.getElem?_eq_some_iff.1 hrd).1
  refine (zzsplit br _ _ _ _ _ _ none 0 0 [] ao l w hT hby ?_ hrd (World.ownsRow_nil _ _ _ _) (by simp [Value.ownBlock])).mono ?_
  · intro g o e
    rcases hown with ⟨e', _⟩ | ⟨g', _, e', _⟩
    · rw [e'] at e; cases e
    · have : g' < br := hsep g' e'
      rw [e'] at e
      have := congrArg Addr.block (Option.some.inj e)
      simp at this
      exact ⟨by omega, by simp [Value.ownBlock]⟩
  · rintro e w' ⟨v, rfl, hI⟩
    have hsepS : ∀ g, ao = some ⟨g, 0, none⟩ → ¬ (g = br ∨ some g = (Value.slice none 0 0).ownBlock) := by
      intro g e k
      have := hsep g e
      rcases k with k | k
      · omega
      · simp [Value.ownBlock] at k
    have hown' := hown.fr hI.fr hsepS
    have F := flds_of hI.own (hown'.txt hl) (Nat.le_refl _) hown'.nilLen (fun x hx => by
      have := gram_bounds l 0 0 0 (Nat.le_refl _) (by omega) x hx
      omega) (by have := gram_len l 0 0 0; omega)
    have far := hI.far hbr (by simp [Value.ownBlock])
    have hrd' := hI.rd
    have hnil : ∀ ax n cx, v = .slice ax n cx → ax = none → cx = 0 := by
      intro ax n cx e e0
      subst e0
      rcases hI.own.2 with ⟨e', _⟩ | ⟨g, c, cur, e', _⟩
      · rw [e] at e'; injection e'
      · rw [e] at e'; injection e' with e1; cases e1
    obtain ⟨ax, cx, rfl, r⟩ := F
    refine ⟨_, ax, cx, rfl, hrd', ⟨ax, cx, rfl, r⟩, ?_, hnil _ _ _ rfl, ?_⟩
    · intro g e hg
      subst e
      exact far (by simp [Value.ownBlock, hg])
    · refine hI.fr.below (by omega) ?_
      intro i hi k
      rcases k with k | k
      · omega
      · simp [Value.ownBlock] at k

set_option maxHeartbeats 4000000 in
set_option maxRecDepth 100000 in
theorem reset_core (a0 a1 : Option Addr) (cap0 cap1 : Nat) (lA lB : List Int) (first : Int) (w : World) (TA : Txt w a0 lA) (TB : Txt w a1 lB) (na : a0 = none → cap0 = 0) (nb : a1 = none → cap1 = 0)
    (byA : ∀ x ∈ lA, 0 ≤ x ∧ x < 256) (hsum : lA.length + lB.length ≤ 1048576) :
    Calls Try.prog 4 #[.slice a0 lA.length cap0, .slice a1 lB.length cap1, .int .i64 first] w fun e w' => e = .returned (.bool true) ∧ Below w.heap.size w w' := by
  have HTA := hid TA
  have HTB := hid TB
  have HNA := hid na
  have HNB := hid nb
  have HBA := hid byA
  have hA : (lA.length : Int) ≤ 1048576 := by omega
  have hB : (lB.length : Int) ≤ 1048576 := by omega
  have hAB : (lA.length : Int) + (lB.length : Int) ≤ 1048576 := by omega
  clear TA TB na nb byA
  go_enter Try.func4, Try.ntmps4
  go_wp2_with (first | (go_at_call 12; go_in))
  refine (clone a0 cap0 lA w HTA.out HNA.out).mono ?_
  rintro e w1 ⟨aoA, rfl, OA, B1⟩
  have HOA := hid OA
  have HB1 := hid B1
  clear OA B1
  go_wp2_with fail
  refine (clone a1 cap1 lB w1 (txt_below HTB.out HB1.out) HNB.out).mono ?_
  rintro e w2 ⟨aoB, rfl, OB, B2⟩
  have HOA2 := hid (own_below HOA.out B2)
  have HOB := hid OB
  have HTB2 := hid (txt_below (txt_below HTB.out HB1.out) B2)
  have HB2 := hid (HB1.out.trans (B2.mono HB1.out.size))
  clear OB B2 HOA HB1 HTA HTB HNA
  go_wp2_with fail
  refine (newReader w2).mono ?_
  rintro e wx ⟨rfl, rfl⟩
  go_wp2_with fail
  obtain ⟨ls, hls⟩ : ∃ ls, (gram lA 0 0 0).2.map (Plain.part lA) = ls := ⟨_, rfl⟩
  refine (splitRd w2.heap.size lA.length aoA lA _ ls hls rfl (by omega) (own_below HOA2.out.zero ((Below.refl _ _).alloc (Nat.le_refl _) _)) HBA.out HOA2.out.lt (heap_alloc_new w2 _)).mono ?_
  rintro e w4 ⟨ok, ax, cx, rfl, rd4, FA, far, nl, B4⟩
  clear hls
  have b4 : Below w2.heap.size w2 w4 := (Below.refl _ w2).alloc (Nat.le_refl _) _ |>.trans B4
  have cell4 : w4.cell? ⟨w2.heap.size, 4, none⟩ = some (.slice ax ls.length cx) := by rw [cell_of_heap rd4]; rfl
  have HC4 := hid cell4
  have HR4 := hid rd4
  have HFA := hid FA
  have HFR := hid far
  have HNL := hid nl
  have HOB4 := hid (own_below HOB.out b4)
  have HTB4 := hid (txt_below HTB2.out b4)
  have HB4 := hid (HB2.out.trans (b4.mono HB2.out.size))
  have hbr : w2.heap.size < w4.heap.size := (Array.getElem?_eq_some_iff.1 rd4).1
  have hob := HOB.out.lt
  have HOL := hid hob
  have HW := hid HB2.out.size
  clear cell4 rd4 FA far nl B4 b4 HOB HTB2 HB2 HOA2 hob
  generalize w2.heap.size = br at *
  go_wp2_with fail
  refine (readerFields _ _ w4 HC4.out).mono ?_
  rintro e wx ⟨rfl, hx⟩
  have hx' := hx.symm
  subst hx'
  clear hx HC4
  go_wp2_with fail
  refine (cloneF HFA.out (fun cap e => by injection e with e1 e2 e3; rw [← e3]; exact HNL.out e1)).mono ?_
  rintro e w5 ⟨bo, rfl, FB, OX, hbg, B5⟩
  have rd5 := (B5.block br hbr).trans HR4.out
  have HR5 := hid rd5
  have HFB := hid FB
  have HFA5 := hid (flds_below HFA.out B5)
  have HBG := hid hbg
  have HOB5 := hid (own_below HOB4.out B5)
  have HTB5 := hid (txt_below HTB4.out B5)
  have HB5 := hid (HB4.out.trans (B5.mono HB4.out.size))
  clear FB OX hbg B5 rd5 HFA HOB4 HTB4 HB4 HR4
  go_wp2_with fail
  refine (reset br _ _ _ _ _ _ _ aoB lB.length lB.length first w5 HR5.out).mono ?_
  rintro e w6 ⟨rfl, rd6, F6⟩
  have hno : ∀ (i : Nat) (x : Int), (#[.nilIface, .slice none 0 0, .int .i64 0, .int .i64 0, .slice ax ls.length cx, .slice none 0 0, .slice none 0 0] : Array Value)[i]? ≠ some (.int .u8 x) := reader_no_byte _ _ _ _ _ _ _ (by simp) (by simp) (by simp) (by simp) (by simp) (by simp) (by simp)
  have HFA6 := hid (flds_br HR5.out hno F6 HFA5.out HFR.out)
  have HFB6 := hid (flds_br HR5.out hno F6 HFB.out (fun g e k => by have := HBG.out g e; omega))
  have HTX := hid (show HB w6 (.slice aoB lB.length lB.length) lB from ⟨aoB, _, rfl, HOB5.out.nilLen, (HOB5.out.fr F6 (fun g e k => by have := HOL.out g e; omega)).txt (by omega)⟩)
  have HTY := hid (show HB w6 (.slice a1 lB.length cap1) lB from ⟨a1, cap1, rfl, HNB.out, txt_br HR5.out hno F6 HTB5.out⟩)
  have cell6 : w6.cell? ⟨br, 4, none⟩ = some (.slice ax ls.length cx) := by rw [cell_of_heap rd6]; rfl
  have HC6 := hid cell6
  have HR6 := hid rd6
  have HB6 := hid (HB5.out.trans (F6.below (B := w.heap.size) HB5.out.size (fun i hi k => by have := HW.out; omega)))
  clear rd6 F6 hno HFA5 HFB HBG HOB5 HTB5 HB5 HR5 cell6 HFR HNL HOL
  go_wp2_with fail
  refine (readerFields _ _ w6 HC6.out).mono ?_
  rintro e wx ⟨rfl, hx⟩
  have hx' := hx.symm
  subst hx'
  clear hx HC6
  go_wp2_with fail
  refine (readerState br aoB lB.length lB.length 0 (wrap64 (first - 1)) _ _ _ w6 HR6.out).mono ?_
  rintro e wx ⟨rfl, q, rfl⟩
  have HE1 := hid ((fieldsEq (HFB6.out.drewN q) (HFA6.out.drewN q)).mono (R' := fun e w' => e = .returned (.bool true) ∧ ∃ m, w' = w6.drewN m) (fun e w' h => ⟨by rw [h.1]; simp, by obtain ⟨m, hm⟩ := h.2; exact ⟨q + m, by rw [hm, World.drewN_drewN]⟩⟩))
  have HE2 := hid (fun m => (bytesEqV (HTX.out.drewN m) (HTY.out.drewN m)).mono (R' := fun e w' => e = .returned (.bool true) ∧ ∃ q, w' = w6.drewN q) (fun e w' h => ⟨by rw [h.1]; simp, by obtain ⟨m', hm⟩ := h.2; exact ⟨m + m', by rw [hm, World.drewN_drewN]⟩⟩))
  clear HFA6 HFB6 HTX HTY HR6
  go_wp2_with fail
  refine HE1.out.mono ?_
  rintro e wx ⟨rfl, q1, rfl⟩
  go_wp2_with fail
  refine (HE2.out q1).mono ?_
  rintro e wx ⟨rfl, q2, rfl⟩
  go_wp2
  go_ret
  exact ⟨by simp, below_drewN HB6.out _⟩

end Go.Proofs.Qxb6615032a
