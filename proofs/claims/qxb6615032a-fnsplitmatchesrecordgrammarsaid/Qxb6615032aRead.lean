/-
  A fresh reader: made, split over a text of the call's own, its fields read.
-/
import Derived.Test.Qxb6615032aSplit
import Derived.Test.Qxb6615032aFlds
import Derived.Test.Qxb6615032aClone
namespace Go.Proofs.Qxb6615032a
set_option linter.unusedVariables false
set_option linter.unusedSimpArgs false
open Go.RowKit Plain

theorem txt_below {a b : World} {ao : Option Addr} {l : List Int} (h : Txt a ao l) (f : Below a.heap.size a b) : Txt b ao l := h.fr (Fr.of_below f (fun _ => False)) (fun _ _ _ k => k)
theorem hb_below {a b : World} {v : Value} {l : List Int} (h : HB a v l) (f : Below a.heap.size a b) : HB b v l := by
  obtain ⟨ao, cap, e, n, t⟩ := h; exact ⟨ao, cap, e, n, txt_below t f⟩
theorem own_below {B : Nat} {a b : World} {ao : Option Addr} {l : List Int} (h : Own B a ao l) (f : Below a.heap.size a b) : Own B b ao l := h.fr (Fr.of_below f (fun _ => False)) (fun _ _ k => k)

theorem flds_below {a b : World} {v : Value} {ls : List (List Int)} (h : Flds a v ls) (f : Below a.heap.size a b) : Flds b v ls := by
  obtain ⟨ao, cap, e, hl, t⟩ := h
  refine ⟨ao, cap, e, hl, fun h0 => ?_⟩
  obtain ⟨x, o, e', g⟩ := t h0
  refine ⟨x, o, e', fun i hi => ?_⟩
  obtain ⟨u, hu, hb⟩ := g i hi
  exact ⟨u, (f.cell (p := ⟨x, o + i, none⟩) (World.block_lt_of_cell? a _ hu)).trans hu, hb_below hb f⟩

theorem Own.nilLen {B : Nat} {w : World} {ao : Option Addr} {l : List Int} (h : Own B w ao l) : ao = none → l.length = 0 := by
  intro e
  rcases h with ⟨_, rfl⟩ | ⟨g, _, e', _⟩
  · rfl
  · rw [e'] at e; cases e

/-- From a row of cuts to its parts. -/
theorem flds_of {B : Nat} {w : World} {v : Value} {fs : List (Nat × Nat)} {ao : Option Addr} {cap : Nat} {l : List Int} (hown : w.ownsRow B 29 1 v fs.length (fs.map (cutV ao cap))) (hT : Txt w ao l) (hcap : l.length ≤ cap) (hnc : ao = none → cap = 0)
    (hb : ∀ x ∈ fs, x.1 ≤ x.2 ∧ x.2 ≤ l.length) (hn : fs.length ≤ 2097153) : Flds w v (fs.map (Plain.part l)) := by
  rcases hown.2 with ⟨e, e0⟩ | ⟨g, c, cur, e, _, hh, _, hm, hs, ht⟩
  · refine ⟨none, 0, ?_, by simpa using hn, fun h0 => ?_⟩
    · rw [e, List.length_map, e0]
    · rw [List.length_map, e0] at h0; omega
  · refine ⟨some ⟨g, 0, none⟩, c, by rw [e, List.length_map], by simpa using hn, fun h0 => ⟨g, 0, rfl, fun i hi => ?_⟩⟩
    have hi' : i < fs.length := by simpa using hi
    refine ⟨cutV ao cap fs[i], ?_, ?_⟩
    · have h1 := hown.cells (g := g) (by rw [e]; rfl) i (cutV ao cap fs[i]) (by simp [hi'])
      rw [Addr.add_lit] at h1
      exact h1
    · have hx := hb fs[i] (List.getElem_mem hi')
      refine ⟨cutA ao cap fs[i].1, cap - fs[i].1, ?_, ?_, ?_⟩
      · simp [List.getD, hi', cutV, part_length l fs[i] hx.1 hx.2]
      · intro hn
        have : ao = none := by
          unfold cutA at hn
          split at hn
          · exact hn
          · exact Option.map_eq_none_iff.1 hn
        have := hnc this
        omega
      · simpa [List.getD, hi'] using hT.cut cap hcap fs[i] hx.1 hx.2

/-- The cells of a fresh reader. -/
def fresh : Array Value := #[.nilIface, .slice none 0 0, .int .i64 0, .int .i64 0, .slice none 0 0, .slice none 0 0, .slice none 0 0]

set_option maxHeartbeats 400000 in
theorem newReader (w : World) : Calls Try.prog 14 #[] w fun e w' => e = .returned (.pointer (some ⟨w.heap.size, 0, none⟩)) ∧ w' = w.alloc (.cells fresh 57) := by
  go_enter Try.func14, Try.ntmps14
  go_wp2
  go_ret
  exact ⟨rfl, rfl⟩

set_option maxHeartbeats 400000 in
theorem readerFields (br : Nat) (v : Value) (w : World) (h : w.cell? ⟨br, 4, none⟩ = some v) : Calls Try.prog 17 #[.pointer (some ⟨br, 0, none⟩)] w fun e w' => e = .returned v ∧ w' = w := by
  go_enter Try.func17, Try.ntmps17
  go_wp2
  go_ret
  exact ⟨rfl, rfl⟩

set_option maxHeartbeats 1000000 in
theorem zzsplit (br : Nat) (c0 c1 c2 c3 c5 c6 : Value) (ao0 : Option Addr) (n0 cap0 : Nat) (xs0 : List Value) (ao : Option Addr) (l : List Int) (w : World)
    (hT : Txt w ao l) (hby : ∀ x ∈ l, 0 ≤ x ∧ x < 256) (hsep : ∀ g o, ao = some ⟨g, o, none⟩ → g ≠ br ∧ (Value.slice ao0 n0 cap0).ownBlock ≠ some g)
    (hrd : w.heap[br]? = some (.cells #[c0, c1, c2, c3, .slice ao0 n0 cap0, c5, c6] 57 (0, 0))) (hown : w.ownsRow 0 29 1 (.slice ao0 n0 cap0) n0 xs0) (hne : (Value.slice ao0 n0 cap0).ownBlock ≠ some br) :
    Calls Try.prog 15 #[.pointer (some ⟨br, 0, none⟩), .slice ao l.length l.length] w fun e w' => ∃ v, e = .returned (.bool (gram l 0 0 0).1) ∧
      Inv w br c0 c1 c2 c3 c5 c6 (Value.slice ao0 n0 cap0).ownBlock ao l.length w' v (gram l 0 0 0).2 := by
  have H := hid (split br c0 c1 c2 c3 c5 c6 ao0 n0 cap0 xs0 ao l w hT hby hsep hrd hown hne)
  clear hT hby hsep hrd hown hne
  go_enter Try.func15, Try.ntmps15
  go_wp2_with fail
  refine H.out.mono ?_
  rintro e w' ⟨v, rfl, hI⟩
  have R := hid hI
  clear hI
  go_wp2
  go_ret
  exact ⟨v, rfl, R.out⟩

/-- A fresh reader, the text a row of the call's own below it. -/
theorem splitFresh (br : Nat) (ao : Option Addr) (l : List Int) (w : World) (hl : l.length ≤ 2097152) (hown : Own 0 w ao l) (hby : ∀ x ∈ l, 0 ≤ x ∧ x < 256) (hsep : ∀ g, ao = some ⟨g, 0, none⟩ → g < br) (hrd : w.heap[br]? = some (.cells fresh 57 (0, 0))) :
    Calls Try.prog 15 #[.pointer (some ⟨br, 0, none⟩), .slice ao l.length l.length] w fun e w' => ∃ v, e = .returned (.bool (gram l 0 0 0).1) ∧
      w'.cell? ⟨br, 4, none⟩ = some v ∧ Flds w' v ((gram l 0 0 0).2.map (Plain.part l)) ∧ Below br w w' := by
  have hT := hown.txt hl
  have hbr : br < w.heap.size := (Array.getElem?_eq_some_iff.1 hrd).1
  refine (zzsplit br _ _ _ _ _ _ none 0 0 [] ao l w hT hby ?_ hrd (World.ownsRow_nil _ _ _ _) (by simp [Value.ownBlock])).mono ?_
  · intro g o e
    rcases hown with ⟨e', _⟩ | ⟨g', _, e', _⟩
    · rw [e'] at e; cases e
    · have : g' < br := hsep g' e'
      rw [e'] at e
      have := congrArg Addr.block (Option.some.inj e)
      simp at this
      exact ⟨by omega, by simp [Value.ownBlock]⟩
  · rintro e w' ⟨v, rfl, hI⟩
    have hsepS : ∀ g, ao = some ⟨g, 0, none⟩ → ¬ (g = br ∨ some g = (Value.slice none 0 0).ownBlock) := by
      intro g e k
      have := hsep g e
      rcases k with k | k
      · omega
      · simp [Value.ownBlock] at k
    have hown' := hown.fr hI.fr hsepS
    refine ⟨v, rfl, hI.cell, flds_of hI.own (hown'.txt hl) (Nat.le_refl _) hown'.nilLen ?_ ?_, ?_⟩
    · intro x hx
      have := gram_bounds l 0 0 0 (Nat.le_refl _) (by omega) x hx
      omega
    · have := gram_len l 0 0 0; omega
    · refine hI.fr.below (by omega) ?_
      intro i hi k
      rcases k with k | k
      · omega
      · simp [Value.ownBlock] at k

/-- The same, every large term behind a letter. -/
theorem splitNew (br n : Nat) (ao : Option Addr) (l : List Int) (w : World) (ok : Bool) (ls : List (List Int)) (hok : (gram l 0 0 0).1 = ok) (hls : (gram l 0 0 0).2.map (Plain.part l) = ls) (hn : l.length = n)
    (hl : l.length ≤ 2097152) (hown : Own 0 w ao l) (hby : ∀ x ∈ l, 0 ≤ x ∧ x < 256) (hsep : ∀ g, ao = some ⟨g, 0, none⟩ → g < br) (hrd : w.heap[br]? = some (.cells fresh 57 (0, 0))) :
    Calls Try.prog 15 #[.pointer (some ⟨br, 0, none⟩), .slice ao n n] w fun e w' => ∃ ax cx, e = .returned (.bool ok) ∧
      w'.cell? ⟨br, 4, none⟩ = some (.slice ax ls.length cx) ∧ Flds w' (.slice ax ls.length cx) ls ∧ Below br w w' := by
  subst hok hls hn
  refine (splitFresh br ao l w hl hown hby hsep hrd).mono ?_
  rintro e w' ⟨v, rfl, c, F, B⟩
  obtain ⟨ax, cx, rfl, r⟩ := F
  exact ⟨ax, cx, rfl, c, ⟨ax, cx, rfl, r⟩, B⟩

theorem Own.lt {B : Nat} {w : World} {ao : Option Addr} {l : List Int} (h : Own B w ao l) : ∀ g, ao = some ⟨g, 0, none⟩ → g < w.heap.size := by
  intro g e
  rcases h with ⟨e', _⟩ | ⟨g', _, e', hg⟩
  · rw [e'] at e; cases e
  · rw [e'] at e
    have := congrArg Addr.block (Option.some.inj e)
    simp at this
    have := (Array.getElem?_eq_some_iff.1 hg).1
    omega

theorem Own.zero {B : Nat} {w : World} {ao : Option Addr} {l : List Int} (h : Own B w ao l) : Own 0 w ao l := by
  rcases h with h | ⟨g, _, r⟩
  · exact Or.inl h
  · exact Or.inr ⟨g, Nat.zero_le _, r⟩

end Go.Proofs.Qxb6615032a
