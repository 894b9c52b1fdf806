/-
  THE READER's STATE WHILE IT SPLITS: what each append does to it. No walk.
-/
import Derived.Test.Qxb6615032aBase
import Derived.Test.Qxb6615032aShelf
import Derived.Deep.AppendLies
import Derived.Lib.IndexLaws
namespace Go.Proofs.Qxb6615032a
set_option linter.unusedVariables false
set_option linter.unusedSimpArgs false
open Go.RowKit

theorem heap_setCell_at {w : World} {g : Nat} {cs : Array Value} {t : TypeId} {fr : Nat × Nat} (h : w.heap[g]? = some (.cells cs t fr)) (i : Nat) (v : Value) :
    (w.setCell ⟨g, i, none⟩ v).heap[g]? = some (.cells (cs.setIfInBounds i v) t fr) := by
  simp only [World.setCell, Array.getElem?_modify, h, if_true]
  rfl

theorem Fr.setCell {S : Nat → Prop} {a b : World} (h : Fr S a b) {p : Addr} (hp : S p.block) (v : Value) : Fr S a (b.setCell p v) :=
  ⟨h.os, h.tape, h.output, Nat.le_trans h.size (by simp [World.setCell]), fun i hi hs => (Below.heap_setCell b p v i (fun e => hs (e ▸ hp))).trans (h.block i hi hs)⟩

theorem Fr.grown {S : Nat → Prop} {a b c : World} {row : Option Nat} (h : Fr S a b) (g : b.grownBy c row) (hr : ∀ k, row = some k → k < a.heap.size → S k) : Fr S a c :=
  ⟨g.os.trans h.os, g.tape.trans h.tape, g.output.trans h.output, Nat.le_trans h.size g.size,
   fun i hi hs => (g.block i (Nat.lt_of_lt_of_le hi h.size) (fun e => hs (hr i e.symm hi))).trans (h.block i hi hs)⟩

/-- Where 'text[s:]' begins, text at ao, of capacity cap. -/
def cutA (ao : Option Addr) (cap s : Nat) : Option Addr := if cap = s then ao else ao.map (·.add s)
/-- 'text[s:e]' of a slice at ao, of capacity cap. -/
def cutV (ao : Option Addr) (cap : Nat) (x : Nat × Nat) : Value := .slice (cutA ao cap x.1) (x.2 - x.1) (cap - x.1)

theorem size5 (w : World) : (sizeOf (Try.prog.elem 29)).run Try.prog w = .ok 1 w := by kernel_rfl
theorem und29 : Try.prog.underlying 29 = some (.slice (Try.prog.elem 29)) := by kernel_rfl

theorem run_cut (ao : Option Addr) (n cap s e : Nat) (S E : Int) (hS : S = s) (hE : E = e) (h1 : s ≤ e) (h2 : e ≤ cap) (w : World) :
    (Instr.slice 29 (.slice ao n cap) (some (.int .i64 S)) (some (.int .i64 E)) none).run Try.prog w = .ok (.slice (cutA ao cap s) (e - s) (cap - s)) w := by
  subst hS hE
  rw [run_slice_lh w 29 ao n cap und29 .i64 .i64 s e (by omega) (by omega) (by omega), size5]
  simp [Result.andThen, sliced, cutA]

theorem run_cut_l (ao : Option Addr) (n cap s : Nat) (S : Int) (hS : S = s) (h1 : s ≤ n) (w : World) :
    (Instr.slice 29 (.slice ao n cap) (some (.int .i64 S)) none none).run Try.prog w = .ok (.slice (cutA ao cap s) (n - s) (cap - s)) w := by
  subst hS
  rw [run_slice_l w 29 ao n cap und29 .i64 s (by omega) (by omega), size5]
  simp [Result.andThen, sliced, cutA]

theorem part_length (l : List Int) (x : Nat × Nat) (h1 : x.1 ≤ x.2) (h2 : x.2 ≤ l.length) : (Plain.part l x).length = x.2 - x.1 := by
  simp [Plain.part]; omega

/-- A cut holds the part. -/
theorem Txt.cut {w : World} {ao : Option Addr} {l : List Int} (h : Txt w ao l) (cap : Nat) (hc : l.length ≤ cap) (x : Nat × Nat) (h1 : x.1 ≤ x.2) (h2 : x.2 ≤ l.length) : Txt w (cutA ao cap x.1) (Plain.part l x) := by
  have hl := part_length l x h1 h2
  refine ⟨by have := h.1; omega, fun h0 => ?_⟩
  obtain ⟨b, o, e, hcell⟩ := h.2 (by omega)
  refine ⟨b, o + x.1, ?_, fun i hi => ?_⟩
  · rw [cutA, if_neg (by omega), e]; simp [Addr.add]
  · rw [Nat.add_assoc, hcell (x.1 + i) (by omega)]
    have : i < x.2 - x.1 := by omega
    simp [Plain.part, List.getD, List.getElem?_take, this]

/-- The reader at block br, while it splits: w: the world at the call; b0: the block of the fields that it held. -/
structure Inv (w : World) (br : Nat) (c0 c1 c2 c3 c5 c6 : Value) (b0 : Option Nat) (ao : Option Addr) (cap : Nat) (wr : World) (v : Value) (fs : List (Nat × Nat)) : Prop where
  rd : wr.heap[br]? = some (.cells #[c0, c1, c2, c3, v, c5, c6] 57 (0, 0))
  own : wr.ownsRow 0 29 1 v fs.length (fs.map (cutV ao cap))
  blk : v.ownBlock = b0 ∨ ∃ g, v.ownBlock = some g ∧ w.heap.size ≤ g
  fr : Fr (fun k => k = br ∨ some k = b0) w wr

section
variable {w : World} {br : Nat} {c0 c1 c2 c3 c5 c6 : Value} {b0 : Option Nat} {ao : Option Addr} {cap : Nat} {wr : World} {v : Value} {fs : List (Nat × Nat)}

theorem Inv.cell (h : Inv w br c0 c1 c2 c3 c5 c6 b0 ao cap wr v fs) : wr.cell? ⟨br, 4, none⟩ = some v := by rw [cell_of_heap h.rd]; rfl
theorem Inv.free (h : Inv w br c0 c1 c2 c3 c5 c6 b0 ao cap wr v fs) : wr.frozen? ⟨br, 4, none⟩ = false := by simp [World.frozen?, h.rd]
theorem Inv.far (h : Inv w br c0 c1 c2 c3 c5 c6 b0 ao cap wr v fs) (hb : br < w.heap.size) (h0 : b0 ≠ some br) : v.ownBlock ≠ some br := by
  rcases h.blk with e | ⟨g, e, hg⟩
  · rw [e]; exact h0
  · rw [e]; intro x; have := Option.some.inj x; omega
theorem Inv.lt (h : Inv w br c0 c1 c2 c3 c5 c6 b0 ao cap wr v fs) : br < wr.heap.size := (Array.getElem?_eq_some_iff.1 h.rd).1

/-- One append, stored back. -/
theorem Inv.push (h : Inv w br c0 c1 c2 c3 c5 c6 b0 ao cap wr v fs) (hb : br < w.heap.size) (h0 : b0 ≠ some br) {x : Nat × Nat} {g n cp : Nat} {w0 w1 : World} (hw0 : Fr (fun _ => False) wr w0) (hs : wr.heap.size ≤ g ∨ v.ownBlock = some g)
    (hown : w1.ownsRow 0 29 1 (.slice (some ⟨g, 0, none⟩) n cp) n (fs.map (cutV ao cap) ++ [cutV ao cap x])) (hn : n = fs.length + 1)
    (hgrow : w0.grownBy w1 v.ownBlock) (hlt : g < w1.heap.size) : Inv w br c0 c1 c2 c3 c5 c6 b0 ao cap (w1.setCell ⟨br, 4, none⟩ (.slice (some ⟨g, 0, none⟩) n cp)) (.slice (some ⟨g, 0, none⟩) n cp) (fs ++ [x]) := by
  have hfar := h.far hb h0
  have hbr : br < w0.heap.size := Nat.lt_of_lt_of_le h.lt hw0.size
  have r0 : w1.heap[br]? = some (.cells #[c0, c1, c2, c3, v, c5, c6] 57 (0, 0)) := by
    rw [hgrow.block br hbr (fun e => hfar e.symm), hw0.block br h.lt (fun f => f)]; exact h.rd
  have hg : g ≠ br := by
    rintro rfl
    rcases hs with hs | hs
    · have := h.lt; omega
    · exact hfar hs
  refine ⟨?_, ?_, ?_, ?_⟩
  · rw [heap_setCell_at r0]; rfl
  · subst hn
    refine ⟨?_, ?_⟩
    · simp
    · rcases hown.2 with ⟨e, _⟩ | ⟨g', cap', cur, hv, hbs, hh, r⟩
      · cases e
      · refine Or.inr ⟨g', cap', cur, ?_, hbs, ?_, ?_⟩
        · simpa using hv
        · have e : g = g' := by injection hv with e1 _ _; injection e1 with e1; injection e1
          subst e
          rw [Below.heap_setCell _ _ _ _ hg]; exact hh
        · simpa using r
  · rcases hs with hs | hs
    · exact Or.inr ⟨g, rfl, Nat.le_trans h.fr.size hs⟩
    · rcases h.blk with e | ⟨g', e, hg'⟩
      · left; rw [← e, hs]; rfl
      · right; exact ⟨g', by rw [← e, hs]; rfl, hg'⟩
  · have f1 : Fr (fun k => k = br ∨ some k = b0) w w0 := h.fr.trans hw0 (fun _ _ s => s) (fun _ _ f => f.elim)
    refine (f1.grown hgrow ?_).setCell (Or.inl rfl) _
    intro k hk hlt
    rcases h.blk with e | ⟨g', e, hg'⟩
    · right; rw [← e, hk]
    · rw [hk] at e; have := Option.some.inj e; omega
end

/-! ### The search for the closing quote -/
open Plain

theorem gram_skip (r : List Int) (d s p : Nat) (hd : d < r.length) (h1 : r.getD d 0 = 34) (h2 : ∀ j, j < d → r.getD j 0 ≠ 34) : gram r 1 s p = gram (r.drop (d + 1)) 2 s (p + d + 1) := by
  induction r generalizing d p with
  | nil => simp at hd
  | cons c r ih =>
    cases d with
    | zero =>
      have hc : c = 34 := by simpa using h1
      simp [gram, hc]
    | succ d =>
      have hc : c ≠ 34 := by simpa using h2 0 (by omega)
      have := ih d (p + 1) (by simpa using hd) (by simpa using h1) (fun j hj => by simpa using h2 (j + 1) (by omega))
      rw [show p + (d + 1) + 1 = p + 1 + d + 1 by omega]
      simpa [gram, hc] using this

theorem byte_inj {x : Int} (h0 : 0 ≤ x) (h1 : x < 256) (h : UInt8.ofNat x.toNat = (34 : Int).toNat.toUInt8) : x = 34 := by
  have e := congrArg UInt8.toNat h
  simp at e
  omega

/-- What bytes.IndexByte says, in plain numbers. -/
theorem index_plain (r : List Int) (hb : ∀ x ∈ r, 0 ≤ x ∧ x < 256) :
    (Lib.indexByte (Lib.bytesOf r) (34 : Int).toNat.toUInt8 = -1 ∧ ∀ x ∈ r, x ≠ 34) ∨
    ∃ d : Nat, Lib.indexByte (Lib.bytesOf r) (34 : Int).toNat.toUInt8 = d ∧ d < r.length ∧ r.getD d 0 = 34 ∧ ∀ j, j < d → r.getD j 0 ≠ 34 := by
  have hge := Lib.indexByte_ge (Lib.bytesOf r) (34 : Int).toNat.toUInt8
  have get : ∀ k : Nat, (Lib.bytesOf r)[k]? = r[k]?.map fun n : Int => UInt8.ofNat n.toNat := fun k => by simp [Lib.bytesOf]
  by_cases hm : Lib.indexByte (Lib.bytesOf r) (34 : Int).toNat.toUInt8 = -1
  · left
    refine ⟨hm, fun x hx e => ?_⟩
    obtain ⟨k, hk, rfl⟩ := List.getElem_of_mem hx
    refine Lib.indexByte_none hm k ?_
    rw [get k, List.getElem?_eq_getElem hk, e]; rfl
  · right
    obtain ⟨d, hd⟩ := Int.eq_ofNat_of_zero_le (show 0 ≤ Lib.indexByte (Lib.bytesOf r) (34 : Int).toNat.toUInt8 by omega)
    obtain ⟨s1, s2⟩ := Lib.indexByte_some hd
    rw [get d] at s1
    obtain ⟨y, hy, ey⟩ := Option.map_eq_some_iff.1 s1
    have hlt : d < r.length := (List.getElem?_eq_some_iff.1 hy).1
    have hmem : y ∈ r := List.mem_of_getElem? hy
    have hy34 := byte_inj (hb y hmem).1 (hb y hmem).2 ey
    refine ⟨d, hd, hlt, by simp [List.getD, hy, hy34], fun j hj e => s2 j hj ?_⟩
    have hjl : j < r.length := by omega
    rw [get j, List.getElem?_eq_getElem hjl]
    have : r[j] = 34 := by simpa [List.getD, hjl] using e
    rw [this]; rfl

/-- The quote that closes. -/
theorem indexQuote (ao : Option Addr) (l : List Int) (w : World) (k : Nat) (hk : k ≤ l.length) (h0 : 0 < l.length) (hT : Txt w ao l) (D : Int) (hD : Lib.indexByte (Lib.bytesOf (l.drop k)) (34 : Int).toNat.toUInt8 = D) :
    Calls Try.prog 31 #[.slice (cutA ao l.length k) (l.length - k) (l.length - k), .int .u8 34] w fun e w' => e = .returned (.int .i64 D) ∧ w' = w := by
  obtain ⟨b, o, e, hc⟩ := hT.2 h0
  subst hD
  have hx : (l.drop k).length = l.length - k := by simp
  by_cases hkl : l.length = k
  · have ea : cutA ao l.length k = some ⟨b, o, none⟩ := by rw [cutA, if_pos hkl, e]
    rw [ea]
    exact Try.bytes_IndexByte_at ⟨b, o, none⟩ _ _ (l.drop k) 34 w hx (fun i hi => by omega)
  · have ea : cutA ao l.length k = some ⟨b, o + k, none⟩ := by rw [cutA, if_neg hkl, e]; simp [Addr.add]
    rw [ea]
    refine Try.bytes_IndexByte_at ⟨b, o + k, none⟩ _ _ (l.drop k) 34 w hx (fun i hi => ?_)
    rw [Addr.add_lit, Nat.add_assoc, hc (k + i) (by omega)]
    simp [List.getD]

/-! ### The grammar at a place in the text -/
theorem drop_at (l : List Int) (p : Nat) (h : p < l.length) : l.drop p = l.getD p 0 :: l.drop (p + 1) := by
  rw [List.drop_eq_getElem_cons h]; simp [List.getD, h]

theorem at_comma (l : List Int) (s p : Nat) (h : p < l.length) (hc : l.getD p 0 = 44) :
    gram (l.drop p) 0 s p = ((gram (l.drop (p + 1)) 0 (p + 1) (p + 1)).1, (s, p) :: (gram (l.drop (p + 1)) 0 (p + 1) (p + 1)).2) := by
  rw [drop_at l p h, hc]; simp [gram]

theorem at_plain (l : List Int) (s p : Nat) (h : p < l.length) (hc : l.getD p 0 ≠ 44) (hq : l.getD p 0 ≠ 34) :
    gram (l.drop p) 0 s p = gram (l.drop (p + 1)) 0 s (p + 1) := by
  rw [drop_at l p h]; simp only [gram]; rw [if_neg (by omega), if_neg (by omega), if_neg hc, if_neg hq]

theorem at_bad (l : List Int) (s p : Nat) (h : p < l.length) (hq : l.getD p 0 = 34) (hs : s ≠ p) : gram (l.drop p) 0 s p = (false, []) := by
  rw [drop_at l p h, hq]; simp [gram, hs]

theorem at_open (l : List Int) (p : Nat) (h : p < l.length) (hq : l.getD p 0 = 34) : gram (l.drop p) 0 p p = gram (l.drop (p + 1)) 1 (p + 1) (p + 1) := by
  rw [drop_at l p h, hq]; simp [gram]

theorem at_unclosed (l : List Int) (p : Nat) (h : p < l.length) (hq : l.getD p 0 = 34) (hn : ∀ x ∈ l.drop (p + 1), x ≠ 34) : gram (l.drop p) 0 p p = (false, []) := by
  rw [at_open l p h hq, gram_quoted_free _ _ _ hn]

theorem at_closed (l : List Int) (p d : Nat) (h : p < l.length) (hq : l.getD p 0 = 34) (hd : d < (l.drop (p + 1)).length) (h1 : (l.drop (p + 1)).getD d 0 = 34) (h2 : ∀ j, j < d → (l.drop (p + 1)).getD j 0 ≠ 34) :
    gram (l.drop p) 0 p p = gram (l.drop (d + p + 2)) 2 (p + 1) (d + p + 2) := by
  rw [at_open l p h hq, gram_skip _ d _ _ hd h1 h2, List.drop_drop, show p + 1 + (d + 1) = d + p + 2 by omega, show p + 1 + d + 1 = d + p + 2 by omega]

theorem at_last (l : List Int) (s q : Nat) (h : q + 1 = l.length) : gram (l.drop (q + 1)) 2 s (q + 1) = (true, [(s, q)]) := by
  rw [List.drop_of_length_le (by omega)]; simp [gram]

theorem at_behind (l : List Int) (s q : Nat) (h : q + 1 < l.length) (hc : l.getD (q + 1) 0 ≠ 44) : gram (l.drop (q + 1)) 2 s (q + 1) = (false, []) := by
  rw [drop_at l (q + 1) h]; simp only [gram]; rw [if_neg (by omega), if_pos trivial, if_neg hc]

theorem at_next (l : List Int) (s q : Nat) (h : q + 1 < l.length) (hc : l.getD (q + 1) 0 = 44) :
    gram (l.drop (q + 1)) 2 s (q + 1) = ((gram (l.drop (q + 2)) 0 (q + 2) (q + 2)).1, (s, q) :: (gram (l.drop (q + 2)) 0 (q + 2) (q + 2)).2) := by
  rw [drop_at l (q + 1) h, hc]; simp [gram]

theorem at_end (l : List Int) (s p : Nat) (h : l.length ≤ p) : gram (l.drop p) 0 s p = (true, [(s, p)]) := by
  rw [List.drop_of_length_le h]; simp [gram]

/-- fs has been read, what is left reads from (s, p). -/
def Left (l : List Int) (s p : Nat) (fs : List (Nat × Nat)) : Prop := gram l 0 0 0 = ((gram (l.drop p) 0 s p).1, fs ++ (gram (l.drop p) 0 s p).2)

theorem Left.start (l : List Int) : Left l 0 0 [] := by simp [Left]

theorem Left.len {l : List Int} {s p : Nat} {fs : List (Nat × Nat)} (h : Left l s p fs) : fs.length ≤ l.length + 1 := by
  have := gram_len l 0 0 0
  rw [h] at this
  simp at this
  omega

theorem Left.is {l : List Int} {s p : Nat} {fs : List (Nat × Nat)} (h : Left l s p fs) {b : Bool} {r : List (Nat × Nat)} (e : gram (l.drop p) 0 s p = (b, r)) : gram l 0 0 0 = (b, fs ++ r) := by
  rw [h, e]

theorem Left.go {l : List Int} {s p s' p' : Nat} {fs : List (Nat × Nat)} {x : Nat × Nat} (h : Left l s p fs) (e : gram (l.drop p) 0 s p = ((gram (l.drop p') 0 s' p').1, x :: (gram (l.drop p') 0 s' p').2)) : Left l s' p' (fs ++ [x]) := by
  unfold Left; rw [h, e]; simp

theorem Left.on {l : List Int} {s p s' p' : Nat} {fs : List (Nat × Nat)} (h : Left l s p fs) (e : gram (l.drop p) 0 s p = gram (l.drop p') 0 s' p') : Left l s' p' fs := by
  unfold Left; rw [h, e]

end Go.Proofs.Qxb6615032a
