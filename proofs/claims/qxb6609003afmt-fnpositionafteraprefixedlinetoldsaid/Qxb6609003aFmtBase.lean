/-
  WHAT ALL WALKS OF THIS SEAT SHARE: a slice of bytes told by its list; a frame.
-/
import Derived.Test.Qxb6609003aFmtRows
import Derived.Test.Qxb6609003aFmtStop
import Derived.Test.Qxb6609003aFmtPlain
import Derived.WalkKit
import Derived.WalkSpells
import Derived.WalkLawsBesides
import Derived.Deep.QuietTactic
import Derived.BigQuiet
import Derived.Deep.LoopGhost
import Derived.Deep.OwnRows
namespace Go.Proofs.Qxb6609003aFmt
set_option linter.unusedVariables false
set_option linter.unusedSimpArgs false
open Go.RowKit

/-- A fact kept from the walk. -/
theorem hid {p : Prop} (h : p) : Hid p := h

theorem Tryf.cells5 : Tryf.prog.cellsOf 5 = 1 := by kernel_rfl
theorem Tryf.info5 : (Tryf.prog.info? 5).map (fun i => (i.zero, i.size, i.bytes)) = some (some (.int .u8 0), 1, 1) := by kernel_rfl
theorem Tryf.info3 : (Tryf.prog.info? 3).map (fun i => (i.zero, i.size, i.bytes)) = some (some (.int .i64 0), 1, 8) := by kernel_rfl

/-- The slice at 'ao' of l.length bytes holds l. -/
def Txt (w : World) (ao : Option Addr) (l : List Int) : Prop :=
  l.length ≤ 2097152 ∧ (0 < l.length → ∃ b o, ao = some ⟨b, o, none⟩ ∧ ∀ i, i < l.length → w.cell? ⟨b, o + i, none⟩ = some (.int .u8 (l.getD i 0)))

theorem Txt.drewN {w : World} {ao : Option Addr} {l : List Int} (h : Txt w ao l) (q : Nat) : Txt (w.drewN q) ao l := by
  refine ⟨h.1, fun h0 => ?_⟩
  obtain ⟨b, o, e, hc⟩ := h.2 h0
  exact ⟨b, o, e, fun i hi => by simpa using hc i hi⟩

/-- The cells of a row of bytes. -/
def row (l : List Int) : Array Value := (l.map (Value.int .u8)).toArray

theorem row_get (l : List Int) (i : Nat) (h : i < l.length) : (row l)[i]? = some (.int .u8 (l.getD i 0)) := by
  simp [row, List.getD, h]

theorem row_of {l : List Int} {c : Array Value} (hs : c.size = l.length) (h : ∀ j, j < l.length → c[j]? = some (.int .u8 (l.getD j 0))) : c = row l := by
  apply Array.ext
  · simp [row, hs]
  · intro i h1 h2
    have := h i (by omega)
    have r := row_get l i (by omega)
    rw [Array.getElem?_eq_getElem h1] at this
    rw [Array.getElem?_eq_getElem h2] at r
    exact Option.some.inj (this.trans r.symm)

/-- A slice of bytes that a call has made: nil and empty, or the head of a row of its own. -/
def Own (B : Nat) (w : World) (ao : Option Addr) (l : List Int) : Prop :=
  (ao = none ∧ l = []) ∨ ∃ g, B ≤ g ∧ ao = some ⟨g, 0, none⟩ ∧ w.heap[g]? = some (.cells (row l) 5 (0, 0))

theorem cell_of_heap {w : World} {g i : Nat} {c : Array Value} {t : TypeId} {fr : Nat × Nat} (h : w.heap[g]? = some (.cells c t fr)) : w.cell? ⟨g, i, none⟩ = c[i]? := cell_of_row w g i c t fr h

theorem Own.txt {B : Nat} {w : World} {ao : Option Addr} {l : List Int} (h : Own B w ao l) (hl : l.length ≤ 2097152) : Txt w ao l := by
  refine ⟨hl, fun h0 => ?_⟩
  rcases h with ⟨_, e⟩ | ⟨g, _, e, hg⟩
  · subst e; simp at h0
  · exact ⟨g, 0, e, fun i hi => by rw [cell_of_heap hg, Nat.zero_add, row_get l i hi]⟩

/-- Blocks outside S are as they were; the streams are as they were; no block has gone. -/
structure Fr (S : Nat → Prop) (w w' : World) : Prop where
  os : w'.os = w.os
  tape : w'.tape = w.tape
  output : w'.output = w.output
  size : w.heap.size ≤ w'.heap.size
  block : ∀ k, k < w.heap.size → ¬ S k → w'.heap[k]? = w.heap[k]?

theorem Fr.refl (S : Nat → Prop) (w : World) : Fr S w w := ⟨rfl, rfl, rfl, Nat.le_refl _, fun _ _ _ => rfl⟩

theorem Fr.trans {S T U : Nat → Prop} {a b c : World} (h : Fr S a b) (k : Fr T b c) (h1 : ∀ i, i < a.heap.size → S i → U i) (h2 : ∀ i, i < a.heap.size → T i → U i) : Fr U a c :=
  ⟨k.os.trans h.os, k.tape.trans h.tape, k.output.trans h.output, Nat.le_trans h.size k.size,
   fun i hi hu => (k.block i (Nat.lt_of_lt_of_le hi h.size) (fun t => hu (h2 i hi t))).trans (h.block i hi (fun s => hu (h1 i hi s)))⟩

theorem Fr.mono {S T : Nat → Prop} {a b : World} (h : Fr S a b) (h1 : ∀ i, i < a.heap.size → S i → T i) : Fr T a b :=
  ⟨h.os, h.tape, h.output, h.size, fun i hi ht => h.block i hi (fun s => ht (h1 i hi s))⟩

theorem Fr.below {S : Nat → Prop} {a b : World} (h : Fr S a b) {B : Nat} (hB : B ≤ a.heap.size) (h1 : ∀ i, i < B → ¬ S i) : Below B a b :=
  ⟨h.os, h.tape, h.output, h.size, fun i hi => h.block i (by omega) (h1 i hi)⟩

theorem Fr.of_below {a b : World} (h : Below a.heap.size a b) (S : Nat → Prop) : Fr S a b :=
  ⟨h.os, h.tape, h.output, h.size, fun i hi _ => h.block i hi⟩

theorem Fr.drewN {S : Nat → Prop} {a b : World} (h : Fr S a b) (q : Nat) : Fr S a (b.drewN q) :=
  ⟨h.os, h.tape, h.output, h.size, fun i hi hs => h.block i hi hs⟩

theorem Fr.drew {S : Nat → Prop} {a b : World} (h : Fr S a b) : Fr S a b.drew :=
  ⟨h.os, h.tape, h.output, h.size, fun i hi hs => h.block i hi hs⟩

theorem Fr.alloc {S : Nat → Prop} {a b : World} (h : Fr S a b) (o : Obj) : Fr S a (b.alloc o) :=
  ⟨h.os, h.tape, h.output, Nat.le_trans h.size (by simp), fun i hi hs => (Below.heap_alloc b o i (Nat.lt_of_lt_of_le hi h.size)).trans (h.block i hi hs)⟩

theorem Fr.heap {S : Nat → Prop} {a b : World} (h : Fr S a b) {g : Nat} {o : Obj} (hg : a.heap[g]? = some o) (hs : ¬ S g) : b.heap[g]? = some o := by
  have hlt : g < a.heap.size := (Array.getElem?_eq_some_iff.1 hg).1
  rw [h.block g hlt hs]; exact hg

theorem Own.fr {B : Nat} {S : Nat → Prop} {a b : World} {ao : Option Addr} {l : List Int} (h : Own B a ao l) (f : Fr S a b) (hs : ∀ g, ao = some ⟨g, 0, none⟩ → ¬ S g) : Own B b ao l := by
  rcases h with h | ⟨g, hB, e, hg⟩
  · exact Or.inl h
  · exact Or.inr ⟨g, hB, e, f.heap hg (hs g e)⟩

theorem Txt.fr {S : Nat → Prop} {a b : World} {ao : Option Addr} {l : List Int} (h : Txt a ao l) (f : Fr S a b) (hs : ∀ g o, ao = some ⟨g, o, none⟩ → ¬ S g) : Txt b ao l := by
  refine ⟨h.1, fun h0 => ?_⟩
  obtain ⟨g, o, e, hc⟩ := h.2 h0
  refine ⟨g, o, e, fun i hi => ?_⟩
  have c := hc i hi
  have hlt : g < a.heap.size := World.block_lt_of_cell? a _ c
  rw [World.cell?_of_block (w := a) (f.block g hlt (hs g o e))]
  exact c

end Go.Proofs.Qxb6609003aFmt
