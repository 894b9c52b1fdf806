/-
  The proof of 'Rows.FnSplitMatchesRecordGrammarSaid': the frame is after the tool's shell, the walk is ours.
-/
import Derived.Test.Qxb6615032aRows
import Derived.WalkKit
import Derived.ProofKit
import Derived.OpenShut
import Derived.ShutString
import Derived.ChangeOld
import Derived.Below
import Derived.Test.Qxb6615032aArgs
import Derived.Test.Qxb6615032aGram
import Derived.Deep.Matrix
namespace Go.Proofs.Qxb6615032a.fnSplitMatchesRecordGrammar
open Go.ChangeShapes Go.WideShapes Go.ChangeAt Go.RowKit
open Go.ChangeMaps (open_string shut_string)
set_option linter.unusedVariables false
set_option linter.unusedSimpArgs false

theorem own : ownKnob Try.prog.godebug = none := by kernel_rfl
theorem laidOut : laidOutB Try.prog = true := by kernel_rfl

/-- WHAT THE WALK IS TOLD OF A SLICE OF INTEGERS THAT CAME IN: it is nil; or it leads to a row of 'cap' cells, the numbers 'zs' (the first 'len' are its elements, the rest its spare room), each fitting its kind. -/
def IsRow (k : IntKind) (w : World) (a : Option Addr) (len cap : Nat) (zs : List Int) : Prop :=
  (a = none ∧ len = 0 ∧ cap = 0 ∧ zs = []) ∨
  ∃ x, a = some x ∧ len ≤ cap ∧ cap ≤ maxLen ∧ zs.length = cap ∧ (∀ i, i < zs.length → w.cell? (x.add i) = some (.int k (zs.getD i 0))) ∧ ∀ n ∈ zs, (Lit.int k n).wf = true

/-- WHAT THE WALK IS TOLD OF A SLICE OF SLICES OF BYTES THAT CAME IN. -/
def IsRows (w : World) (a : Option Addr) (len cap : Nat) : Prop :=
  (a = none ∧ len = 0 ∧ cap = 0) ∨
  ∃ (x : Addr) (A : Nat → Option Addr) (L C : Nat → Nat) (Z : Nat → List Int), a = some x ∧ len ≤ cap ∧ cap ≤ maxLen ∧ ∀ r, r < cap → w.cell? (x.add r) = some (.slice (A r) (L r) (C r)) ∧ L r ≤ C r ∧ C r ≤ maxLen ∧ (Z r).length = C r ∧ (∀ n ∈ (Z r : List Int), (Lit.int .u8 n).wf = true) ∧ (A r = none → C r = 0) ∧
    ∀ a' : Addr, A r = some a' → ∀ c, c < C r → w.cell? (a'.add c) = some (.int .u8 ((Z r).getD c 0))

theorem open_rows {w : World} {a : Option Addr} {len cap : Nat} (h : IsRows w a len cap) : ∃ ls : List (List Int), ls.length = len ∧ Raw w (.slice a len cap) ls := by
  rcases h with ⟨rfl, rfl, rfl⟩ | ⟨x, A, L, C, Z, rfl, hl, hm, hr⟩
  · exact ⟨[], rfl, none, 0, rfl, fun _ => rfl, by simp, by simp⟩
  · unfold maxLen at hm
    have key : ∀ r, r < len → ∃ l : List Int, l.length = L r ∧ RowB w (.slice (A r) (L r) (C r)) l := by
      intro r hr'
      obtain ⟨h1, h2, h3, h4, h5, h6, h7⟩ := hr r (by omega)
      obtain ⟨l, k1, k2, k3, k4, k5, k6⟩ := open_row (w := w) (a := A r) (len := L r) (cap := C r) (zs := Z r) (by
        cases hA : A r with
        | none =>
          have hc := h6 hA
          have : Z r = [] := List.eq_nil_of_length_eq_zero (by omega)
          exact Or.inl ⟨rfl, by omega, hc, this⟩
        | some y => exact Or.inr ⟨y, rfl, h2, h3, h4, fun i hi => h7 y hA i (by omega), h5⟩)
      exact ⟨l, k1, A r, C r, by rw [k1], k3, by omega, fun hh => k6 (by omega)⟩
    refine ⟨(List.range len).map fun r => if h : r < len then Classical.choose (key r h) else [], by simp, some x, cap, by simp, by simp, by simp; omega, fun h0 => ?_⟩
    have h0' : 0 < len := by simpa using h0
    obtain ⟨b, o, spot⟩ := x
    have hspot : spot = none := by simpa [Addr.add] using World.cell?_spot (hr 0 (by omega)).1
    subst hspot
    refine ⟨b, o, rfl, fun i hi => ?_⟩
    have hi' : i < len := by simpa using hi
    have hc := Classical.choose_spec (key i hi')
    refine ⟨_, by rw [← Addr.add_lit]; exact (hr i (by omega)).1, ?_⟩
    have e : ((List.range len).map fun r => if h : r < len then Classical.choose (key r h) else []).getD i [] = Classical.choose (key i hi') := by
      simp [List.getD, hi']
    rw [e]
    exact hc.2

/-! ### STEP 1: THE WALK -/
theorem walk (a0 : Option Addr) (len0 cap0 : Nat) (a1 : Option Addr) (len1 cap1 : Nat) (z1 : List Int) (w : World) (w0 : IsRows w a0 len0 cap0) (w1 : IsRow .u8 w a1 len1 cap1 z1) :
    Calls Try.prog 5 #[.slice a0 len0 cap0, .slice a1 len1 cap1] w fun e w' => e = .returned (.bool true) ∧ Below w.heap.size w w' := by
  obtain ⟨ls, _, hR⟩ := open_rows w0
  obtain ⟨lB, rfl, cb, nb, mB, byB, tB⟩ := open_row w1
  exact gram_core _ ls a1 cap1 lB w hR tB cb nb mB byB

/-! ### THE ROW's STEP: WRITTEN OUT: LEAVE IT -/
set_option maxRecDepth 100000 in
theorem lifted (os : Os) (started : os.Started) (H : Type) (enc : TypeId × Value → H) :
    ReturnsInHanded {} Try.checked os 5 .any (Rows.fnSplitMatchesRecordGrammarSpec.pre6 enc Try.prog Try.f5 Rows.fnSplitMatchesRecordGrammarRow.domain false) (Rows.fnSplitMatchesRecordGrammarSpec.post enc Try.prog Try.f5 false true false false) := by
  refine returnsInHanded_of_change (C := Try.checked) own started (by kernel_rfl) Try.func5
    (ChangeSpec.witness6 (enc := enc) (C := Try.checked) false ⟨#[], #[.slice none 0 0, .slice none 0 0], []⟩ 8 (by kernel_rfl) (by kernel_rfl) (by kernel_rfl) (by kernel_rfl)) ?_
  intro W base args ds gs before hval0 hW hcnd _
  have hval : ∀ (j : Nat) t v, Try.f5.params[j]? = some t → args[j]? = some v → Value.okWide Try.prog W .any base t v := hval0
  have hW' := hW
  obtain ⟨p, q, hA0, hV, rfl, hfz, hnd⟩ := hW
  have hA : DataW.TrodAll enc Try.prog W 0 (fun _ => true) true Try.f5.params.toList args.toList ds p := hA0
  rw [Try.params5] at hA hval
  obtain ⟨v0, vs0, d0, ds0, p0, q0, hargs, rfl, rfl, h0, r0⟩ := trodAll_cons hA
  obtain ⟨v1, vs1, d1, ds1, p1, q1, rfl, rfl, rfl, h1, r1⟩ := trodAll_cons r0
  obtain ⟨rfl, rfl, rfl⟩ := trodAll_nil r1
  obtain rfl : args = #[v0, v1] := by cases args; simp_all
  obtain ⟨rfl, rfl⟩ := trodVars_none hV
  obtain ⟨a0, len0, cap0, rfl⟩ := okWide_slice Try.underlying24 (hval 0 24 v0 rfl rfl)
  have k0 := h0
  have lt0 : ∀ x ∈ p0, x.block < W.heap.size := by obtain ⟨m, hm⟩ := k0; exact DataW.trod_lt m _ _ _ hm
  have w0 : IsRows W a0 len0 cap0 := by
    obtain ⟨fuel, hf⟩ := h0
    rcases Go.Deep.open_int_rows Try.underlying24 Try.underlying29 Try.underlying5 (by kernel_rfl) (by kernel_rfl) hf with ⟨hcs, _⟩ | ⟨x, l, c, A, L, C, Z, hcs, _, hl, hm, _, hrows⟩
    · simp [Value.cells] at hcs
      obtain ⟨rfl, rfl, rfl⟩ := hcs
      exact Or.inl ⟨rfl, rfl, rfl⟩
    · simp [Value.cells] at hcs
      obtain ⟨rfl, rfl, rfl⟩ := hcs
      refine Or.inr ⟨x, A, L, C, Z, rfl, hl, hm, fun r hr => ?_⟩
      obtain ⟨e1, e2, e3, e4, e5, e6, e7⟩ := hrows r hr
      exact ⟨e1, e2, e3, e4, e5, e6, fun a' ha => (e7 a' ha).2⟩
  obtain ⟨a1, len1, cap1, rfl⟩ := okWide_slice Try.underlying29 (hval 1 29 v1 rfl rfl)
  have k1 := h1
  have lt1 : ∀ x ∈ p1, x.block < W.heap.size := by obtain ⟨m, hm⟩ := k1; exact DataW.trod_lt m _ _ _ hm
  obtain ⟨z1, w1⟩ : ∃ zs, IsRow .u8 W a1 len1 cap1 zs := by
    obtain ⟨fuel, hf⟩ := h1
    rcases open_ints Try.underlying29 Try.underlying5 (by kernel_rfl) hf with ⟨hcs, _⟩ | ⟨x, l, c, zs, hcs, _, hl, hm, hz, _, hcell, hwz⟩
    · simp [Value.cells] at hcs
      obtain ⟨rfl, rfl, rfl⟩ := hcs
      exact ⟨[], .inl ⟨rfl, rfl, rfl, rfl⟩⟩
    · simp [Value.cells] at hcs
      obtain ⟨rfl, rfl, rfl⟩ := hcs
      exact ⟨zs, .inr ⟨_, rfl, hl, hm, by simpa using hz, hcell, hwz⟩⟩
  clear hA0 hval0
  refine (walk a0 len0 cap0 a1 len1 cap1 z1 W w0 w1).mono fun e W' ⟨he, bel⟩ => ?_
  subst he
  exact ⟨_, rfl, _, _, _, [], _, [], hW', trodAll_mk1 (shut_bool Try.underlying4 _), (trodAll_cons_mk (Below.trod laidOut (by kernel_rfl) (of_decide_eq_true (by kernel_rfl)) k0 bel lt0) (trodAll_cons_mk (Below.trod laidOut (by kernel_rfl) (of_decide_eq_true (by kernel_rfl)) k1 bel lt1) trodAll_mk0)), rfl, bel.frame _, fun h => by cases h⟩

theorem over : Rows.fnSplitMatchesRecordGrammarRow.holds Try.pinned (OpenSpec.ofChange Rows.fnSplitMatchesRecordGrammarSpec) :=
  OpenClaim.holds_of_wide 5 Try.f5 rfl rfl rfl rfl rfl rfl rfl ⟨rfl, rfl, rfl, rfl, rfl⟩ rfl rfl rfl rfl rfl (by kernel_rfl) Try.func5 (by kernel_rfl)
    (of_decide_eq_true (by kernel_rfl)) (by unfold Func.isWrapper; first | (rw [if_pos (by decide +kernel)]; kernel_rfl) | (rw [if_neg (by decide +kernel)]; exact ⟨rfl, rfl⟩))
    (fun os started H enc _ => lifted os started H enc)

/-- ████ THE STATEMENT ████ -/
theorem proved : Rows.FnSplitMatchesRecordGrammarSaid := over
end Go.Proofs.Qxb6615032a.fnSplitMatchesRecordGrammar
