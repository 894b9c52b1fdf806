/-
  checkElement, checkName, checkPackage.
-/
import Derived.Test.Qxb6609099aFmtHas
namespace Go.Proofs.Qxb6609099aFmt
set_option linter.unusedVariables false
set_option linter.unusedSimpArgs false
open Go.RowKit Plain
open Go.Extern.Stop Go.Stop Go.Extern
attribute [local go_sem] call32 guardS fmt0 fmt0r fmt1 fmt1r fmt0c fmt1c op3_100 op9_115 op9_113 ptr60 elem60

/-- A name that is let in. -/
def Ok (l : List UInt8) : Prop := l ≠ [] ∧ l ≠ [46] ∧ l ≠ [46, 46] ∧ has l = false

def IsErr (e : Ending) : Prop := ∃ a : Addr, e = .returned (.iface 60 (.pointer (some a)))

set_option maxHeartbeats 1000000 in
theorem errA (G : Interp) (x y : ByteArray) (blk : Nat) (w : World) (hG : G.answers w.tape) (hc0 : w.cell? ⟨blk, 0, none⟩ = some (.iface 9 (.string x))) (hc1 : w.cell? ⟨blk, 1, none⟩ = some (.iface 9 (.string y))) :
    Calls Tryf.prog 27 #[.string fmtA, .slice (some ⟨blk, 0, none⟩) 2 2] w fun e w' => IsErr e ∧ Below w.heap.size w w' := by
  have hF := answers_open hG
  go_enter Tryf.func27, Tryf.ntmps27
  go_wp2
  go_ret
  exact ⟨⟨_, rfl⟩, ((Below.refl _ _).alloc (Nat.le_refl _) _).drew⟩

set_option maxHeartbeats 1000000 in
theorem errB (G : Interp) (x : ByteArray) (y : Int) (blk : Nat) (w : World) (hG : G.answers w.tape) (hc0 : w.cell? ⟨blk, 0, none⟩ = some (.iface 9 (.string x))) (hc1 : w.cell? ⟨blk, 1, none⟩ = some (.iface 3 (.int .i64 y))) :
    Calls Tryf.prog 27 #[.string fmtB, .slice (some ⟨blk, 0, none⟩) 2 2] w fun e w' => IsErr e ∧ Below w.heap.size w w' := by
  have hF := answers_open hG
  go_enter Tryf.func27, Tryf.ntmps27
  go_wp2
  go_ret
  exact ⟨⟨_, rfl⟩, ((Below.refl _ _).alloc (Nat.le_refl _) _).drew⟩

theorem not_empty {s : ByteArray} (h : s.data.toList ≠ []) : s.toList.isEmpty = false := by
  rw [Lib.toList_data]
  cases hl : s.data.toList with
  | nil => exact absurd hl h
  | cons a t => rfl

set_option maxHeartbeats 1000000 in
theorem check_ok (what s : ByteArray) (w : World) (hs : s.size ≤ 1048576) (h : Ok s.data.toList) : Calls Tryf.prog 20 #[.string what, .string s] w fun e w' => e = .returned .nilIface ∧ Below w.heap.size w w' := by
  obtain ⟨h1, h2, h3, h4⟩ := h
  have e1 := not_empty h1
  have e2 : (s.toList == [46]) = false := by rw [Lib.toList_data]; simpa using h2
  have e3 : (s.toList == [46, 46]) = false := by rw [Lib.toList_data]; simpa using h3
  have HC := hid (contains_any s w hs)
  rw [h4] at HC
  clear h1 h2 h3 h4
  go_enter Tryf.func20, Tryf.ntmps20
  go_wp2_with fail
  refine HC.out.mono ?_
  rintro e w1 ⟨rfl, B1⟩
  have HB1 := hid B1
  clear B1 HC
  go_wp2
  go_ret
  exact ⟨rfl, HB1.out⟩

set_option maxHeartbeats 4000000 in
theorem check_bad (G : Interp) (what s : ByteArray) (w : World) (hG : G.answers w.tape) (hs : s.size ≤ 1048576) (h : ¬ Ok s.data.toList) : Calls Tryf.prog 20 #[.string what, .string s] w fun e w' => IsErr e ∧ Below w.heap.size w w' := by
  have HG := hid hG
  have HC := hid (contains_any s w hs)
  have fin : ∀ W : World, Below w.heap.size w W → Hid (Calls Tryf.prog 27 #[.string fmtA, .slice (some ⟨W.heap.size, 0, none⟩) 2 2] (W.alloc (.cells #[.iface 9 (.string what), .iface 9 (.string s)] 20)) fun e w' => IsErr e ∧ Below w.heap.size w w') := fun W hW =>
    (errA G what s W.heap.size (W.alloc (.cells #[.iface 9 (.string what), .iface 9 (.string s)] 20)) (by show G.answers W.tape; rw [hW.tape]; exact hG) (by simp) (by simp)).mono fun e w' ⟨h1, h2⟩ => ⟨h1, (hW.alloc hW.size _).trans (h2.mono (by simp; have := hW.size; omega))⟩
  have HFin := hid fin
  have HN := hid h
  clear h hG fin
  by_cases h1 : s.data.toList = []
  · have e1 : s.toList.isEmpty = true := by rw [Lib.toList_data, h1]; rfl
    have K := HFin.out w (Below.refl _ _)
    clear h1
    go_enter Tryf.func20, Tryf.ntmps20
    go_wp2_with fail
    refine K.out.mono ?_
    rintro e w2 ⟨⟨a, rfl⟩, B2⟩
    have HB2 := hid B2
    clear B2
    go_wp2
    go_ret
    exact ⟨⟨a, rfl⟩, HB2.out⟩
  have e1 := not_empty h1
  by_cases h2 : s.data.toList = [46]
  · have e2 : (s.toList == [46]) = true := by rw [Lib.toList_data, h2]; rfl
    have K := HFin.out w (Below.refl _ _)
    clear h1 h2
    go_enter Tryf.func20, Tryf.ntmps20
    go_wp2_with fail
    refine K.out.mono ?_
    rintro e w2 ⟨⟨a, rfl⟩, B2⟩
    have HB2 := hid B2
    clear B2
    go_wp2
    go_ret
    exact ⟨⟨a, rfl⟩, HB2.out⟩
  have e2 : (s.toList == [46]) = false := by rw [Lib.toList_data]; simpa using h2
  by_cases h3 : s.data.toList = [46, 46]
  · have e3 : (s.toList == [46, 46]) = true := by rw [Lib.toList_data, h3]; rfl
    have K := HFin.out w (Below.refl _ _)
    clear h1 h2 h3
    go_enter Tryf.func20, Tryf.ntmps20
    go_wp2_with fail
    refine K.out.mono ?_
    rintro e w2 ⟨⟨a, rfl⟩, B2⟩
    have HB2 := hid B2
    clear B2
    go_wp2
    go_ret
    exact ⟨⟨a, rfl⟩, HB2.out⟩
  have e3 : (s.toList == [46, 46]) = false := by rw [Lib.toList_data]; simpa using h3
  have h4 : has s.data.toList = true := by
    cases hh : has s.data.toList with
    | true => rfl
    | false => exact absurd ⟨h1, h2, h3, hh⟩ HN.out
  rw [h4] at HC
  clear h1 h2 h3 h4
  go_enter Tryf.func20, Tryf.ntmps20
  go_wp2_with fail
  refine HC.out.mono ?_
  rintro e w1 ⟨rfl, B1⟩
  have K := HFin.out w1 B1
  clear B1 HC
  go_wp2_with fail
  refine K.out.mono ?_
  rintro e w2 ⟨⟨a, rfl⟩, B2⟩
  have HB2 := hid B2
  clear B2
  go_wp2
  go_ret
  exact ⟨⟨a, rfl⟩, HB2.out⟩

end Go.Proofs.Qxb6609099aFmt
