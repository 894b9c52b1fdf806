/-
  checkName, checkPackage, PackageMountDir.
-/
import Derived.Test.Qxb6609099aFmtCheck
import Derived.Lib.SmallJoins
namespace Go.Proofs.Qxb6609099aFmt
set_option linter.unusedVariables false
set_option linter.unusedSimpArgs false
open Go.RowKit Plain
open Go.Extern.Stop Go.Stop Go.Extern

def nameT : ByteArray := ⟨#[112, 97, 99, 107, 97, 103, 101, 32, 110, 97, 109, 101]⟩

theorem name_ok (s : ByteArray) (w : World) (hs : s.size ≤ 1048576) (h : Ok s.data.toList) : Calls Tryf.prog 29 #[.string s] w fun e w' => e = .returned .nilIface ∧ Below w.heap.size w w' := by
  have HC := hid (check_ok nameT s w hs h)
  go_enter Tryf.func29, Tryf.ntmps29
  go_wp2_with fail
  refine HC.out.mono ?_
  rintro e w1 ⟨rfl, B1⟩
  have HB1 := hid B1
  clear B1 HC
  go_wp2
  go_ret
  exact ⟨rfl, HB1.out⟩
theorem name_bad (G : Interp) (s : ByteArray) (w : World) (hG : G.answers w.tape) (hs : s.size ≤ 1048576) (h : ¬ Ok s.data.toList) : Calls Tryf.prog 29 #[.string s] w fun e w' => IsErr e ∧ Below w.heap.size w w' := by
  have HC := hid (check_bad G nameT s w hG hs h)
  clear hG h
  go_enter Tryf.func29, Tryf.ntmps29
  go_wp2_with fail
  refine HC.out.mono ?_
  rintro e w1 ⟨⟨a, rfl⟩, B1⟩
  have HB1 := hid B1
  clear B1 HC
  go_wp2
  go_ret
  exact ⟨⟨a, rfl⟩, HB1.out⟩

set_option maxHeartbeats 1000000 in
theorem pack_ok (s : ByteArray) (rev : Int) (w : World) (hs : s.size ≤ 1048576) (h : Ok s.data.toList) (hr : 1 ≤ rev) : Calls Tryf.prog 24 #[.string s, .int .i64 rev] w fun e w' => e = .returned .nilIface ∧ Below w.heap.size w w' := by
  have HC := hid (name_ok s w hs h)
  have hr2 : ¬ rev < 1 := by omega
  clear h hr
  go_enter Tryf.func24, Tryf.ntmps24
  go_wp2_with fail
  refine HC.out.mono ?_
  rintro e w1 ⟨rfl, B1⟩
  have HB1 := hid B1
  clear B1 HC
  go_wp2
  go_ret
  exact ⟨rfl, HB1.out⟩

set_option maxHeartbeats 1000000 in
theorem pack_bad (G : Interp) (s : ByteArray) (rev : Int) (w : World) (hG : G.answers w.tape) (hs : s.size ≤ 1048576) (h : ¬ (Ok s.data.toList ∧ 1 ≤ rev)) : Calls Tryf.prog 24 #[.string s, .int .i64 rev] w fun e w' => IsErr e ∧ Below w.heap.size w w' := by
  by_cases hok : Ok s.data.toList
  · have hr : rev < 1 := by
      rcases Int.lt_or_le rev 1 with h' | h'
      · exact h'
      · exact absurd ⟨hok, h'⟩ h
    have HC := hid (name_ok s w hs hok)
    have HG := hid hG
    clear h hok hG
    go_enter Tryf.func24, Tryf.ntmps24
    go_wp2_with fail
    refine HC.out.mono ?_
    rintro e w1 ⟨rfl, B1⟩
    have hs1 := B1.size
    have K : Hid (Calls Tryf.prog 27 #[.string fmtB, .slice (some ⟨w1.heap.size, 0, none⟩) 2 2] (w1.alloc (.cells #[.iface 9 (.string s), .iface 3 (.int .i64 rev)] 20)) fun e w' => IsErr e ∧ Below w.heap.size w w') :=
      (errB G s rev w1.heap.size (w1.alloc (.cells #[.iface 9 (.string s), .iface 3 (.int .i64 rev)] 20)) (by show G.answers w1.tape; rw [B1.tape]; exact HG.out) (by simp) (by simp)).mono fun e w' ⟨h1, h2⟩ => ⟨h1, (B1.alloc B1.size _).trans (h2.mono (by simp; omega))⟩
    clear B1 HC
    go_wp2_with fail
    refine K.out.mono ?_
    rintro e w2 ⟨⟨a, rfl⟩, B2⟩
    have HB2 := hid B2
    clear B2
    go_wp2
    go_ret
    exact ⟨⟨a, rfl⟩, HB2.out⟩
  · have HC := hid (name_bad G s w hG hs hok)
    clear h hG
    go_enter Tryf.func24, Tryf.ntmps24
    go_wp2_with fail
    refine HC.out.mono ?_
    rintro e w1 ⟨⟨a, rfl⟩, B1⟩
    have HB1 := hid B1
    clear B1 HC
    go_wp2
    go_ret
    exact ⟨⟨a, rfl⟩, HB1.out⟩

/-- The table that strconv reads. -/
def powName : String := (Rows.fnPackageMountDirExactRow.laid.map (·.1)).getD 2 ""
def Tab (w : World) : Prop := Lib.TabIs Tryf.prog w powName .u64 Lib.pow10Tab

theorem itoa (rev : Nat) (w : World) (hr : rev ≤ 9223372036854775807) (ht : Tab w) : Calls Tryf.prog 25 #[.int .i64 (rev : Int)] w fun e w' => e = .returned (.string ⟨(Lib.decDigits rev).toArray⟩) ∧ Below w.heap.size w w' := by
  refine (Any.strconv_Itoa Tryf.laysM171 (rev : Int) (by omega) (by omega) w ht).mono ?_
  rintro e w' ⟨rfl, k, os, rfl⟩
  refine ⟨by rw [Lib.itoa_nonneg], ?_⟩
  exact ⟨rfl, rfl, rfl, by simp [Sort.grow], fun k hk => by simp only [Sort.grow]; exact Array.getElem?_append_left hk⟩

theorem Tab.stays {w w' : World} (h : Tab w) (hb : Below w.heap.size w w') : Tab w' :=
  Joins.tab_stays (g := 0) (by kernel_rfl) h hb (Nat.le_refl _)

theorem size_list (s : ByteArray) : s.size = s.data.toList.length := by rw [Array.length_toList]; rfl

theorem ok_el {l : List UInt8} (h : Ok l) : El l := by
  refine ⟨h.1, h.2.1, h.2.2.1, fun hm => ?_⟩
  have := h.2.2.2
  unfold has at this
  rw [Bool.or_eq_false_iff] at this
  have h1 := this.1
  rw [List.contains_eq_mem, decide_eq_false_iff_not] at h1
  exact h1 hm

theorem join4 (dir name : ByteArray) (rev bk : Nat) (w : World) (hd : dir.size ≤ 1048576) (hn : name.size ≤ 1048576) (hr : rev ≤ 9223372036854775807) (hok : Ok name.data.toList)
    (c0 : w.cell? ⟨bk, 0, none⟩ = some (.string dir)) (c1 : w.cell? ⟨bk, 1, none⟩ = some (.string ⟨#[115, 110, 97, 112]⟩)) (c2 : w.cell? ⟨bk, 2, none⟩ = some (.string name)) (c3 : w.cell? ⟨bk, 3, none⟩ = some (.string ⟨(Lib.decDigits rev).toArray⟩)) :
    Calls Tryf.prog 21 #[.slice (some ⟨bk, 0, none⟩) 4 4] w fun e w' => e = .returned (.string ⟨(pre dir.data.toList ++ mnt name.data.toList rev).toArray⟩) ∧ Below w.heap.size w w' := by
  have hl := dec_len rev (by omega)
  have h := Tryf.filepath_Join_rules bk 0 4 [dir, ⟨#[115, 110, 97, 112]⟩, name, ⟨(Lib.decDigits rev).toArray⟩] w (by
    intro j x hj
    rcases j with _ | _ | _ | _ | j
    · simp at hj; subst hj; exact c0
    · simp at hj; subst hj; exact c1
    · simp at hj; subst hj; exact c2
    · simp at hj; subst hj; exact c3
    · simp at hj) (World.block_lt_of_cell? w _ c0) (by simp) (by
    simp [Lib.lens]
    have e1 := size_list dir
    have e2 := size_list name
    rw [Array.length_toList] at e1 e2
    omega)
  have e : Lib.Pa.join ([dir, ⟨#[115, 110, 97, 112]⟩, name, ⟨(Lib.decDigits rev).toArray⟩].map (·.data.toList)) = pre dir.data.toList ++ mnt name.data.toList rev := join_mnt dir.data.toList name.data.toList rev (ok_el hok)
  rw [e] at h
  exact h

theorem itoaB (rev : Nat) (w W : World) (ht : Tab w) (hb : Below w.heap.size w W) (hr : rev ≤ 9223372036854775807) : Calls Tryf.prog 25 #[.int .i64 (rev : Int)] W fun e w' => e = .returned (.string ⟨(Lib.decDigits rev).toArray⟩) ∧ Below w.heap.size w w' :=
  (itoa rev W hr (ht.stays hb)).mono fun e w' ⟨h1, h2⟩ => ⟨h1, hb.trans (h2.mono hb.size)⟩

set_option maxHeartbeats 4000000 in
theorem mount_ok (dir name : ByteArray) (rev : Nat) (w : World) (ht : Tab w) (hd : dir.size ≤ 1048576) (hn : name.size ≤ 1048576) (hr0 : 1 ≤ rev) (hr : rev ≤ 9223372036854775807) (hok : Ok name.data.toList) :
    Calls Tryf.prog 14 #[.agg #[.string dir], .string name, .int .i64 (rev : Int)] w fun e w' => e = .returned (.tuple #[.string ⟨(pre dir.data.toList ++ mnt name.data.toList rev).toArray⟩, .nilIface]) ∧ Below w.heap.size w w' := by
  have HT := hid ht
  have HOk := hid hok
  clear ht hok
  go_enter Tryf.func14, Tryf.ntmps14
  go_wp2_with fail
  refine (pack_ok name (rev : Int) _ hn HOk.out (by omega)).mono ?_
  rintro e w1 ⟨rfl, B1⟩
  have hcell : w1.cell? ⟨w.heap.size, 0, none⟩ = some (.string dir) := by
    rw [B1.cell (p := ⟨w.heap.size, 0, none⟩) (by simp)]; simp
  have hB : Below w.heap.size w w1 := ((Below.refl w.heap.size w).alloc (Nat.le_refl _) _).trans (B1.mono (by simp))
  have HB := hid hB
  have HC := hid hcell
  have HT1 := hid (HT.out.stays hB)
  have hsz : w.heap.size < w1.heap.size := World.block_lt_of_cell? _ _ hcell
  clear B1 hB
  go_wp2_with fail
  go_region_with (first | (go_at_call 25; refine (itoaB rev w1 _ HT1.out (by first | exact Below.refl _ _ | exact (Below.refl _ _).drew | exact below_drewN (Below.refl _ _) _ | exact ((Below.refl _ _).drew).drew) hr).mono ?_; rintro e w2 ⟨rfl, B2⟩; have hc2 : w2.cell? ⟨w.heap.size, 0, none⟩ = some (.string dir) := (B2.cell (p := ⟨w.heap.size, 0, none⟩) hsz).trans HC.out; have hz2 := B2.size; have HB2 := hid B2; clear B2) | (go_at_call 21; refine (join4 dir name rev _ _ hd hn hr HOk.out (by simp) (by simp) (by simp) (by simp)).mono ?_; rintro e w3 ⟨rfl, B3⟩; have HB3 := hid B3; clear B3))
  all_goals go_wp2
  all_goals go_ret2
  all_goals exact ⟨rfl, ((HB.out.trans (HB2.out.mono (Nat.le_of_lt hsz))).alloc (by omega) _).trans (HB3.out.mono (by simp; omega))⟩

def IsRefused (e : Ending) : Prop := ∃ a : Addr, e = .returned (.tuple #[.string ⟨#[]⟩, .iface 60 (.pointer (some a))])

set_option maxHeartbeats 4000000 in
theorem mount_bad (G : Interp) (dir name : ByteArray) (rev : Int) (w : World) (hG : G.answers w.tape) (hn : name.size ≤ 1048576) (h : ¬ (Ok name.data.toList ∧ 1 ≤ rev)) :
    Calls Tryf.prog 14 #[.agg #[.string dir], .string name, .int .i64 rev] w fun e w' => IsRefused e ∧ Below w.heap.size w w' := by
  have HG := hid hG
  have HN := hid h
  clear hG h
  go_enter Tryf.func14, Tryf.ntmps14
  go_wp2_with fail
  refine (pack_bad G name rev (w.alloc (.cells #[.string dir] 24)) HG.out hn HN.out).mono ?_
  rintro e w1 ⟨⟨a, rfl⟩, B1⟩
  have HB := hid (((Below.refl w.heap.size w).alloc (Nat.le_refl _) _).trans (B1.mono (by simp)))
  clear B1
  go_wp2
  go_ret2
  exact ⟨⟨a, rfl⟩, HB.out⟩

end Go.Proofs.Qxb6609099aFmt
