/-
  zzHasSuffix, zzPrefixOK, ZZnewRoot, the bounds, SeccompFilter.
-/
import Derived.Test.Qxb6609099aFmtItoa
namespace Go.Proofs.Qxb6609099aFmt
set_option linter.unusedVariables false
set_option linter.unusedSimpArgs false
open Go.RowKit Plain
open Go.Extern.Stop Go.Stop Go.Extern

theorem cut_from (A T : ByteArray) (p : List UInt8) (hA : A.data.toList = p ++ T.data.toList) (i : Nat) (hi : i = p.length) : A.extract i A.size = T := by
  rw [by_list (s := T) rfl]
  apply by_list
  rw [Lib.extract_data, hA, hi, List.drop_left' rfl, size_list A, hA, List.length_append, List.take_of_length_le (by omega)]
theorem cut_to (A P : ByteArray) (t : List UInt8) (hA : A.data.toList = P.data.toList ++ t) (i : Nat) (hi : i = P.size) : A.extract 0 i = P := by
  rw [by_list (s := P) rfl]
  apply by_list
  rw [Lib.extract_data, hA, hi, List.drop_zero, Nat.sub_zero, size_list P, List.take_left' rfl]

theorem slice_from (A T : ByteArray) (p : List UInt8) (hA : A.data.toList = p ++ T.data.toList) (I : Int) (hI : I = p.length) (w : World) :
    (Instr.slice 9 (.string A) (some (.int .i64 I)) none none).run Tryf.prog w = .ok (.string T) w := by
  have hs : A.size = p.length + T.data.toList.length := by rw [size_list A, hA, List.length_append]
  rw [run_slice_string_from_if w 9 A .i64 I Tryf.underlying9, if_pos (by omega), cut_from A T p hA I.toNat (by omega)]
theorem slice_to (A P : ByteArray) (t : List UInt8) (hA : A.data.toList = P.data.toList ++ t) (I : Int) (hI : I = P.size) (w : World) :
    (Instr.slice 9 (.string A) none (some (.int .i64 I)) none).run Tryf.prog w = .ok (.string P) w := by
  have hs : A.size = P.size + t.length := by rw [size_list A, hA, List.length_append, size_list P]
  rw [run_slice_string_to_if w 9 A .i64 I Tryf.underlying9, if_pos (by omega), cut_to A P t hA I.toNat (by omega)]

set_option maxHeartbeats 1000000 in
theorem suffix_ok (A T : ByteArray) (p : List UInt8) (w : World) (hA : A.data.toList = p ++ T.data.toList) (hs : A.size ≤ 100000000) : Calls Tryf.prog 15 #[.string A, .string T] w fun e w' => e = .returned (.bool true) ∧ w' = w := by
  have hsz : A.size = p.length + T.size := by rw [size_list A, hA, List.length_append, size_list T]
  have hge : (T.size : Int) ≤ (A.size : Int) := by omega
  have hsl := slice_from A T p hA ((A.size : Int) - (T.size : Int)) (by omega)
  clear hA hsz
  go_enter Tryf.func15, Tryf.ntmps15
  go_wp2
  go_ret
  exact ⟨rfl, rfl⟩

set_option maxHeartbeats 1000000 in
theorem prefix_ok (P : ByteArray) (w : World) (h : P.data.toList = [] ∨ ∃ q, P.data.toList = q ++ [47]) (hs : P.size ≤ 100000000) : Calls Tryf.prog 16 #[.string P] w fun e w' => e = .returned (.bool true) ∧ w' = w := by
  rcases h with h | ⟨q, h⟩
  · have e1 : P.toList.isEmpty = true := by rw [Lib.toList_data, h]; rfl
    clear h
    go_enter Tryf.func16, Tryf.ntmps16
    go_wp2
    go_ret
    exact ⟨rfl, rfl⟩
  · have e1 : P.toList.isEmpty = false := not_empty (by rw [h]; simp)
    have hsz : P.size = q.length + 1 := by rw [size_list P, h]; simp
    have hlt : P.size - 1 < P.size := by omega
    have hidx := run_idx P (P.size - 1) ((P.size : Int) - 1) (by omega) hlt
    have hv : (P[P.size - 1]'hlt) = 47 := by
      have h1 := Lib.data_getElem? P (P.size - 1) hlt
      have h3 : P.data.toList[P.size - 1]? = some 47 := by rw [h, show P.size - 1 = q.length by omega]; simp
      exact Option.some.inj (h1.symm.trans h3)
    rw [hv] at hidx
    have e47 : (((47 : UInt8).toNat : Nat) : Int) = 47 := rfl
    rw [e47] at hidx
    have hpos : 0 < P.size := by omega
    clear h hv hsz hlt
    go_enter Tryf.func16, Tryf.ntmps16
    go_wp2
    go_ret
    exact ⟨rfl, rfl⟩

set_option maxHeartbeats 1000000 in
theorem newRoot (dir : ByteArray) (w : World) : Calls Tryf.prog 8 #[.string dir] w fun e w' => e = .returned (.agg #[.string dir]) ∧ Below w.heap.size w w' := by
  go_enter Tryf.func8, Tryf.ntmps8
  go_wp2
  exact bodyPost_ret (v := .agg #[.string dir]) (by simp [results, Tryf.results8, go_sem]) rfl ⟨rfl, (Below.refl _ _).alloc (Nat.le_refl _) _⟩

def IsBool (e : Ending) : Prop := ∃ v, e = .returned (.bool v)
theorem isBool (v : Bool) : IsBool (.returned (.bool v)) := ⟨v, rfl⟩

theorem bytes13_any (a b : ByteArray) (y : Int) (w : World) : Calls Tryf.prog 13 #[.string a, .string b, .int .i64 y] w fun e w' => IsBool e ∧ w' = w := by
  by_cases h1 : (1048576 < (a.size : Int))
  · go_enter Tryf.func13, Tryf.ntmps13
    go_wp2
    go_ret
    exact ⟨isBool _, rfl⟩
  by_cases h2 : (1048576 < (b.size : Int))
  · go_enter Tryf.func13, Tryf.ntmps13
    go_wp2
    go_ret
    exact ⟨isBool _, rfl⟩
  by_cases h3 : (1048576 < (a.size : Int) + (b.size : Int))
  · go_enter Tryf.func13, Tryf.ntmps13
    go_wp2
    go_ret
    exact ⟨isBool _, rfl⟩
  go_enter Tryf.func13, Tryf.ntmps13
  go_wp2
  go_ret
  exact ⟨isBool _, rfl⟩

theorem bytes18_any (a b : ByteArray) (y : Int) (w : World) : Calls Tryf.prog 18 #[.string a, .string b, .int .i64 y] w fun e w' => IsBool e ∧ w' = w := by
  by_cases h1 : (1048576 < (a.size : Int))
  · go_enter Tryf.func18, Tryf.ntmps18
    go_wp2
    go_ret
    exact ⟨isBool _, rfl⟩
  by_cases h2 : (1048576 < (b.size : Int))
  · go_enter Tryf.func18, Tryf.ntmps18
    go_wp2
    go_ret
    exact ⟨isBool _, rfl⟩
  by_cases h3 : (1048576 < (a.size : Int) + (b.size : Int))
  · go_enter Tryf.func18, Tryf.ntmps18
    go_wp2
    go_ret
    exact ⟨isBool _, rfl⟩
  go_enter Tryf.func18, Tryf.ntmps18
  go_wp2
  go_ret
  exact ⟨isBool _, rfl⟩

theorem bytes19_any (a b : ByteArray) (y z : Int) (w : World) : Calls Tryf.prog 19 #[.string a, .string b, .int .i64 y, .int .i64 z] w fun e w' => IsBool e ∧ w' = w := by
  by_cases h1 : (1048576 < (a.size : Int))
  · go_enter Tryf.func19, Tryf.ntmps19
    go_wp2
    go_ret
    exact ⟨isBool _, rfl⟩
  by_cases h2 : (1048576 < (b.size : Int))
  · go_enter Tryf.func19, Tryf.ntmps19
    go_wp2
    go_ret
    exact ⟨isBool _, rfl⟩
  by_cases h3 : (1048576 < (a.size : Int) + (b.size : Int))
  · go_enter Tryf.func19, Tryf.ntmps19
    go_wp2
    go_ret
    exact ⟨isBool _, rfl⟩
  go_enter Tryf.func19, Tryf.ntmps19
  go_wp2
  go_ret
  exact ⟨isBool _, rfl⟩

/-! ### SeccompFilter -/
def filtT : List UInt8 := [118, 97, 114, 47, 108, 105, 98, 47, 115, 100, 111, 115, 47, 115, 101, 99, 99, 111, 109, 112, 47, 102, 105, 108, 116, 101, 114, 115]
def tagT : ByteArray := ⟨#[115, 101, 99, 117, 114, 105, 116, 121, 32, 116, 97, 103]⟩

theorem filt_els : ∀ e ∈ ([[118, 97, 114], [108, 105, 98], [115, 100, 111, 115], [115, 101, 99, 99, 111, 109, 112], [102, 105, 108, 116, 101, 114, 115]] : List (List UInt8)), El e := by
  unfold El
  decide

theorem join_filt (dir name : List UInt8) (hn : El name) : Lib.Pa.join [dir, filtT, name] = pre dir ++ (filtT ++ 47 :: name) := by
  have hels : Lib.Pa.els filtT = [[118, 97, 114], [108, 105, 98], [115, 100, 111, 115], [115, 101, 99, 99, 111, 109, 112], [102, 105, 108, 116, 101, 114, 115]] := by decide
  rw [join_pre dir filtT [name] ([[118, 97, 114], [108, 105, 98], [115, 100, 111, 115], [115, 101, 99, 99, 111, 109, 112], [102, 105, 108, 116, 101, 114, 115]] ++ [name]) (by decide) ?_ (by decide) ?_ ?_ (by simp)]
  · rw [J_sl _ [name] (by simp)]
    show pre dir ++ (_ ++ ([47] : List UInt8).intercalate [name]) = _
    rw [Lib.Pa.J_one]
    have : sl [[118, 97, 114], [108, 105, 98], [115, 100, 111, 115], [115, 101, 99, 99, 111, 109, 112], [102, 105, 108, 116, 101, 114, 115]] = filtT ++ [47] := by decide
    rw [this]; simp
  · intro z hz; obtain rfl := List.mem_singleton.1 hz; exact hn.1
  · rw [List.flatMap_cons, List.flatMap_cons, List.flatMap_nil, hels, els_el hn.2.2.2]; rfl
  · intro e he
    rcases List.mem_append.1 he with he | he
    · exact filt_els e he
    · obtain rfl := List.mem_singleton.1 he; exact hn

theorem join3 (dir name : ByteArray) (bk : Nat) (w : World) (hd : dir.size ≤ 1048576) (hn : name.size ≤ 1048576) (hok : Ok name.data.toList)
    (c0 : w.cell? ⟨bk, 0, none⟩ = some (.string dir)) (c1 : w.cell? ⟨bk, 1, none⟩ = some (.string ⟨filtT.toArray⟩)) (c2 : w.cell? ⟨bk, 2, none⟩ = some (.string name)) :
    Calls Tryf.prog 21 #[.slice (some ⟨bk, 0, none⟩) 3 3] w fun e w' => e = .returned (.string ⟨(pre dir.data.toList ++ (filtT ++ 47 :: name.data.toList)).toArray⟩) ∧ Below w.heap.size w w' := by
  have h := Tryf.filepath_Join_rules bk 0 3 [dir, ⟨filtT.toArray⟩, name] w (by
    intro j x hj
    rcases j with _ | _ | _ | j
    · simp at hj; subst hj; exact c0
    · simp at hj; subst hj; exact c1
    · simp at hj; subst hj; exact c2
    · simp at hj) (World.block_lt_of_cell? w _ c0) (by simp) (by
    simp [Lib.lens, filtT]
    have e1 := size_list dir
    have e2 := size_list name
    rw [Array.length_toList] at e1 e2
    omega)
  have e : Lib.Pa.join ([dir, ⟨filtT.toArray⟩, name].map (·.data.toList)) = pre dir.data.toList ++ (filtT ++ 47 :: name.data.toList) := join_filt dir.data.toList name.data.toList (ok_el hok)
  rw [e] at h
  exact h

set_option maxHeartbeats 4000000 in
theorem filt_ok (dir name : ByteArray) (w : World) (hd : dir.size ≤ 1048576) (hn : name.size ≤ 1048576) (hok : Ok name.data.toList) :
    Calls Tryf.prog 9 #[.agg #[.string dir], .string name] w fun e w' => e = .returned (.tuple #[.string ⟨(pre dir.data.toList ++ (filtT ++ 47 :: name.data.toList)).toArray⟩, .nilIface]) ∧ Below w.heap.size w w' := by
  have HOk := hid hok
  clear hok
  go_enter Tryf.func9, Tryf.ntmps9
  go_wp2_with fail
  refine (check_ok tagT name _ hn HOk.out).mono ?_
  rintro e w1 ⟨rfl, B1⟩
  have hcell : w1.cell? ⟨w.heap.size, 0, none⟩ = some (.string dir) := by
    rw [B1.cell (p := ⟨w.heap.size, 0, none⟩) (by simp)]; simp
  have HB := hid (((Below.refl w.heap.size w).alloc (Nat.le_refl _) _).trans (B1.mono (by simp)))
  have hsz : w.heap.size < w1.heap.size := World.block_lt_of_cell? _ _ hcell
  clear B1
  go_wp2_with fail
  refine (join3 dir name _ _ hd hn HOk.out (by simp) (by simp [filtT]) (by simp)).mono ?_
  rintro e w2 ⟨rfl, B2⟩
  have HB2 := hid ((HB.out.alloc (Nat.le_of_lt hsz) _).trans (B2.mono (by simp; omega)))
  clear B2
  go_wp2
  go_ret2
  exact ⟨rfl, HB2.out⟩

set_option maxHeartbeats 4000000 in
theorem filt_bad (G : Interp) (dir name : ByteArray) (w : World) (hG : G.answers w.tape) (hn : name.size ≤ 1048576) (h : ¬ Ok name.data.toList) :
    Calls Tryf.prog 9 #[.agg #[.string dir], .string name] w fun e w' => IsRefused e ∧ Below w.heap.size w w' := by
  have HG := hid hG
  have HN := hid h
  clear hG h
  go_enter Tryf.func9, Tryf.ntmps9
  go_wp2_with fail
  refine (check_bad G tagT name (w.alloc (.cells #[.string dir] 24)) HG.out hn HN.out).mono ?_
  rintro e w1 ⟨⟨a, rfl⟩, B1⟩
  have HB := hid (((Below.refl w.heap.size w).alloc (Nat.le_refl _) _).trans (B1.mono (by simp)))
  clear B1
  go_wp2
  go_ret2
  exact ⟨⟨a, rfl⟩, HB.out⟩

end Go.Proofs.Qxb6609099aFmt
