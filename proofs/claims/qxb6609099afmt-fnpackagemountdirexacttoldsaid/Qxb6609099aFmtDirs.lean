/-
  zzValidElem, zzPlainDir, zzRootPrefix, Model, zzModelPrefix.
-/
import Derived.Test.Qxb6609099aFmtAgree
import Derived.Test.Qxb6609099aFmtPlainB
namespace Go.Proofs.Qxb6609099aFmt
set_option linter.unusedVariables false
set_option linter.unusedSimpArgs false
open Go.RowKit Plain
open Go.Extern.Stop Go.Stop Go.Extern

/-- The byte at i. -/
def by' (s : ByteArray) (i : Nat) : Int := ((s.data.toList.getD i 0).toNat : Int)
theorem run_by (s : ByteArray) (p : Nat) (P : Int) (hP : P = p) (h : p < s.size) (w : World) : (Instr.index 9 (.string s) (.int .i64 P)).run Tryf.prog w = .ok (.int .u8 (by' s p)) w := by
  rw [run_idx s p P hP h w]
  have h1 := Lib.data_getElem? s p h
  unfold by'
  rw [List.getD, h1]
  rfl

set_option maxHeartbeats 1000000 in
theorem elem_ok (s : ByteArray) (w : World) (hs : s.size ≤ 1048576) (h : Ok s.data.toList) : Calls Tryf.prog 12 #[.string s] w fun e w' => e = .returned (.bool true) ∧ w' = w := by
  obtain ⟨h1, h2, h3, h4⟩ := h
  have e1 := not_empty h1
  have e2 : (s.toList == [46]) = false := by rw [Lib.toList_data]; simpa using h2
  have e3 : (s.toList == [46, 46]) = false := by rw [Lib.toList_data]; simpa using h3
  have hall : ∀ j, j < s.size → by' s j ≠ 47 ∧ by' s j ≠ 0 := by
    intro j hj
    unfold has at h4
    rw [Bool.or_eq_false_iff, List.contains_eq_mem, List.contains_eq_mem, decide_eq_false_iff_not, decide_eq_false_iff_not] at h4
    have hj' : j < s.data.toList.length := by rw [← size_list]; exact hj
    have hm : s.data.toList.getD j 0 ∈ s.data.toList := by rw [List.getD, List.getElem?_eq_getElem hj']; exact List.getElem_mem hj'
    unfold by'
    refine ⟨fun e => h4.1 ?_, fun e => h4.2 ?_⟩
    · have : s.data.toList.getD j 0 = 47 := UInt8.toNat_inj.1 (by simpa using Int.ofNat.inj e)
      rwa [this] at hm
    · have : s.data.toList.getD j 0 = 0 := UInt8.toNat_inj.1 (by simpa using Int.ofNat.inj e)
      rwa [this] at hm
  have HA := hid hall
  clear h1 h2 h3 h4 hall
  go_enter Tryf.func12, Tryf.ntmps12
  go_wp2
  go_loop [3] (fun i => ∃ k : Nat, i = .int .i64 (k : Nat) ∧ k ≤ s.size) (fun i => s.size - (intOf i).toNat)
  case atStart => exact ⟨0, rfl, Nat.zero_le _⟩
  case round =>
    obtain ⟨k, rfl, hk⟩ := hrel
    by_cases hlt : k < s.size
    · have hi := run_by s k k rfl hlt
      obtain ⟨q1, q2⟩ := HA.out k hlt
      generalize by' s k = c at *
      have f1 : (c == 47) = false := by simpa using q1
      have f2 : (c == 0) = false := by simpa using q2
      clear q1 q2
      have hltI : (k : Int) < (s.size : Int) := by omega
      go_wp2
      go_round
      case rel => exact ⟨k + 1, by go_num, by omega⟩
      case measure => simp [intOf]; omega
    · obtain rfl : k = s.size := by omega
      go_wp2
      go_ret
      exact ⟨rfl, rfl⟩

set_option maxHeartbeats 1000000 in
theorem elem_bad (s : ByteArray) (w : World) (hs : s.size ≤ 1048576) (h : ¬ Ok s.data.toList) : Calls Tryf.prog 12 #[.string s] w fun e w' => e = .returned (.bool false) ∧ w' = w := by
  by_cases h1 : s.data.toList = []
  · have e1 : s.toList.isEmpty = true := by rw [Lib.toList_data, h1]; rfl
    clear h1 h
    go_enter Tryf.func12, Tryf.ntmps12
    go_wp2
    go_ret
    exact ⟨rfl, rfl⟩
  have e1 := not_empty h1
  by_cases h2 : s.data.toList = [46]
  · have e2 : (s.toList == [46]) = true := by rw [Lib.toList_data, h2]; rfl
    clear h1 h2 h
    go_enter Tryf.func12, Tryf.ntmps12
    go_wp2
    go_ret
    exact ⟨rfl, rfl⟩
  have e2 : (s.toList == [46]) = false := by rw [Lib.toList_data]; simpa using h2
  by_cases h3 : s.data.toList = [46, 46]
  · have e3 : (s.toList == [46, 46]) = true := by rw [Lib.toList_data, h3]; rfl
    clear h1 h2 h3 h
    go_enter Tryf.func12, Tryf.ntmps12
    go_wp2
    go_ret
    exact ⟨rfl, rfl⟩
  have e3 : (s.toList == [46, 46]) = false := by rw [Lib.toList_data]; simpa using h3
  have h4 : ∃ j, j < s.size ∧ (by' s j = 47 ∨ by' s j = 0) := by
    have hh : has s.data.toList = true := by
      cases hh : has s.data.toList with
      | true => rfl
      | false => exact absurd ⟨h1, h2, h3, hh⟩ h
    unfold has at hh
    rw [Bool.or_eq_true, List.contains_eq_mem, List.contains_eq_mem, decide_eq_true_iff, decide_eq_true_iff] at hh
    rcases hh with hm | hm
    · obtain ⟨j, hj, e⟩ := List.getElem_of_mem hm
      exact ⟨j, by rw [size_list]; exact hj, Or.inl (by unfold by'; rw [List.getD, List.getElem?_eq_getElem hj, e]; rfl)⟩
    · obtain ⟨j, hj, e⟩ := List.getElem_of_mem hm
      exact ⟨j, by rw [size_list]; exact hj, Or.inr (by unfold by'; rw [List.getD, List.getElem?_eq_getElem hj, e]; rfl)⟩
  obtain ⟨j, hj, hbad⟩ := h4
  have HBad := hid hbad
  clear h1 h2 h3 h hbad
  go_enter Tryf.func12, Tryf.ntmps12
  go_wp2
  go_loop [3] (fun i => ∃ k : Nat, i = .int .i64 (k : Nat) ∧ k ≤ j) (fun i => s.size - (intOf i).toNat)
  case atStart => exact ⟨0, rfl, Nat.zero_le _⟩
  case round =>
    obtain ⟨k, rfl, hk⟩ := hrel
    have hlt : k < s.size := by omega
    have hi := run_by s k k rfl hlt
    have hltI : (k : Int) < (s.size : Int) := by omega
    by_cases q1 : by' s k = 47
    · have f1 : (by' s k == 47) = true := by simpa using q1
      generalize by' s k = c at *
      clear q1
      go_wp2
      go_ret
      exact ⟨rfl, rfl⟩
    · by_cases q2 : by' s k = 0
      · have f1 : (by' s k == 47) = false := by simpa using q1
        have f2 : (by' s k == 0) = true := by simpa using q2
        generalize by' s k = c at *
        clear q1 q2
        go_wp2
        go_ret
        exact ⟨rfl, rfl⟩
      · have f1 : (by' s k == 47) = false := by simpa using q1
        have f2 : (by' s k == 0) = false := by simpa using q2
        have hkj : k < j := by
          rcases Nat.lt_or_ge k j with h | h
          · exact h
          · obtain rfl : k = j := by omega
            rcases HBad.out with e | e
            · exact absurd e q1
            · exact absurd e q2
        generalize by' s k = c at *
        clear q1 q2
        go_wp2
        go_round
        case rel => exact ⟨k + 1, by go_num, by omega⟩
        case measure => simp [intOf]; omega

/-! ### zzPlainDir -/
def IsPlain (l : List UInt8) (e : Ending) : Prop := ∃ b : Bool, e = .returned (.bool b) ∧ (b = true → Dir l)
theorem plain_false (l : List UInt8) : IsPlain l (.returned (.bool false)) := ⟨false, rfl, by simp⟩
theorem plain_true {l : List UInt8} (h : Dir l) : IsPlain l (.returned (.bool true)) := ⟨true, rfl, fun _ => h⟩

theorem slice_ab (s : ByteArray) (a b : Nat) (hab : a ≤ b) (hb : b ≤ s.size) : ∃ E : ByteArray, E.data.toList = (s.data.toList.drop a).take (b - a) ∧ ∀ w, (Instr.slice 9 (.string s) (some (.int .i64 (a : Int))) (some (.int .i64 (b : Int))) none).run Tryf.prog w = .ok (.string E) w := by
  refine ⟨s.extract a b, Lib.extract_data s a b, fun w => ?_⟩
  rw [run_slice_string_if w 9 s .i64 .i64 a b Tryf.underlying9, if_pos (by omega), if_pos (by omega)]
  rfl

def Fin (l lead : List UInt8) : Prop := ∃ es : List (List UInt8), es ≠ [] ∧ (∀ e ∈ es, El e) ∧ l = lead ++ J es

theorem fin_dir {l lead : List UInt8} (h : Fin l lead) (hl : lead = [] ∨ lead = [47]) : Dir l := by
  obtain ⟨es, h0, h1, h2⟩ := h
  rcases hl with rfl | rfl
  · exact Or.inr (Or.inr ⟨es, h0, h1, Or.inl h2⟩)
  · exact Or.inr (Or.inr ⟨es, h0, h1, Or.inr h2⟩)

theorem by_getD (s : ByteArray) (k : Nat) : (by' s k = 47) ↔ s.data.toList.getD k 0 = 47 := by
  unfold by'
  constructor
  · intro e; exact UInt8.toNat_inj.1 (by simpa using Int.ofNat.inj e)
  · intro e; rw [e]; rfl

set_option maxHeartbeats 2000000 in
theorem plainDir (s : ByteArray) (w : World) (hs : s.size ≤ 1048576) : Calls Tryf.prog 22 #[.string s] w fun e w' => IsPlain s.data.toList e ∧ w' = w := by
  by_cases h1 : s.data.toList = []
  · have e1 : s.toList.isEmpty = true := by rw [Lib.toList_data, h1]; rfl
    clear h1
    go_enter Tryf.func22, Tryf.ntmps22
    go_wp2
    go_ret
    exact ⟨plain_false _, rfl⟩
  have e1 := not_empty h1
  by_cases h2 : s.data.toList = [47]
  · have e2 : (s.toList == [47]) = true := by rw [Lib.toList_data, h2]; rfl
    have HD := hid (show Dir s.data.toList from Or.inr (Or.inl h2))
    clear h1 h2
    go_enter Tryf.func22, Tryf.ntmps22
    go_wp2
    go_ret
    exact ⟨plain_true HD.out, rfl⟩
  have e2 : (s.toList == [47]) = false := by rw [Lib.toList_data]; simpa using h2
  have hpos : 0 < s.size := by rw [size_list]; exact List.length_pos_iff.2 h1
  have hi0 := run_by s 0 0 rfl hpos
  have hlen := hid (size_list s)
  clear h1 h2
  by_cases hz : by' s 0 = 47
  · have f0 : (by' s 0 == 47) = true := by simpa using hz
    have HGo := hid (show Going s.data.toList [47] 1 1 from by
      refine ⟨Nat.le_refl _, by rw [← hlen.out]; omega, ⟨[], by simp, ?_⟩, by simp⟩
      have h0 := (by_getD s 0).1 hz
      cases hl : s.data.toList with
      | nil => rw [hl] at h0; simp at h0
      | cons c r => rw [hl] at h0; simp at h0; subst h0; rfl)
    generalize by' s 0 = c0 at *
    clear hz
    go_enter Tryf.func22, Tryf.ntmps22
    go_wp2
    go_loop [3, 4, 5] (fun a b _ => ∃ x y : Nat, a = .int .i64 (x : Nat) ∧ b = .int .i64 (y : Nat) ∧ y ≤ s.size + 1 ∧ Hid ((Going s.data.toList [47] x y) ∨ (y = s.size + 1 ∧ Fin s.data.toList [47]))) (fun _ b _ => s.size + 1 - (intOf b).toNat)
    case atStart => exact ⟨1, 1, rfl, rfl, by omega, hid (Or.inl HGo.out)⟩
    case round =>
      obtain ⟨x, y, rfl, rfl, hy, HH⟩ := hrel
      by_cases hfin : y = s.size + 1
      · have HD : Hid (Dir s.data.toList) := by
          rcases HH.out with h | ⟨_, h⟩
          · have := h.lj; have := hlen.out; omega
          · exact fin_dir h (by simp)
        have hc : ¬ ((y : Int) ≤ (s.size : Int)) := by omega
        clear hfin
        go_wp2
        go_ret
        exact ⟨plain_true HD.out, rfl⟩
      have HG : Hid (Going s.data.toList [47] x y) := by
        rcases HH.out with h | ⟨h, _⟩
        · exact h
        · exact absurd h hfin
      have hxy := HG.out.le
      have hys : y ≤ s.size := by omega
      have hcI : (y : Int) ≤ (s.size : Int) := by omega
      obtain ⟨E, hE, hsl⟩ := slice_ab s x y hxy hys
      by_cases hend : y = s.size
      · have b1 : ((y : Int) == (s.size : Int)) = true := by simp; omega
        have hyE := hid hend
        clear hend
        by_cases t1 : E.data.toList = []
        · have u1 : E.toList.isEmpty = true := by rw [Lib.toList_data, t1]; rfl
          clear t1
          go_wp2
          go_ret
          exact ⟨plain_false _, rfl⟩
        have u1 := not_empty t1
        by_cases t2 : E.data.toList = [46]
        · have u2 : (E.toList == [46]) = true := by rw [Lib.toList_data, t2]; rfl
          clear t1 t2
          go_wp2
          go_ret
          exact ⟨plain_false _, rfl⟩
        have u2 : (E.toList == [46]) = false := by rw [Lib.toList_data]; simpa using t2
        by_cases t3 : E.data.toList = [46, 46]
        · have u3 : (E.toList == [46, 46]) = true := by rw [Lib.toList_data, t3]; rfl
          clear t1 t2 t3
          go_wp2
          go_ret
          exact ⟨plain_false _, rfl⟩
        have u3 : (E.toList == [46, 46]) = false := by rw [Lib.toList_data]; simpa using t3
        have HF : Hid (Fin s.data.toList [47]) := by
          rw [hyE.out, hlen.out] at hE
          have g := HG.out
          rw [hyE.out, hlen.out] at g
          exact g.done (by rw [← hE]; exact t1) (by rw [← hE]; exact t2) (by rw [← hE]; exact t3)
        clear t1 t2 t3 hE hfin
        go_wp2
        go_round
        case rel => exact ⟨y + 1, y + 1, by go_num, by go_num, by omega, hid (Or.inr ⟨by have := hyE.out; omega, HF.out⟩)⟩
        case measure => simp [intOf]; omega
      · have b1 : ((y : Int) == (s.size : Int)) = false := by simp; omega
        have hlt : y < s.size := by omega
        have hidx := run_by s y y rfl hlt
        have hlt' : y < s.data.toList.length := by rw [← hlen.out]; exact hlt
        by_cases hsl47 : by' s y = 47
        · have f1 : (by' s y == 47) = true := by simpa using hsl47
          have hg47 := (by_getD s y).1 hsl47
          generalize by' s y = c at *
          clear hsl47
          by_cases t1 : E.data.toList = []
          · have u1 : E.toList.isEmpty = true := by rw [Lib.toList_data, t1]; rfl
            clear t1
            go_wp2
            go_ret
            exact ⟨plain_false _, rfl⟩
          have u1 := not_empty t1
          by_cases t2 : E.data.toList = [46]
          · have u2 : (E.toList == [46]) = true := by rw [Lib.toList_data, t2]; rfl
            clear t1 t2
            go_wp2
            go_ret
            exact ⟨plain_false _, rfl⟩
          have u2 : (E.toList == [46]) = false := by rw [Lib.toList_data]; simpa using t2
          by_cases t3 : E.data.toList = [46, 46]
          · have u3 : (E.toList == [46, 46]) = true := by rw [Lib.toList_data, t3]; rfl
            clear t1 t2 t3
            go_wp2
            go_ret
            exact ⟨plain_false _, rfl⟩
          have u3 : (E.toList == [46, 46]) = false := by rw [Lib.toList_data]; simpa using t3
          have HN : Hid (Going s.data.toList [47] (y + 1) (y + 1)) := HG.out.cut hlt' hg47 (by rw [← hE]; exact t1) (by rw [← hE]; exact t2) (by rw [← hE]; exact t3)
          clear t1 t2 t3 hE hend hfin hg47
          go_wp2
          go_round
          case rel => exact ⟨y + 1, y + 1, by go_num, by go_num, by omega, hid (Or.inl HN.out)⟩
          case measure => simp [intOf]; omega
        · have f1 : (by' s y == 47) = false := by simpa using hsl47
          have HN : Hid (Going s.data.toList [47] x (y + 1)) := HG.out.next hlt' (fun e => hsl47 ((by_getD s y).2 e))
          generalize by' s y = c at *
          clear hsl47 hE hend hfin
          go_wp2
          go_round
          case rel => exact ⟨x, y + 1, rfl, by go_num, by omega, hid (Or.inl HN.out)⟩
          case measure => simp [intOf]; omega
  · have f0 : (by' s 0 == 47) = false := by simpa using hz
    have HGo := hid (show Going s.data.toList [] 0 0 from ⟨Nat.le_refl _, Nat.zero_le _, ⟨[], by simp, rfl⟩, by simp⟩)
    generalize by' s 0 = c0 at *
    clear hz
    go_enter Tryf.func22, Tryf.ntmps22
    go_wp2
    go_loop [3, 4, 5] (fun a b _ => ∃ x y : Nat, a = .int .i64 (x : Nat) ∧ b = .int .i64 (y : Nat) ∧ y ≤ s.size + 1 ∧ Hid ((Going s.data.toList [] x y) ∨ (y = s.size + 1 ∧ Fin s.data.toList []))) (fun _ b _ => s.size + 1 - (intOf b).toNat)
    case atStart => exact ⟨0, 0, rfl, rfl, by omega, hid (Or.inl HGo.out)⟩
    case round =>
      obtain ⟨x, y, rfl, rfl, hy, HH⟩ := hrel
      by_cases hfin : y = s.size + 1
      · have HD : Hid (Dir s.data.toList) := by
          rcases HH.out with h | ⟨_, h⟩
          · have := h.lj; have := hlen.out; omega
          · exact fin_dir h (by simp)
        have hc : ¬ ((y : Int) ≤ (s.size : Int)) := by omega
        clear hfin
        go_wp2
        go_ret
        exact ⟨plain_true HD.out, rfl⟩
      have HG : Hid (Going s.data.toList [] x y) := by
        rcases HH.out with h | ⟨h, _⟩
        · exact h
        · exact absurd h hfin
      have hxy := HG.out.le
      have hys : y ≤ s.size := by omega
      have hcI : (y : Int) ≤ (s.size : Int) := by omega
      obtain ⟨E, hE, hsl⟩ := slice_ab s x y hxy hys
      by_cases hend : y = s.size
      · have b1 : ((y : Int) == (s.size : Int)) = true := by simp; omega
        have hyE := hid hend
        clear hend
        by_cases t1 : E.data.toList = []
        · have u1 : E.toList.isEmpty = true := by rw [Lib.toList_data, t1]; rfl
          clear t1
          go_wp2
          go_ret
          exact ⟨plain_false _, rfl⟩
        have u1 := not_empty t1
        by_cases t2 : E.data.toList = [46]
        · have u2 : (E.toList == [46]) = true := by rw [Lib.toList_data, t2]; rfl
          clear t1 t2
          go_wp2
          go_ret
          exact ⟨plain_false _, rfl⟩
        have u2 : (E.toList == [46]) = false := by rw [Lib.toList_data]; simpa using t2
        by_cases t3 : E.data.toList = [46, 46]
        · have u3 : (E.toList == [46, 46]) = true := by rw [Lib.toList_data, t3]; rfl
          clear t1 t2 t3
          go_wp2
          go_ret
          exact ⟨plain_false _, rfl⟩
        have u3 : (E.toList == [46, 46]) = false := by rw [Lib.toList_data]; simpa using t3
        have HF : Hid (Fin s.data.toList []) := by
          rw [hyE.out, hlen.out] at hE
          have g := HG.out
          rw [hyE.out, hlen.out] at g
          exact g.done (by rw [← hE]; exact t1) (by rw [← hE]; exact t2) (by rw [← hE]; exact t3)
        clear t1 t2 t3 hE hfin
        go_wp2
        go_round
        case rel => exact ⟨y + 1, y + 1, by go_num, by go_num, by omega, hid (Or.inr ⟨by have := hyE.out; omega, HF.out⟩)⟩
        case measure => simp [intOf]; omega
      · have b1 : ((y : Int) == (s.size : Int)) = false := by simp; omega
        have hlt : y < s.size := by omega
        have hidx := run_by s y y rfl hlt
        have hlt' : y < s.data.toList.length := by rw [← hlen.out]; exact hlt
        by_cases hsl47 : by' s y = 47
        · have f1 : (by' s y == 47) = true := by simpa using hsl47
          have hg47 := (by_getD s y).1 hsl47
          generalize by' s y = c at *
          clear hsl47
          by_cases t1 : E.data.toList = []
          · have u1 : E.toList.isEmpty = true := by rw [Lib.toList_data, t1]; rfl
            clear t1
            go_wp2
            go_ret
            exact ⟨plain_false _, rfl⟩
          have u1 := not_empty t1
          by_cases t2 : E.data.toList = [46]
          · have u2 : (E.toList == [46]) = true := by rw [Lib.toList_data, t2]; rfl
            clear t1 t2
            go_wp2
            go_ret
            exact ⟨plain_false _, rfl⟩
          have u2 : (E.toList == [46]) = false := by rw [Lib.toList_data]; simpa using t2
          by_cases t3 : E.data.toList = [46, 46]
          · have u3 : (E.toList == [46, 46]) = true := by rw [Lib.toList_data, t3]; rfl
            clear t1 t2 t3
            go_wp2
            go_ret
            exact ⟨plain_false _, rfl⟩
          have u3 : (E.toList == [46, 46]) = false := by rw [Lib.toList_data]; simpa using t3
          have HN : Hid (Going s.data.toList [] (y + 1) (y + 1)) := HG.out.cut hlt' hg47 (by rw [← hE]; exact t1) (by rw [← hE]; exact t2) (by rw [← hE]; exact t3)
          clear t1 t2 t3 hE hend hfin hg47
          go_wp2
          go_round
          case rel => exact ⟨y + 1, y + 1, by go_num, by go_num, by omega, hid (Or.inl HN.out)⟩
          case measure => simp [intOf]; omega
        · have f1 : (by' s y == 47) = false := by simpa using hsl47
          have HN : Hid (Going s.data.toList [] x (y + 1)) := HG.out.next hlt' (fun e => hsl47 ((by_getD s y).2 e))
          generalize by' s y = c at *
          clear hsl47 hE hend hfin
          go_wp2
          go_round
          case rel => exact ⟨x, y + 1, rfl, by go_num, by omega, hid (Or.inl HN.out)⟩
          case measure => simp [intOf]; omega

end Go.Proofs.Qxb6609099aFmt
