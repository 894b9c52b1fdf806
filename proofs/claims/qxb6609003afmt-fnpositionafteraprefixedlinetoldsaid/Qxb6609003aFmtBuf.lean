/-
  A slice of bytes, nil or not; the copy that the program lays; ZZposition and the two bounds; the law of lines and columns.
-/
import Derived.Test.Qxb6609003aFmtValid
import Derived.Test.Qxb6609003aFmtParse
import Derived.Laws.CopyOwn
import Derived.Laws.AppendOwnNone
namespace Go.Proofs.Qxb6609003aFmt
set_option linter.unusedVariables false
set_option linter.unusedSimpArgs false
open Go.RowKit Plain
open Go.Extern.Stop Go.Stop Go.Extern

/-- The slice at 'ao' reads l: nil, or so many cells. -/
def Buf (w : World) (ao : Option Addr) (cap : Nat) (l : List Int) : Prop :=
  (ao = none ∧ cap = 0 ∧ l = []) ∨ ∃ b o, ao = some ⟨b, o, none⟩ ∧ l.length ≤ cap ∧ ∀ i, i < l.length → w.cell? ⟨b, o + i, none⟩ = some (.int .u8 (l.getD i 0))

theorem getD_take (l : List Int) (k i : Nat) (h : i < k) : (l.take k).getD i 0 = l.getD i 0 := by
  simp [List.getD, List.getElem?_take, h]

theorem Buf.txt {w : World} {ao : Option Addr} {cap : Nat} {l : List Int} (h : Buf w ao cap l) (k : Nat) (hk : k ≤ l.length) (hl : l.length ≤ 2097152) : Txt w ao (l.take k) := by
  have e : (l.take k).length = k := by rw [List.length_take]; omega
  refine ⟨by omega, fun h0 => ?_⟩
  rcases h with ⟨_, _, rfl⟩ | ⟨b, o, rfl, _, hc⟩
  · simp at h0
  · exact ⟨b, o, rfl, fun i hi => by rw [hc i (by omega), getD_take l k i (by omega)]⟩

/-- The same of a slice that came in: where it has no cell, its address says nothing. -/
def BufI (w : World) (ao : Option Addr) (cap : Nat) (l : List Int) : Prop :=
  (ao = none ∧ cap = 0 ∧ l = []) ∨ ∃ a, ao = some a ∧ l.length ≤ cap ∧ (0 < l.length → ∃ b o, a = ⟨b, o, none⟩ ∧ ∀ i, i < l.length → w.cell? ⟨b, o + i, none⟩ = some (.int .u8 (l.getD i 0)))

theorem BufI.txt {w : World} {ao : Option Addr} {cap : Nat} {l : List Int} (h : BufI w ao cap l) (hl : l.length ≤ 2097152) : Txt w ao l := by
  refine ⟨hl, fun h0 => ?_⟩
  rcases h with ⟨_, _, rfl⟩ | ⟨a, rfl, _, hc⟩
  · simp at h0
  · obtain ⟨b, o, rfl, hc'⟩ := hc h0
    exact ⟨b, o, rfl, hc'⟩

theorem BufI.cap {w : World} {ao : Option Addr} {cap : Nat} {l : List Int} (h : BufI w ao cap l) : l.length ≤ cap := by
  rcases h with ⟨_, _, rfl⟩ | ⟨a, _, hcap, _⟩
  · simp
  · exact hcap

theorem Buf.all {w : World} {ao : Option Addr} {cap : Nat} {l : List Int} (h : Buf w ao cap l) (hl : l.length ≤ 2097152) : Txt w ao l := by
  refine ⟨hl, fun h0 => ?_⟩
  rcases h with ⟨_, _, rfl⟩ | ⟨b, o, rfl, _, hc⟩
  · simp at h0
  · exact ⟨b, o, rfl, hc⟩

theorem Txt.head {w : World} {ao : Option Addr} {l : List Int} (h : Txt w ao l) (k : Nat) (hk : k ≤ l.length) : Txt w ao (l.take k) := by
  have e : (l.take k).length = k := by rw [List.length_take]; omega
  refine ⟨by have := h.1; omega, fun h0 => ?_⟩
  obtain ⟨b, o, rfl, hc⟩ := h.2 (by omega)
  exact ⟨b, o, rfl, fun i hi => by rw [hc i (by omega), getD_take l k i (by omega)]⟩

theorem Txt.below {w w' : World} {ao : Option Addr} {l : List Int} (h : Txt w ao l) {B : Nat} (hb : Below B w w') (hB : w.heap.size ≤ B) : Txt w' ao l := by
  refine ⟨h.1, fun h0 => ?_⟩
  obtain ⟨b, o, rfl, hc⟩ := h.2 h0
  refine ⟨b, o, rfl, fun i hi => ?_⟩
  rw [hb.cell (p := ⟨b, o + i, none⟩) (Nat.lt_of_lt_of_le (World.block_lt_of_cell? w _ (hc i hi)) hB)]
  exact hc i hi

theorem Buf.below {w w' : World} {ao : Option Addr} {cap : Nat} {l : List Int} (h : Buf w ao cap l) {B : Nat} (hb : Below B w w') (hB : w.heap.size ≤ B) : Buf w' ao cap l := by
  rcases h with h | ⟨b, o, rfl, hcap, hc⟩
  · exact Or.inl h
  · refine Or.inr ⟨b, o, rfl, hcap, fun i hi => ?_⟩
    rw [hb.cell (p := ⟨b, o + i, none⟩) (Nat.lt_of_lt_of_le (World.block_lt_of_cell? w _ (hc i hi)) hB)]
    exact hc i hi

theorem Buf.cut {w : World} {ao : Option Addr} {cap : Nat} {l : List Int} (h : Buf w ao cap l) (s : Nat) (hs : s ≤ l.length) : Buf w (cutA ao cap s) (cap - s) (l.drop s) := by
  rcases h with ⟨rfl, rfl, rfl⟩ | ⟨b, o, rfl, hcap, hc⟩
  · refine Or.inl ⟨by simp [cutA], by omega, by simp⟩
  · by_cases e : cap = s
    · refine Or.inr ⟨b, o, by rw [cutA, if_pos e], by simp; omega, fun i hi => ?_⟩
      simp at hi; omega
    · refine Or.inr ⟨b, o + s, by rw [cutA, if_neg e]; simp [Addr.add], by simp; omega, fun i hi => ?_⟩
      simp at hi
      rw [Nat.add_assoc, hc (s + i) (by omega)]
      simp [List.getD]

theorem Buf.cap {w : World} {ao : Option Addr} {cap : Nat} {l : List Int} (h : Buf w ao cap l) : l.length ≤ cap := by
  rcases h with ⟨_, _, rfl⟩ | ⟨b, o, _, hcap, _⟩
  · simp
  · exact hcap

theorem mem_take_b {l : List Int} (hb : ∀ x ∈ l, 0 ≤ x ∧ x < 256) (k : Nat) : ∀ x ∈ l.take k, 0 ≤ x ∧ x < 256 := fun x hx => hb x (List.mem_of_mem_take hx)
theorem mem_drop_b {l : List Int} (hb : ∀ x ∈ l, 0 ≤ x ∧ x < 256) (k : Nat) : ∀ x ∈ l.drop k, 0 ≤ x ∧ x < 256 := fun x hx => hb x (List.mem_of_mem_drop hx)

/-- zzValidUTF8 of a head. -/
theorem validHead {ao : Option Addr} {cap : Nat} {l : List Int} {w : World} (h : Txt w ao l) (hb : ∀ x ∈ l, 0 ≤ x ∧ x < 256) (k : Nat) (hk : k ≤ l.length) :
    Calls Tryf.prog 6 #[.slice ao k cap] w fun e w' => Judged (l.take k) e ∧ w' = w := by
  have e : (l.take k).length = k := by rw [List.length_take]; omega
  have := valid ao cap (l.take k) w (h.head k hk) (mem_take_b hb k)
  rwa [e] at this

theorem countHead {ao : Option Addr} {cap : Nat} {l : List Int} {w : World} (h : Txt w ao l) (k : Nat) (hk : k ≤ l.length) (m : Nat) (hm : nl (l.take k) = m) :
    Calls Tryf.prog 11 #[.slice ao k cap] w fun e w' => e = .returned (.int .i64 (m : Int)) ∧ w' = w := by
  have e : (l.take k).length = k := by rw [List.length_take]; omega
  have := countNl ao cap (l.take k) w (h.head k hk)
  rw [e, hm] at this
  exact this

theorem lineHead {ao : Option Addr} {cap : Nat} {l : List Int} {w : World} (h : Txt w ao l) (hb : ∀ x ∈ l, 0 ≤ x ∧ x < 256) (k : Nat) (hk : k ≤ l.length) (L C : Nat) (hL : 1 + nl (l.take k) = L) (hC : 1 + ns (aft (l.take k)) = C) :
    Calls Tryf.prog 9 #[.slice ao k cap] w fun e w' => e = .returned (.tuple #[.int .i64 (L : Int), .int .i64 (C : Int)]) ∧ w' = w := by
  have e : (l.take k).length = k := by rw [List.length_take]; omega
  have := lineCol ao cap (l.take k) w (h.head k hk) (mem_take_b hb k) L C hL hC
  rwa [e] at this

/-- ZZposition. -/
theorem zzpos (G : Interp) (hT : Tells G) {ao : Option Addr} {cap : Nat} {l : List Int} {w : World} (h : Buf w ao cap l) (hG : G.answers w.tape) (hb : ∀ x ∈ l, 0 ≤ x ∧ x < 256) (n : Nat) (k : Nat) (K : Int) (hK : K = k) (hk : k ≤ l.length) (hl : l.length ≤ 2097152) (hn : ao = none → n = 0)
    (L C : Nat) (hL : nl (l.take k) + 1 = L) (hC : rc (aft (l.take k)) + 1 = C) :
    Calls Tryf.prog 7 #[.slice ao n cap, .int .i64 K] w fun e w' => e = .returned (.string ⟨(posText L C).toArray⟩) ∧ Below w.heap.size w w' := by
  subst hK
  have e : (l.take k).length = k := by rw [List.length_take]; omega
  have key : Calls Tryf.prog 12 #[.slice ao n cap, .int .i64 (k : Int)] w fun e w' => e = .returned (.string ⟨(posText L C).toArray⟩) ∧ Below w.heap.size w w' := by
    rcases h with ⟨rfl, rfl, rfl⟩ | ⟨b, o, rfl, hcap, hc⟩
    · obtain rfl := hn rfl
      simp at hk
      subst hk
      have := position_nil G hT w hG
      simp [nl, aft] at hL hC
      subst hL
      have e0 : rc [] = 0 := rfl
      rw [e0] at hC
      subst hC
      exact this
    · have := position_some G hT b o n cap (l.take k) w hG (mem_take_b hb k) (by omega) (by omega) (fun i hi => by rw [hc i (by omega), getD_take l k i (by omega)]) L C hL hC
      rwa [e] at this
  have HK := hid key
  clear key
  go_enter Tryf.func7, Tryf.ntmps7
  go_wp2_with fail
  refine HK.out.mono ?_
  rintro e w1 ⟨rfl, B1⟩
  have HB1 := hid B1
  clear B1
  go_wp2
  go_ret
  exact ⟨rfl, HB1.out⟩

/-- The copy that the program lays: one run of the builtin. -/
theorem copy_run (w : World) (ao : Option Addr) (cap : Nat) (l : List Int) (hbuf : BufI w ao cap l) :
    ∃ W, (Builtin.copy_ #[22, 22] 3 #[.slice (some ⟨w.heap.size, 0, none⟩) l.length l.length, .slice ao l.length cap]).run Tryf.prog (w.alloc (.cells (madeCells #[.int .u8 0] l.length) 5)) = .ok (.int .i64 (l.length : Int)) W ∧
      Buf W (some ⟨w.heap.size, 0, none⟩) l.length l ∧ Below w.heap.size w W := by
  have hcl : (l.map (Value.int .u8)).length = l.length := List.length_map _
  have hB : Below w.heap.size w (w.alloc (.cells (madeCells #[.int .u8 0] l.length) 5)) := (Below.refl _ _).alloc (Nat.le_refl _) _
  by_cases h0 : l.length = 0
  · refine ⟨_, ?_, Or.inr ⟨w.heap.size, 0, rfl, Nat.le_refl _, fun i hi => absurd hi (by omega)⟩, hB⟩
    rw [run_copy_none (P := Tryf.prog) _ 22 22 3 5 _ _ _ _ _ _ Tryf.underlying22 (by kernel_rfl) (by rw [h0]; rfl), h0]
    rfl
  rcases hbuf with ⟨rfl, rfl, rfl⟩ | ⟨ad, rfl, hcap, hc⟩
  · exact absurd rfl h0
  · obtain ⟨b, o, rfl, hc'⟩ := hc (by omega)
    have hg : (w.alloc (.cells (madeCells #[.int .u8 0] l.length) 5)).heap[w.heap.size]? = some (.cells (madeCells #[.int .u8 0] l.length) 5 (0, 0)) := heap_alloc_new w _
    have hr := run_copy_row (P := Tryf.prog) (w.alloc (.cells (madeCells #[.int .u8 0] l.length) 5)) 22 22 3 5 w.heap.size 0 l.length l.length ⟨b, o, none⟩ l.length cap (madeCells #[.int .u8 0] l.length) 5 (l.map (Value.int .u8)) Tryf.underlying22 (by kernel_rfl) hg (by rw [hcl]; simp) (by
        intro j v hj
        rw [List.getElem?_map] at hj
        obtain ⟨z, hz, rfl⟩ := Option.map_eq_some_iff.1 hj
        have hjl : j < l.length := (List.getElem?_eq_some_iff.1 hz).1
        have := hc' j hjl
        simp [List.getD, hz] at this
        have ea : (⟨b, o, none⟩ : Addr).add j = ⟨b, o + j, none⟩ := by cases j <;> simp [Addr.add]
        rw [ea, hB.cell (p := ⟨b, o + j, none⟩) (World.block_lt_of_cell? w _ this)]
        exact this) (by rw [hcl, size_madeCells]; omega) (by
        intro v hv
        obtain ⟨z, _, rfl⟩ := List.mem_map.1 hv
        rfl)
    have e : ((madeCells #[.int .u8 0] l.length).toList.take 0 ++ l.map (Value.int .u8) ++ (madeCells #[.int .u8 0] l.length).toList.drop (0 + (l.map (Value.int .u8)).length)).toArray = row l := by
      have : (madeCells #[.int .u8 0] l.length).toList.drop (0 + (l.map (Value.int .u8)).length) = [] := List.drop_eq_nil_of_le (by rw [hcl, Array.length_toList, size_madeCells]; omega)
      rw [this]
      simp [row]
    rw [e, hcl] at hr
    refine ⟨_, hr, Or.inr ⟨w.heap.size, 0, rfl, Nat.le_refl _, fun i hi => ?_⟩, below_setRow hB (Nat.le_refl _) _⟩
    rw [cell_of_heap (setRow_heap _ _ _ _ 5 _ hg), Nat.zero_add, row_get l i hi]

/-! ### The two bounds -/
theorem bytes5_ok (ao : Option Addr) (n cap : Nat) (x y : Int) (w : World) (h : n ≤ 1048576) : Calls Tryf.prog 5 #[.slice ao n cap, .int .i64 x, .int .i64 y] w fun e w' => e = .returned (.bool true) ∧ w' = w := by
  have h1 : ¬ (1048576 < (n : Int)) := by omega
  go_enter Tryf.func5, Tryf.ntmps5
  go_wp2
  go_ret
  exact ⟨rfl, rfl⟩
theorem bytes5_big (ao : Option Addr) (n cap : Nat) (x y : Int) (w : World) (h : 1048576 < n) : Calls Tryf.prog 5 #[.slice ao n cap, .int .i64 x, .int .i64 y] w fun e w' => e = .returned (.bool false) ∧ w' = w := by
  have h1 : (1048576 < (n : Int)) := by omega
  go_enter Tryf.func5, Tryf.ntmps5
  go_wp2
  go_ret
  exact ⟨rfl, rfl⟩
theorem bytes10_ok (ao bo : Option Addr) (n cap m cbp : Nat) (y : Int) (w : World) (h : n + m ≤ 1048576) : Calls Tryf.prog 10 #[.slice ao n cap, .slice bo m cbp, .int .i64 y] w fun e w' => e = .returned (.bool true) ∧ w' = w := by
  have h1 : ¬ (1048576 < (n : Int)) := by omega
  have h2 : ¬ (1048576 < (m : Int)) := by omega
  have h3 : ¬ (1048576 < (n : Int) + (m : Int)) := by omega
  go_enter Tryf.func10, Tryf.ntmps10
  go_wp2
  go_ret
  exact ⟨rfl, rfl⟩
theorem bytes10_big (ao bo : Option Addr) (n cap m cbp : Nat) (y : Int) (w : World) (h : 1048576 < n + m) : Calls Tryf.prog 10 #[.slice ao n cap, .slice bo m cbp, .int .i64 y] w fun e w' => e = .returned (.bool false) ∧ w' = w := by
  by_cases h1 : (1048576 < (n : Int))
  · go_enter Tryf.func10, Tryf.ntmps10
    go_wp2
    go_ret
    exact ⟨rfl, rfl⟩
  by_cases h2 : (1048576 < (m : Int))
  · go_enter Tryf.func10, Tryf.ntmps10
    go_wp2
    go_ret
    exact ⟨rfl, rfl⟩
  have h3 : (1048576 < (n : Int) + (m : Int)) := by omega
  go_enter Tryf.func10, Tryf.ntmps10
  go_wp2
  go_ret
  exact ⟨rfl, rfl⟩

/-! ### The law of the cut -/
theorem take_cut (l : List Int) (o c : Nat) (h : c ≤ o) : l.take o = l.take c ++ (l.drop c).take (o - c) := by
  rw [← List.take_add]; congr 1; omega

structure Cut (l : List Int) (o c L C H1 H2 T1 T2 : Nat) : Prop where
  line : L + 1 = H1 + T1
  col : C = if T1 = 1 then H2 + T2 - 1 else T2
  ec : 1 + ns (aft (l.take o)) = C

theorem cut_law (l : List Int) (o c : Nat) (hb : ∀ x ∈ l, 0 ≤ x ∧ x < 256) (hc : c ≤ o) (ho : o ≤ l.length) (hg : Good (l.take o)) (hs : c < o → ¬ ct (l.getD c 0)) :
    Cut l o c (nl (l.take o) + 1) (rc (aft (l.take o)) + 1) (nl (l.take c) + 1) (rc (aft (l.take c)) + 1) (nl ((l.drop c).take (o - c)) + 1) (rc (aft ((l.drop c).take (o - c))) + 1) := by
  have e := take_cut l o c hc
  have hlo : (l.take o).length = o := by rw [List.length_take]; omega
  have hlc : (l.take c).length = c := by rw [List.length_take]; omega
  have hcut := good_cut hg c (by omega) (fun h => by rw [getD_take l o c (by omega)]; exact hs (by omega))
  have e1 : (l.take o).take c = l.take c := by rw [List.take_take, Nat.min_eq_left hc]
  have e2 : (l.take o).drop c = (l.drop c).take (o - c) := by rw [e]; exact List.drop_left' hlc
  rw [e1, e2] at hcut
  obtain ⟨g1, g2⟩ := hcut
  have hm : ∀ x ∈ (l.drop c).take (o - c), 0 ≤ x ∧ x < 256 := mem_take_b (mem_drop_b hb c) _
  have r0 := rc_good (good_aft hg) (fun x hx => mem_take_b hb o x (aft_mem _ x hx))
  have r1 := rc_good (good_aft g1) (fun x hx => mem_take_b hb c x (aft_mem _ x hx))
  have r2 := rc_good (good_aft g2) (fun x hx => hm x (aft_mem _ x hx))
  rw [r0, r1, r2]
  have n0 : nl (l.take o) = nl (l.take c) + nl ((l.drop c).take (o - c)) := by rw [e, nl_append]
  have a0 : aft (l.take o) = if 0 < nl ((l.drop c).take (o - c)) then aft ((l.drop c).take (o - c)) else aft (l.take c) ++ (l.drop c).take (o - c) := by rw [e, aft_append]
  refine ⟨by omega, ?_, by omega⟩
  by_cases h : 0 < nl ((l.drop c).take (o - c))
  · rw [if_neg (by omega), a0, if_pos h]
  · rw [if_pos (by omega), a0, if_neg h, ns_append, aft_free ((l.drop c).take (o - c)) (by omega)]; omega

end Go.Proofs.Qxb6609003aFmt
