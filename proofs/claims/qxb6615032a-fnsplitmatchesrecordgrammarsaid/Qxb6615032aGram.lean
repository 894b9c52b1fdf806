/-
  FnSplitMatchesRecordGrammar: the walk.
-/
import Derived.Test.Qxb6615032aCloneF
import Derived.Test.Qxb6615032aModel
namespace Go.Proofs.Qxb6615032a
set_option linter.unusedVariables false
set_option linter.unusedSimpArgs false
open Go.RowKit Plain

/-! ### A slice of slices that came in -/
def RowB (w : World) (u : Value) (l : List Int) : Prop := ∃ a c, u = .slice a l.length c ∧ (a = none → c = 0) ∧ l.length ≤ 9223372036854775807 ∧ (l.length ≤ 2097152 → Txt w a l)

def Raw (w : World) (v : Value) (ls : List (List Int)) : Prop :=
  ∃ ao cap, v = .slice ao ls.length cap ∧ (ao = none → cap = 0) ∧ ls.length ≤ 9223372036854775807 ∧
    (0 < ls.length → ∃ b o, ao = some ⟨b, o, none⟩ ∧ ∀ i, i < ls.length → ∃ u, w.cell? ⟨b, o + i, none⟩ = some u ∧ RowB w u (ls.getD i []))

/-- The lengths of the first k. -/
def sumTo (ls : List (List Int)) (k : Nat) : Nat := ((ls.take k).map List.length).sum

theorem sumTo_succ (ls : List (List Int)) (k : Nat) (h : k < ls.length) : sumTo ls (k + 1) = sumTo ls k + (ls.getD k []).length := by
  unfold sumTo
  have e : ls.getD k [] = ls[k] := by simp [List.getD, h]
  rw [List.take_succ_eq_append_getElem h, List.map_append, List.sum_append, e]
  rfl

theorem sumTo_all (ls : List (List Int)) (j k : Nat) (h : j < k) (hk : k ≤ ls.length) : (ls.getD j []).length ≤ sumTo ls k := by
  induction k with
  | zero => omega
  | succ k ih =>
    rw [sumTo_succ ls k (by omega)]
    by_cases e : j = k
    · subst e; omega
    · have := ih (by omega) (by omega); omega

theorem Raw.flds {w : World} {v : Value} {ls : List (List Int)} (h : Raw w v ls) (hl : ls.length ≤ 2097153) (hm : ∀ j, j < ls.length → (ls.getD j []).length ≤ 2097152) : Flds w v ls := by
  obtain ⟨ao, cap, rfl, hn, _, r⟩ := h
  refine ⟨ao, cap, rfl, hl, fun h0 => ?_⟩
  obtain ⟨b, o, e, g⟩ := r h0
  refine ⟨b, o, e, fun i hi => ?_⟩
  obtain ⟨u, hu, a, c, e2, n2, _, t⟩ := g i hi
  exact ⟨u, hu, a, c, e2, n2, t (hm i hi)⟩

/-- What zzBytes_FnSplitMatchesRecordGrammar answers. -/
def Small22 (ls : List (List Int)) (n1 : Nat) (w : World) (e : Ending) (w' : World) : Prop := ∃ b, e = .returned (.bool b) ∧ w' = w ∧ (b = true → ls.length + sumTo ls ls.length + n1 ≤ 1048576)
theorem small_no (ls : List (List Int)) (n1 : Nat) (w : World) : Small22 ls n1 w (.returned (.bool false)) w := ⟨false, rfl, rfl, by simp⟩
theorem small_yes (ls : List (List Int)) (n1 : Nat) (w : World) (h : ls.length + sumTo ls ls.length + n1 ≤ 1048576) : Small22 ls n1 w (.returned (.bool true)) w := ⟨true, rfl, rfl, fun _ => h⟩

set_option maxRecDepth 100000 in
set_option maxHeartbeats 1000000 in
theorem zzBytes22 {v : Value} {ls : List (List Int)} {w : World} (H : Raw w v ls) (a1 : Option Addr) (n1 cap1 : Nat) (h1 : n1 ≤ 9223372036854775807) :
    Calls Try.prog 22 #[v, .slice a1 n1 cap1] w fun e w' => Small22 ls n1 w e w' := by
  obtain ⟨ao, cap, rfl, hn, hl, r⟩ := H
  have HR := hid r
  have HN := hid hn
  clear r hn
  by_cases hbig : 1048576 < ls.length
  · have hb : (1048576 : Int) < (ls.length : Int) := by omega
    go_enter Try.func22, Try.ntmps22
    go_wp2
    go_ret
    exact small_no _ _ _
  · have hb : (ls.length : Int) ≤ 1048576 := by omega
    go_enter Try.func22, Try.ntmps22
    go_wp2
    go_loop [5, 6] (fun t i => ∃ k, i = .int .i64 (k : Nat) ∧ k ≤ ls.length ∧ t = .int .i64 ((ls.length + sumTo ls k : Nat) : Int) ∧ ls.length + sumTo ls k ≤ 1048576) (fun _ i => ls.length - (intOf i).toNat)
    case atStart => exact ⟨0, rfl, Nat.zero_le _, by simp [sumTo], by simp [sumTo]; omega⟩
    case round =>
      obtain ⟨k, rfl, hk, rfl, hs⟩ := hrel
      by_cases hlt : k < ls.length
      · obtain ⟨b, o, rfl, g⟩ := HR.out (by omega)
        obtain ⟨u, hu, hrow⟩ := g k hlt
        have hsu := sumTo_succ ls k hlt
        generalize hlk : ls.getD k [] = l at hrow hsu
        obtain ⟨a, c, rfl, _, hl63, _⟩ := hrow
        generalize hS : ls.length + sumTo ls k = S at hs ⊢
        have HS := hid (show ls.length + sumTo ls (k + 1) = S + l.length by omega)
        clear hsu g hlk hS
        by_cases hx : l.length ≤ 1048576
        · by_cases hy : S + l.length ≤ 1048576
          · have i1 : (l.length : Int) ≤ 1048576 := by omega
            have i2 : (S : Int) + (l.length : Int) ≤ 1048576 := by omega
            go_wp2
            go_round
            case rel => exact ⟨k + 1, by go_num, by omega, by rw [HS.out]; go_num, by rw [HS.out]; exact hy⟩
            case measure => simp [intOf]; omega
          · have i1 : (l.length : Int) ≤ 1048576 := by omega
            have i2 : (1048576 : Int) < (S : Int) + (l.length : Int) := by omega
            go_wp2
            go_ret
            exact small_no _ _ _
        · have i1 : (1048576 : Int) < (l.length : Int) := by omega
          go_wp2
          go_ret
          exact small_no _ _ _
      · obtain rfl : k = ls.length := by omega
        generalize hS : ls.length + sumTo ls ls.length = S at hs ⊢
        have HS := hid hS
        clear hS
        by_cases hx : n1 ≤ 1048576
        · by_cases hy : S + n1 ≤ 1048576
          · have i1 : (n1 : Int) ≤ 1048576 := by omega
            have i2 : (S : Int) + (n1 : Int) ≤ 1048576 := by omega
            go_wp2
            go_ret
            exact small_yes _ _ _ (by rw [HS.out]; exact hy)
          · have i1 : (n1 : Int) ≤ 1048576 := by omega
            have i2 : (1048576 : Int) < (S : Int) + (n1 : Int) := by omega
            go_wp2
            go_ret
            exact small_no _ _ _
        · have i1 : (1048576 : Int) < (n1 : Int) := by omega
          go_wp2
          go_ret
          exact small_no _ _ _

set_option maxRecDepth 100000 in
set_option maxHeartbeats 1000000 in
theorem addFields {v : Value} {ls : List (List Int)} {w : World} (H : Flds w v ls) (n : Nat) (hn : n ≤ 1048576) :
    Calls Try.prog 9 #[.int .i64 (n : Int), v] w fun e w' => ∃ t : Nat, e = .returned (.int .i64 (t : Int)) ∧ w' = w ∧ t ≤ 9223372036854775807 := by
  obtain ⟨ao, cap, rfl, hl, r⟩ := H
  have HR := hid r
  clear r
  go_enter Try.func9, Try.ntmps9
  go_wp2
  go_loop [0, 5] (fun t i => ∃ k m, i = .int .i64 (k : Nat) ∧ k ≤ ls.length ∧ t = .int .i64 (m : Nat) ∧ m ≤ 1048576) (fun _ i => ls.length - (intOf i).toNat)
  case atStart => exact ⟨0, n, rfl, Nat.zero_le _, rfl, hn⟩
  case round =>
    obtain ⟨k, m, rfl, hk, rfl, hs⟩ := hrel
    by_cases hlt : k < ls.length
    · obtain ⟨b, o, rfl, g⟩ := HR.out (by omega)
      obtain ⟨u, hu, hrow⟩ := g k hlt
      generalize hlk : ls.getD k [] = l at hrow
      obtain ⟨a, c, rfl, _, hT⟩ := hrow
      have hl2 := hT.1
      clear g hlk hT
      by_cases hy : m + (24 + l.length) ≤ 1048576
      · have i2 : (m : Int) + (24 + (l.length : Int)) ≤ 1048576 := by omega
        go_wp2
        go_round
        case rel => exact ⟨k + 1, m + (24 + l.length), by go_num, by omega, by go_num, hy⟩
        case measure => simp [intOf]; omega
      · have i2 : (1048576 : Int) < (m : Int) + (24 + (l.length : Int)) := by omega
        go_wp2
        go_ret
        exact ⟨m + (24 + l.length), by go_num, rfl, by omega⟩
    · go_wp2
      go_ret
      exact ⟨m, rfl, rfl, by omega⟩

set_option maxHeartbeats 400000 in
theorem newReaderWith (ao : Option Addr) (n cap : Nat) (w : World) : Calls Try.prog 23 #[.slice ao n cap] w fun e w' => e = .returned (.pointer (some ⟨w.heap.size, 0, none⟩)) ∧
    w' = w.alloc (.cells #[.nilIface, .slice none 0 0, .int .i64 0, .int .i64 0, .slice ao n cap, .slice none 0 0, .slice none 0 0] 57) := by
  go_enter Try.func23, Try.ntmps23
  go_wp2
  go_ret
  exact ⟨rfl, rfl⟩

/-- A row of ints, its form and its cells. -/
theorem row_form {B : Nat} {w : World} {v : Value} {fs : List (Nat × Nat)} (f : Nat × Nat → Nat) (h : w.ownsRow B 3 1 v fs.length (fs.map fun x => Value.int .i64 (f x))) :
    ∃ a c, v = .slice a fs.length c ∧ (0 < fs.length → ∃ g, a = some ⟨g, 0, none⟩ ∧ ∀ i, i < fs.length → w.cell? ⟨g, 0 + i, none⟩ = some (.int .i64 (f (fs.getD i (0, 0))))) := by
  rcases h.2 with ⟨e, e0⟩ | ⟨g, c, cur, e, _, hh, _⟩
  · exact ⟨none, 0, by rw [e, e0], fun h0 => by omega⟩
  · refine ⟨_, c, e, fun h0 => ⟨g, rfl, fun i hi => ?_⟩⟩
    have h1 := h.cells (g := g) (by rw [e]; rfl) i (.int .i64 (f (fs.getD i (0, 0)))) (by simp [List.getD, hi])
    rw [Addr.add_lit] at h1
    exact h1

theorem getD_mem (fs : List (Nat × Nat)) (i : Nat) (h : i < fs.length) : fs.getD i (0, 0) ∈ fs := by
  simp [List.getD, h]

theorem getD_map_part (l : List Int) (fs : List (Nat × Nat)) (i : Nat) (h : i < fs.length) : (fs.map (Plain.part l)).getD i [] = Plain.part l (fs.getD i (0, 0)) := by
  simp [List.getD, h]

theorem cut_hb {w : World} {ao : Option Addr} {l : List Int} {cap : Nat} (hT : Txt w ao l) (hcap : l.length ≤ cap) (hn : ao = none → cap = 0) (x : Nat × Nat) (h1 : x.1 ≤ x.2) (h2 : x.2 ≤ l.length) :
    HB w (.slice (cutA ao cap x.1) (x.2 - x.1) (cap - x.1)) (Plain.part l x) := by
  refine ⟨_, _, by rw [part_length l x h1 h2], ?_, hT.cut cap hcap x h1 h2⟩
  intro e
  have : ao = none := by
    unfold cutA at e
    split at e
    · exact e
    · exact Option.map_eq_none_iff.1 e
  have := hn this
  omega

theorem flds_cell {w : World} {ax : Option Addr} {n cx : Nat} {ls : List (List Int)} (h : Flds w (.slice ax n cx) ls) (h0 : 0 < ls.length) :
    ∃ b o, ax = some ⟨b, o, none⟩ ∧ ∀ i, i < ls.length → ∃ u, w.cell? ⟨b, o + i, none⟩ = some u ∧ HB w u (ls.getD i []) := by
  obtain ⟨a, c, e, _, r⟩ := h
  injection e with e1 _ _
  subst e1
  exact r h0

/-- One comparison of two fields, in whatever number of draws. -/
theorem same_field {w : World} {u1 u2 : Value} {l1 l2 : List Int} (h1 : HB w u1 l1) (h2 : HB w u2 l2) (e : l1 = l2) (q : Nat) :
    ∀ n, Calls Try.prog 21 #[u1, u2] (w.drewN (q + n)) fun e w' => e = .returned (.bool true) ∧ ∃ m, w' = w.drewN (q + m) := by
  intro n
  refine (bytesEqV (h1.drewN (q + n)) (h2.drewN (q + n))).mono ?_
  rintro x w' ⟨rfl, q', rfl⟩
  subst e
  exact ⟨by simp, n + q', by rw [World.drewN_drewN, Nat.add_assoc]⟩

theorem Own.ge {B : Nat} {w : World} {ao : Option Addr} {l : List Int} (h : Own B w ao l) : ∀ g, ao = some ⟨g, 0, none⟩ → B ≤ g := by
  intro g e
  rcases h with ⟨e', _⟩ | ⟨g', hB, e', _⟩
  · rw [e'] at e; cases e
  · rw [e'] at e
    have := congrArg Addr.block (Option.some.inj e)
    simp at this
    omega

/-- A reader that held fields of the call's own splits a text of the call's own. -/
theorem splitOver (br : Nat) (bo : Option Addr) (n : Nat) (xs : List Value) (ao : Option Addr) (l : List Int) (w : World) (ok : Bool) (fs : List (Nat × Nat)) (hg : gram l 0 0 0 = (ok, fs)) (B : Nat)
    (hl : l.length ≤ 2097152) (hown : Own B w ao l) (hby : ∀ x ∈ l, 0 ≤ x ∧ x < 256) (hsep : ∀ g, ao = some ⟨g, 0, none⟩ → g ≠ br ∧ (Value.slice bo n n).ownBlock ≠ some g)
    (hrd : w.heap[br]? = some (.cells #[.nilIface, .slice none 0 0, .int .i64 0, .int .i64 0, .slice bo n n, .slice none 0 0, .slice none 0 0] 57 (0, 0)))
    (hx : w.ownsRow 0 29 1 (.slice bo n n) n xs) (hne : (Value.slice bo n n).ownBlock ≠ some br) :
    Calls Try.prog 15 #[.pointer (some ⟨br, 0, none⟩), .slice ao l.length l.length] w fun e w' => ∃ ax cx, e = .returned (.bool ok) ∧
      w'.cell? ⟨br, 4, none⟩ = some (.slice ax fs.length cx) ∧ Flds w' (.slice ax fs.length cx) (fs.map (Plain.part l)) ∧ Fr (fun k => k = br ∨ some k = (Value.slice bo n n).ownBlock) w w' := by
  have hT := hown.txt hl
  refine (zzsplit br _ _ _ _ _ _ bo n n xs ao l w hT hby ?_ hrd hx hne).mono ?_
  · intro g o e
    rcases hown with ⟨e', _⟩ | ⟨g', _, e', _⟩
    · rw [e'] at e; cases e
    · have := hsep g' e'
      rw [e'] at e
      have := congrArg Addr.block (Option.some.inj e)
      simp at this
      subst this
      assumption
  · rintro e w' ⟨v, rfl, hI⟩
    have hown' := hown.fr hI.fr (fun g e k => by
      have := hsep g e
      rcases k with k | k
      · exact this.1 k
      · exact this.2 k.symm)
    have F := flds_of hI.own (hown'.txt hl) (Nat.le_refl _) hown'.nilLen (fun x hx => by
      have := gram_bounds l 0 0 0 (Nat.le_refl _) (by omega) x hx
      omega) (by have := gram_len l 0 0 0; omega)
    have c := hI.cell
    rw [hg] at F
    obtain ⟨ax, cx, rfl, r⟩ := F
    refine ⟨ax, cx, by rw [hg], by simpa using c, ⟨ax, cx, by simp, r⟩, hI.fr⟩

theorem splitModelL (ao : Option Addr) (cap : Nat) (l : List Int) (w : World) (hT : Txt w ao l) (ok : Bool) (fs : List (Nat × Nat)) (hg : gram l 0 0 0 = (ok, fs)) :
    Calls Try.prog 24 #[.slice ao l.length cap] w fun e w' => ∃ a2 c2 a3 c3, e = .returned (.tuple #[.bool ok, .slice a2 fs.length c2, .slice a3 fs.length c3]) ∧
      (0 < fs.length → ∃ g, a2 = some ⟨g, 0, none⟩ ∧ ∀ i, i < fs.length → w'.cell? ⟨g, 0 + i, none⟩ = some (.int .i64 ((fs.getD i (0, 0)).1 : Nat))) ∧
      (0 < fs.length → ∃ g, a3 = some ⟨g, 0, none⟩ ∧ ∀ i, i < fs.length → w'.cell? ⟨g, 0 + i, none⟩ = some (.int .i64 ((fs.getD i (0, 0)).2 : Nat))) ∧ Below w.heap.size w w' := by
  refine (splitModel ao cap l w hT).mono ?_
  rintro e w' ⟨vs, ve, rfl, h2⟩
  rw [hg] at h2 ⊢
  obtain ⟨a2, c2, rfl, r2⟩ := row_form (fun x => x.1) h2.s
  obtain ⟨a3, c3, rfl, r3⟩ := row_form (fun x => x.2) h2.e
  exact ⟨a2, c2, a3, c3, rfl, r2, r3, h2.below⟩

set_option maxHeartbeats 4000000 in
set_option maxRecDepth 100000 in
theorem gram_core (v : Value) (ls : List (List Int)) (a1 : Option Addr) (cap1 : Nat) (l : List Int) (w : World) (HR : Raw w v ls) (TB : l.length ≤ 2097152 → Txt w a1 l) (cb : l.length ≤ cap1) (nb : a1 = none → cap1 = 0) (mb : l.length ≤ 9223372036854775807)
    (byB : ∀ x ∈ l, 0 ≤ x ∧ x < 256) :
    Calls Try.prog 5 #[v, .slice a1 l.length cap1] w fun e w' => e = .returned (.bool true) ∧ Below w.heap.size w w' := by
  have HRW := hid HR
  have HTB := hid TB
  have HNB := hid nb
  have HBB := hid byB
  obtain ⟨a0, cap0, rfl, n0, m0, _⟩ := HR
  have HN0 := hid n0
  clear TB nb byB n0
  go_enter Try.func5, Try.ntmps5
  go_wp2_with fail
  refine (zzBytes22 HRW.out a1 l.length cap1 mb).mono ?_
  rintro e wx ⟨b, rfl, hx, hsum⟩
  have hx' := hx.symm
  subst hx'
  clear hx
  cases b with
  | false =>
    clear hsum
    go_wp2
    go_ret
    exact ⟨rfl, Below.refl _ _⟩
  | true =>
    have hs := hsum rfl
    have HSM := hid (fun j (hj : j < ls.length) => sumTo_all ls j ls.length hj (Nat.le_refl _))
    generalize sumTo ls ls.length = S at hs HSM
    have hl1 : l.length ≤ 1048576 := by omega
    have hl2 : ls.length ≤ 1048576 := by omega
    have i1 : (l.length : Int) ≤ 1048576 := by omega
    have i2 : (ls.length : Int) ≤ 1048576 := by omega
    have HF := hid (HRW.out.flds (by omega) (fun j hj => by have := HSM.out j hj; omega))
    clear hsum HRW HSM hs
    by_cases hc : ls.length ≤ 65536
    · have i3 : (ls.length : Int) ≤ 65536 := by omega
      go_wp2_with fail
      refine (addFields HF.out l.length hl1).mono ?_
      rintro e wx ⟨t, rfl, hx, ht⟩
      have hx' := hx.symm
      subst hx'
      clear hx
      by_cases ht2 : t ≤ 1048576
      · have i4 : (t : Int) ≤ 1048576 := by omega
        go_wp2_with fail
        refine (cloneF HF.out (fun cap e => by injection e with e1 e2 e3; rw [← e3]; exact HN0.out e1)).mono ?_
        rintro e w1 ⟨bo, rfl, FB, ⟨xs, OX⟩, hbg, B1⟩
        have HOX := hid OX
        have HBG := hid hbg
        have HB1 := hid B1
        have HT0 := hid (HTB.out (by omega))
        have HTX := hid (txt_below (HTB.out (by omega)) B1)
        clear FB OX hbg B1 HF HTB
        go_wp2_with fail
        refine (clone a1 cap1 l w1 HTX.out HNB.out).mono ?_
        rintro e w2 ⟨aoT, rfl, OT, B2⟩
        have HOT := hid OT
        have HOX2 := hid (HOX.out.kept (w' := w2) (row := none) ⟨B2.os, B2.tape, B2.output, B2.size, fun k hk _ => B2.block k hk⟩ (by cases h : (Value.slice bo ls.length ls.length).ownBlock <;> simp))
        have HXL := hid (HOX.out.lt)
        have HB2 := hid (HB1.out.trans (B2.mono HB1.out.size))
        have hs12 := B2.size
        have hs01 := HB1.out.size
        clear OT B2 HOX HTX HB1
        go_wp2_with fail
        refine (newReaderWith bo ls.length ls.length w2).mono ?_
        rintro e wx ⟨rfl, rfl⟩
        go_wp2_with fail
        obtain ⟨ok, fs, hg⟩ : ∃ ok fs, gram l 0 0 0 = (ok, fs) := ⟨_, _, rfl⟩
        have HGB := hid (fun x (hx : x ∈ fs) => show x.1 ≤ x.2 ∧ x.2 ≤ l.length by
          have := gram_bounds l 0 0 0 (Nat.le_refl _) (by omega) x (by rw [hg]; exact hx)
          omega)
        have hfl : fs.length ≤ 1048577 := by have := gram_len l 0 0 0; rw [hg] at this; simp at this; omega
        have HG := hid hg
        clear hg
        have HSEP := hid (show ∀ g, aoT = some ⟨g, 0, none⟩ → g ≠ w2.heap.size ∧ (Value.slice bo ls.length ls.length).ownBlock ≠ some g from fun g e => ⟨by have := HOT.out.lt g e; omega, fun k => by have := (HXL.out g k).2; have := HOT.out.ge g e; omega⟩)
        have HNE := hid (show (Value.slice bo ls.length ls.length).ownBlock ≠ some w2.heap.size from fun k => by have := (HXL.out _ k).2; omega)
        refine (splitOver w2.heap.size bo ls.length xs aoT l _ ok fs HG.out 0 (by omega) (own_below HOT.out.zero ((Below.refl _ _).alloc (Nat.le_refl _) _)) HBB.out HSEP.out (heap_alloc_new w2 _) (HOX2.out.alloc _) HNE.out).mono ?_
        rintro e w3 ⟨ax, cx, rfl, cell3, F3, Fr3⟩
        have b3 : Below w.heap.size (w2.alloc (.cells #[.nilIface, .slice none 0 0, .int .i64 0, .int .i64 0, .slice bo ls.length ls.length, .slice none 0 0, .slice none 0 0] 57)) w3 := Fr3.below (by simp; omega) (fun i hi k => by
          rcases k with k | k
          · omega
          · cases hbo : bo with
            | none => rw [hbo] at k; simp [Value.ownBlock] at k
            | some g =>
              have := HBG.out g hbo
              rw [hbo] at k
              simp [Value.ownBlock] at k
              omega)
        have HB3 := hid ((HB2.out.alloc (by omega) _).trans b3)
        have HC3 := hid cell3
        have HF3 := hid F3
        clear cell3 F3 Fr3 b3 HOT HOX2 HXL HB2 HBG HSEP HNE
        go_wp2_with fail
        refine (readerFields _ _ w3 HC3.out).mono ?_
        rintro e wx ⟨rfl, hx⟩
        have hx' := hx.symm
        subst hx'
        clear hx HC3
        go_wp2_with fail
        refine (splitModelL a1 cap1 l w3 (txt_below HT0.out HB3.out) ok fs HG.out).mono ?_
        rintro e w4 ⟨a2, c2, a3, c3, rfl, r2, r3, B4⟩
        have HR2 := hid r2
        have HR3 := hid r3
        have HF4 := hid (flds_below HF3.out B4)
        have HB4 := hid (HB3.out.trans (B4.mono HB3.out.size))
        have HT4 := hid (txt_below HT0.out HB4.out)
        clear r2 r3 B4 HF3 HB3 HT0
        have hokb : (ok != ok) = false := by simp
        have hlb : ((fs.length : Int) != (fs.length : Int)) = false := by simp
        go_wp2
        go_loopw [13] (fun i wr => ∃ k q : Nat, k ≤ fs.length ∧ i = .int .i64 k ∧ wr = w4.drewN q) (fun i _ => fs.length - (intOf i).toNat)
        case atStart => exact ⟨0, 0, Nat.zero_le _, rfl, rfl⟩
        case round =>
          obtain ⟨k, q, hk, rfl, rfl⟩ := hrel
          by_cases hlt : k < fs.length
          · obtain ⟨g2, rfl, q2⟩ := HR2.out (by omega)
            obtain ⟨g3, rfl, q3⟩ := HR3.out (by omega)
            obtain ⟨b, o, rfl, g1⟩ := flds_cell HF4.out (by simp; omega)
            obtain ⟨u, f1, d1⟩ := g1 k (by simp; omega)
            have f2 := q2 k hlt
            have f3 := q3 k hlt
            have hx := HGB.out _ (getD_mem fs k hlt)
            rw [getD_map_part l fs k hlt] at d1
            generalize fs.getD k (0, 0) = x at *
            obtain ⟨xs, xe⟩ := x
            have HC := hid (same_field d1 (cut_hb HT4.out cb HNB.out (xs, xe) hx.1 hx.2) rfl q)
            have hcut := run_cut a1 l.length cap1 xs xe xs xe rfl rfl hx.1 (by omega)
            have k1 : (k : Int) < (fs.length : Int) := by omega
            have k0 : (0 : Int) ≤ (k : Int) := by omega
            clear g1 q2 q3 d1
            simp only [Nat.zero_add] at f2 f3
            go_wp2
            go_quiet ((go_at_call 21; exact HC.out _))
            go_wp2
            go_roundw
            case rel => exact ⟨k + 1, _, by omega, by go_num, rfl⟩
            case measure => simp [intOf]; omega
          · go_wp2
            go_ret
            exact ⟨rfl, below_drewN HB4.out _⟩
      · have i4 : (1048576 : Int) < (t : Int) := by omega
        go_wp2
        go_ret
        exact ⟨rfl, Below.refl _ _⟩
    · have i3 : (65536 : Int) < (ls.length : Int) := by omega
      go_wp2
      go_ret
      exact ⟨rfl, Below.refl _ _⟩

end Go.Proofs.Qxb6615032a
