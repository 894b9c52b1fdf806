/-
  make(0, n) and three appends: the joined text.
-/
import Derived.Test.Qxb6609003aFmtBuf
import Derived.Laws.OwnMore
import Derived.Laws.MakeOwn
namespace Go.Proofs.Qxb6609003aFmt
set_option linter.unusedVariables false
set_option linter.unusedSimpArgs false
open Go.RowKit Plain

theorem info_five : ∃ i, Tryf.prog.info? 5 = some i ∧ i.zero = some (.int .u8 0) ∧ i.size = 1 ∧ i.bytes = 1 := by
  obtain ⟨i, hi, hzz⟩ := Option.map_eq_some_iff.1 Tryf.info5
  simp only [Prod.mk.injEq] at hzz
  exact ⟨i, hi, hzz.1, hzz.2.1, hzz.2.2⟩

theorem BufI.below {w w' : World} {ao : Option Addr} {cap : Nat} {l : List Int} (h : BufI w ao cap l) {B : Nat} (hb : Below B w w') (hB : w.heap.size ≤ B) : BufI w' ao cap l := by
  rcases h with h | ⟨a, rfl, hcap, hc⟩
  · exact Or.inl h
  · refine Or.inr ⟨a, rfl, hcap, fun h0 => ?_⟩
    obtain ⟨b, o, rfl, hc'⟩ := hc h0
    refine ⟨b, o, rfl, fun i hi => ?_⟩
    rw [hb.cell (p := ⟨b, o + i, none⟩) (Nat.lt_of_lt_of_le (World.block_lt_of_cell? w _ (hc' i hi)) hB)]
    exact hc' i hi

theorem Buf.i {w : World} {ao : Option Addr} {cap : Nat} {l : List Int} (h : Buf w ao cap l) : BufI w ao cap l := by
  rcases h with h | ⟨b, o, rfl, hcap, hc⟩
  · exact Or.inl h
  · exact Or.inr ⟨_, rfl, hcap, fun _ => ⟨b, o, rfl, hc⟩⟩

/-- One append of bytes to a row of the call's own. -/
theorem app_run {W : World} {base : Nat} {v : Value} {n : Nat} {xs : List Value} (hown : W.ownsRow base 5 1 v n xs) (hv : v ≠ .slice none 0 0) {ao : Option Addr} {cap : Nat} {l : List Int} (hs : BufI W ao cap l) (hbase : base ≤ W.heap.size) (h63 : n + l.length ≤ 4194304) :
    ∃ v' W', (Builtin.append_ #[22, 22] 22 #[v, .slice ao l.length cap]).run Tryf.prog W = .ok v' W' ∧ W'.ownsRow base 5 1 v' (n + l.length) (xs ++ l.map (.int .u8)) ∧ v' ≠ .slice none 0 0 ∧ Below base W W' := by
  obtain ⟨i, hi, hz, hs1, hb1⟩ := info_five
  rcases hs with ⟨rfl, rfl, rfl⟩ | ⟨ad, rfl, hcap, hc⟩
  · exact ⟨v, W, run_append_owned_none (P := Tryf.prog) W base 22 22 5 i 1 Tryf.underlying22 hi v n xs hown, by simpa using hown, hv, Below.refl _ _⟩
  · obtain ⟨v', W', hr, ho, hg, hn⟩ := run_append_own (P := Tryf.prog) W base 22 22 5 i (.int .u8 0) 1 1 Tryf.underlying22 hi hz hs1 hb1 rfl (by omega) v n xs hown ad l.length cap (l.map (.int .u8)) (by simp) (by
        intro j u hj
        rw [List.getElem?_map] at hj
        obtain ⟨z, hz, rfl⟩ := Option.map_eq_some_iff.1 hj
        have hjl : j < l.length := (List.getElem?_eq_some_iff.1 hz).1
        obtain ⟨b, o, rfl, hc'⟩ := hc (by omega)
        have := hc' j hjl
        simp [List.getD, hz] at this
        have ea : (⟨b, o, none⟩ : Addr).add j = ⟨b, o + j, none⟩ := by cases j <;> simp [Addr.add]
        rw [ea]
        exact this) (by
        intro u hu
        obtain ⟨z, _, rfl⟩ := List.mem_map.1 hu
        rfl) (by unfold maxLen; omega) (by omega) hbase
    refine ⟨v', W', hr, ho, fun e => hv ((hn.1 e).1), (Below.refl base W).grown hg hbase (fun k hk => ?_)⟩
    rcases hown.2 with ⟨rfl, _⟩ | ⟨g, c, cur, rfl, hb, _⟩
    · exact absurd rfl hv
    · simp [Value.ownBlock] at hk
      omega

theorem lies_at {W : World} {base : Nat} {v : Value} {n : Nat} {xs : List Value} (h : W.ownsRow base 5 1 v n xs) (hv : v ≠ .slice none 0 0) : ∃ g c, v = .slice (some ⟨g, 0, none⟩) n c := by
  rcases h.2 with ⟨e, _⟩ | ⟨g, c, cur, hv', _⟩
  · exact absurd e hv
  · exact ⟨g, c, hv'⟩

/-- The joined text. -/
structure Joined (W : World) (ao : Option Addr) (cap : Nat) (l : List Int) (bo : Option Addr) (bcap : Nat) (d : List Int) (W2 W3 W4 W5 : World) (g1 c1 g2 c2 g c : Nat) : Prop where
  make : (Instr.makeSlice 22 (.int .i64 0) (.int .i64 ((l.length : Int) + 1 + (d.length : Int)))).run Tryf.prog W = .ok (.slice (some ⟨W.heap.size, 0, none⟩) 0 (l.length + 1 + d.length)) W2
  one : (Builtin.append_ #[22, 22] 22 #[.slice (some ⟨W.heap.size, 0, none⟩) 0 (l.length + 1 + d.length), .slice ao l.length cap]).run Tryf.prog W2 = .ok (.slice (some ⟨g1, 0, none⟩) l.length c1) W3
  two : (Builtin.append_ #[22, 22] 22 #[.slice (some ⟨g1, 0, none⟩) l.length c1, .slice (some ⟨W3.heap.size, 0, none⟩) 1 1]).run Tryf.prog (W3.alloc (.cells #[.int .u8 10] 5)) = .ok (.slice (some ⟨g2, 0, none⟩) (l.length + 1) c2) W4
  three : (Builtin.append_ #[22, 22] 22 #[.slice (some ⟨g2, 0, none⟩) (l.length + 1) c2, .slice bo d.length bcap]).run Tryf.prog W4 = .ok (.slice (some ⟨g, 0, none⟩) (l.length + 1 + d.length) c) W5
  buf : Buf W5 (some ⟨g, 0, none⟩) c (l ++ 10 :: d)
  below : Below W.heap.size W W5

theorem joined (W : World) {ao : Option Addr} {cap : Nat} {l : List Int} (hl : BufI W ao cap l) {bo : Option Addr} {bcap : Nat} {d : List Int} (hd : BufI W bo bcap d) (hsz : l.length + d.length ≤ 1048576) :
    ∃ W2 W3 W4 W5 g1 c1 g2 c2 g c, Joined W ao cap l bo bcap d W2 W3 W4 W5 g1 c1 g2 c2 g c := by
  obtain ⟨i, hi, hz, hs1, hb1⟩ := info_five
  obtain ⟨W2, hm, ho2, hg2⟩ := run_make_own (P := Tryf.prog) W W.heap.size 22 5 i (.int .u8 0) 1 Tryf.underlying22 hi hz hs1 .i64 .i64 (l.length + 1 + d.length) (by rw [hb1]; omega) (by unfold maxLen; omega) (Nat.le_refl _)
  have B2 : Below W.heap.size W W2 := (Below.refl _ _).grown hg2 (Nat.le_refl _) (fun k hk => by cases hk)
  obtain ⟨v1, W3, h1, ho3, hv1, b3⟩ := app_run ho2 (by simp) (hl.below B2 (Nat.le_refl _)) B2.size (by omega)
  have B3 := B2.trans b3
  obtain ⟨g1, c1, hs1'⟩ := lies_at ho3 hv1
  rw [Nat.zero_add] at hs1'
  have B3a : Below W.heap.size W (W3.alloc (.cells #[.int .u8 10] 5)) := B3.alloc B3.size _
  have g3 : W3.grownBy (W3.alloc (.cells #[.int .u8 10] 5)) none := World.grownBy_alloc W3 _ none
  have ho3a := ho3.kept g3 (by
    rcases ho3.2 with ⟨e, _⟩ | ⟨g, c, cur, rfl, _⟩
    · exact absurd e hv1
    · exact Or.inr (by simp [Value.ownBlock]))
  have bT : BufI (W3.alloc (.cells #[.int .u8 10] 5)) (some ⟨W3.heap.size, 0, none⟩) 1 [10] := by
    refine Or.inr ⟨_, rfl, by simp, fun _ => ⟨_, _, rfl, fun i hi => ?_⟩⟩
    simp at hi
    subst hi
    simp
  obtain ⟨v2, W4, h2, ho4, hv2, b4⟩ := app_run ho3a hv1 bT B3a.size (by simp; omega)
  have B4 := B3a.trans b4
  obtain ⟨g2, c2, hs2'⟩ := lies_at ho4 hv2
  rw [show 0 + l.length + [(10 : Int)].length = l.length + 1 by simp] at hs2'
  obtain ⟨v3, W5, h3, ho5, hv3, b5⟩ := app_run ho4 hv2 (hd.below B4 (Nat.le_refl _)) B4.size (by simp; omega)
  have B5 := B4.trans b5
  rcases ho5.2 with ⟨e, _⟩ | ⟨g, c, cur, hv, hbg, hg, hnc, hcm, hcs, htk⟩
  · exact absurd e hv3
  have en : 0 + l.length + [(10 : Int)].length + d.length = l.length + 1 + d.length := by simp
  rw [en] at hv hnc htk
  subst hv
  refine ⟨W2, W3, W4, W5, g1, c1, g2, c2, g, c, ?_, by rw [← hs1']; exact h1, by rw [← hs1', ← hs2']; exact h2, by rw [← hs2']; exact h3, Or.inr ⟨g, 0, rfl, by simp; omega, fun j hj => ?_⟩, B5⟩
  · rw [show ((l.length : Int) + 1 + (d.length : Int)) = ((l.length + 1 + d.length : Nat) : Int) by omega]; exact hm
  · have hx : cur.toList.take ((l.length + 1 + d.length) * 1) = (l ++ 10 :: d).map (Value.int .u8) := by rw [htk]; simp
    have hj' : j < l.length + 1 + d.length := by simp at hj; omega
    rw [cell_of_heap hg, Nat.zero_add]
    have e1 : (cur.toList.take ((l.length + 1 + d.length) * 1))[j]? = cur[j]? := by
      rw [List.getElem?_take_of_lt (by omega), Array.getElem?_toList]
    rw [← e1, hx, List.getElem?_map]
    simp [List.getD, List.getElem?_eq_getElem hj]

/-- An append of which the run is known, as one step. -/
theorem append_step {w : World} {ops : Array Oper} {rest : List Oper} {o : Oper} {a : Act} {Q : Exit → Act → World → Prop} (hgd : o.guard = none) (s x : Operand) (ho : o.op = .call { callee := .builtin .append, args := #[s, x], argTypes := #[22, 22] }) (hty : o.type = 22)
    (v xv v' : Value) (w' : World) (hs : a.eval s = v) (hx : a.eval x = xv) (hr : (Builtin.append_ #[22, 22] 22 #[v, xv]).run Tryf.prog w = .ok v' w') (h : wpList Tryf.prog ops Q rest (a.put o.dst v') w') : wpList Tryf.prog ops Q (o :: rest) a w := by
  refine wpList_plain hgd fun K hK => ?_
  unfold Oper.wp execOp
  simp only [ho, hty, resolve, invoke, builtin, Sem.run_bind, Sem.run_pure, Result.andThen_ok, List.map_toArray, List.map_cons, List.map_nil, hs, hx, hr]
  exact hK _ _ h

/-! ### The law of the prefixed line -/
theorem join_take (l d : List Int) (o : Nat) : (l ++ 10 :: d).take (l.length + 1 + o) = l ++ 10 :: d.take o := by
  rw [show l.length + 1 + o = l.length + (1 + o) by omega, List.take_length_add_append, Nat.add_comm 1 o, List.take_succ_cons]
theorem join_nl (l d : List Int) (o : Nat) : nl ((l ++ 10 :: d).take (l.length + 1 + o)) = nl l + 1 + nl (d.take o) := by
  rw [join_take, nl_append]; simp [nl]; omega
theorem join_aft (l d : List Int) (o : Nat) : aft ((l ++ 10 :: d).take (l.length + 1 + o)) = aft (d.take o) := by
  rw [join_take, aft_append, if_pos (by simp only [nl]; rw [if_pos trivial]; omega)]
  simp only [aft]
  by_cases h : 0 < nl (d.take o)
  · rw [if_pos h]
  · rw [if_neg h, if_pos trivial, aft_free _ (by omega)]

end Go.Proofs.Qxb6609003aFmt
