/-
  eelgrass.position.
-/
import Derived.Test.Qxb6609003aFmtCount
import Derived.Stop.Texts
import Derived.Stop.Told
namespace Go.Proofs.Qxb6609003aFmt
set_option linter.unusedVariables false
set_option linter.unusedSimpArgs false
open Go.RowKit Plain
open Go.Extern.Stop Go.Stop Go.Extern
attribute [local go_sem] call17 guardS fmt0 fmt0r op3_100 op3_118 strict3

/-- The bytes of a list of numbers. -/
def bs (l : List Int) : ByteArray := ⟨(Lib.bytesOf l).toArray⟩
theorem bs_size (l : List Int) : (bs l).size = l.length := by
  show (Lib.bytesOf l).toArray.size = _
  simp [Lib.bytesOf]
theorem bs_get (l : List Int) (hb : ∀ x ∈ l, 0 ≤ x ∧ x < 256) (i : Nat) (h : i < l.length) : (((bs l).get! i).toNat : Int) = l.getD i 0 := by
  have e : (bs l).get! i = (Lib.bytesOf l).getD i 0 := by
    rw [← Lib.getD_get!']; rfl
  have hx := hb (l.getD i 0) (by simp [List.getD, h])
  rw [e]
  have e2 : (Lib.bytesOf l).getD i 0 = UInt8.ofNat (l.getD i 0).toNat := by simp [Lib.bytesOf, List.getD, h]
  rw [e2, UInt8.toNat_ofNat']
  omega

/-- How many runes. -/
def rc (l : List Int) : Nat := Lib.runeCount (bs l)
theorem rc_le (l : List Int) : rc l ≤ l.length := by
  have := Lib.runeCount_le (bs l); rw [bs_size] at this; exact this

theorem count_nl (l : List Int) (hb : ∀ x ∈ l, 0 ≤ x ∧ x < 256) : Lib.countByte (Lib.bytesOf l) (10 : Int).toNat.toUInt8 = nl l := by
  unfold Lib.countByte
  induction l with
  | nil => rfl
  | cons c r ih =>
    have ihr := ih (fun x hx => hb x (by simp [hx]))
    have hc := hb c (by simp)
    have e : Lib.bytesOf (c :: r) = UInt8.ofNat c.toNat :: Lib.bytesOf r := rfl
    rw [e, List.count_cons, ihr]
    simp only [nl]
    by_cases h : c = 10
    · subst h; simp; omega
    · have hne : (UInt8.ofNat c.toNat == (10 : Int).toNat.toUInt8) = false := by
        rw [beq_eq_false_iff_ne]
        intro e2
        have := congrArg UInt8.toNat e2
        rw [UInt8.toNat_ofNat'] at this
        have e10 : ((10 : Int).toNat.toUInt8).toNat = 10 := by decide
        rw [e10] at this
        omega
      rw [hne, if_neg h]; simp

theorem und22 : Tryf.prog.underlying 22 = some (.slice (Tryf.prog.elem 22)) := by kernel_rfl
theorem size5 (w : World) : (sizeOf (Tryf.prog.elem 22)).run Tryf.prog w = .ok 1 w := by kernel_rfl

theorem run_head (ao : Option Addr) (n cap h : Nat) (H : Int) (hH : H = h) (hh : h ≤ cap) (w : World) :
    (Instr.slice 22 (.slice ao n cap) none (some (.int .i64 H)) none).run Tryf.prog w = .ok (.slice ao h cap) w := by
  subst hH
  rw [run_slice_h w 22 ao n cap und22 .i64 h (by omega) (by omega), size5]
  cases ao <;> simp [Result.andThen, sliced, Addr.add]

/-- Where 'text[s:]' begins. -/
def cutA (ao : Option Addr) (cap s : Nat) : Option Addr := if cap = s then ao else ao.map (·.add s)
theorem run_tail (ao : Option Addr) (n cap s : Nat) (S : Int) (hS : S = s) (h1 : s ≤ n) (w : World) :
    (Instr.slice 22 (.slice ao n cap) (some (.int .i64 S)) none none).run Tryf.prog w = .ok (.slice (cutA ao cap s) (n - s) (cap - s)) w := by
  subst hS
  rw [run_slice_l w 22 ao n cap und22 .i64 s (by omega) (by omega), size5]
  simp [Result.andThen, sliced, cutA]

theorem below_drewN {B : Nat} {a w : World} (h : Below B a w) (n : Nat) : Below B a (w.drewN n) := h.trans ⟨rfl, rfl, rfl, Nat.le_refl _, fun _ _ => rfl⟩

/-- RuneCount at a row of the call's own. -/
theorem runeCount (b o cap : Nat) (l : List Int) (w : World) (hb : ∀ x ∈ l, 0 ≤ x ∧ x < 256) (hcap : l.length ≤ cap) (hl : l.length ≤ 2097152) (hc : ∀ i, i < l.length → w.cell? ⟨b, o + i, none⟩ = some (.int .u8 (l.getD i 0))) :
    Calls Tryf.prog 15 #[.slice (some ⟨b, o, none⟩) l.length cap] w fun e w' => e = .returned (.int .i64 (rc l : Nat)) ∧ Below w.heap.size w w' := by
  have h := Tryf.utf8_RuneCount (bs l) b o cap w (by rw [bs_size]; exact hcap) (fun j hj => by rw [bs_size] at hj; rw [hc j hj, bs_get l hb j hj]) (by rw [bs_size]; omega)
  rw [bs_size] at h
  refine h.mono ?_
  rintro e w' ⟨rfl, hw⟩
  refine ⟨rfl, ?_⟩
  rcases hw with rfl | ⟨t, pos, rfl⟩
  · exact Below.refl _ _
  · exact (Below.refl _ _).alloc (Nat.le_refl _) _

theorem reading_nat (x y : Nat) : reading (x : Int) (y : Int) = [[108, 105, 110, 101, 32, 37, 100, 44, 32, 99, 111, 108, 117, 109, 110, 32, 37, 100], shape3, digits 8 (x % 18446744073709551616), shape3, digits 8 (y % 18446744073709551616)] := by
  have e : ∀ z : Nat, ((z : Int) % 18446744073709551616).toNat = z % 18446744073709551616 := fun z => by omega
  unfold reading
  rw [e, e]

/-- fmt's text is told. -/
def Tells (G : Interp) : Prop := ∀ x y : Nat, x ≤ 4194304 → y ≤ 4194304 → FmtStop.textOf (G "fmt.Sprintf" (reading x y) 0) = ⟨(posText x y).toArray⟩

theorem aft_mem (l : List Int) : ∀ x ∈ aft l, x ∈ l := by
  intro x hx; rw [aft_drop l] at hx; exact List.mem_of_mem_drop hx

theorem countC (b o cap g c : Nat) (l : List Int) (w : World) (hb : ∀ x ∈ l, 0 ≤ x ∧ x < 256) (hc : ∀ i, i < l.length → w.cell? ⟨b, o + i, none⟩ = some (.int .u8 (l.getD i 0))) (h2 : w.cell? ⟨g, 0, none⟩ = some (.int .u8 10)) (m : Nat) (hm : nl l = m) :
    Calls Tryf.prog 14 #[.slice (some ⟨b, o, none⟩) l.length cap, .slice (some ⟨g, 0, none⟩) 1 c] w fun e w' => e = .returned (.int .i64 (m : Int)) ∧ w' = w := by
  have h := Tryf.bytes_Count_one b o l.length cap g 0 c l 10 w rfl hc h2
  rw [count_nl l hb, hm] at h
  exact h

theorem behind_lt (d : List Int) : behind d + (aft d).length = d.length := by
  have := aft_len d; unfold behind; omega

/-- The cells behind the last newline. -/
theorem aft_cells {w : World} {b o cap : Nat} {d : List Int} (hcap : d.length ≤ cap) (hc : ∀ i, i < d.length → w.cell? ⟨b, o + i, none⟩ = some (.int .u8 (d.getD i 0))) :
    ∃ b' o', cutA (some ⟨b, o, none⟩) cap (behind d) = some ⟨b', o', none⟩ ∧ ∀ i, i < (aft d).length → w.cell? ⟨b', o' + i, none⟩ = some (.int .u8 ((aft d).getD i 0)) := by
  have hb := behind_lt d
  by_cases h : cap = behind d
  · refine ⟨b, o, by rw [cutA, if_pos h], fun i hi => by omega⟩
  · refine ⟨b, o + behind d, by rw [cutA, if_neg h]; simp [Addr.add], fun i hi => ?_⟩
    rw [Nat.add_assoc, hc (behind d + i) (by omega)]
    have e : aft d = d.drop (behind d) := aft_drop d
    rw [e]
    simp [List.getD]

set_option maxHeartbeats 1000000 in
theorem position_some (G : Interp) (hT : Tells G) (b o n cap : Nat) (d : List Int) (w : World) (hG : G.answers w.tape) (hb : ∀ x ∈ d, 0 ≤ x ∧ x < 256) (hcap : d.length ≤ cap) (hl : d.length ≤ 2097152)
    (hc : ∀ i, i < d.length → w.cell? ⟨b, o + i, none⟩ = some (.int .u8 (d.getD i 0))) (L C : Nat) (hL : nl d + 1 = L) (hC : rc (aft d) + 1 = C) :
    Calls Tryf.prog 12 #[.slice (some ⟨b, o, none⟩) n cap, .int .i64 (d.length : Int)] w fun e w' => e = .returned (.string ⟨(posText L C).toArray⟩) ∧ Below w.heap.size w w' := by
  have hs1 := run_head (some ⟨b, o, none⟩) n cap d.length d.length rfl hcap
  have hal := aft_len d
  have hbd : behind d ≤ d.length := by unfold behind; omega
  have hlen : d.length - behind d = (aft d).length := by unfold behind; omega
  have HB := hid hb
  have HL := hid hL
  have HC := hid hC
  have HG := hid hG
  have HX := hid hc
  have HLen := hid hlen
  have HTx := hid hT
  have hL2 : L ≤ 4194304 := by have := nl_le d; omega
  have hC2 : C ≤ 4194304 := by have := rc_le (aft d); omega
  clear hb hL hC hG hc hlen hT hal
  obtain ⟨m, hm⟩ : ∃ m, nl d = m := ⟨_, rfl⟩
  obtain ⟨r, hr⟩ : ∃ r, rc (aft d) = r := ⟨_, rfl⟩
  have hLm : L = m + 1 := by rw [← HL.out, hm]
  have hCr : C = r + 1 := by rw [← HC.out, hr]
  subst hLm hCr
  have HM := hid hm
  have HR := hid hr
  clear hm hr
  go_enter Tryf.func12, Tryf.ntmps12
  go_wp2_with fail
  have hb1 : Below w.heap.size w (w.alloc (.cells #[.int .u8 10] 5)) := (Below.refl _ _).alloc (Nat.le_refl _) _
  have hc1 : ∀ i, i < d.length → (w.alloc (.cells #[.int .u8 10] 5)).cell? ⟨b, o + i, none⟩ = some (.int .u8 (d.getD i 0)) := fun i hi => (hb1.cell (p := ⟨b, o + i, none⟩) (World.block_lt_of_cell? w _ (HX.out i hi))).trans (HX.out i hi)
  have hg1 : (w.alloc (.cells #[.int .u8 10] 5)).cell? ⟨w.heap.size, 0, none⟩ = some (.int .u8 10) := by simp
  obtain ⟨W, hW⟩ : ∃ W, W = w.alloc (.cells #[.int .u8 10] 5) := ⟨_, rfl⟩
  rw [← hW] at hb1 hc1 hg1 ⊢
  have HB1 := hid hb1
  have HC1 := hid hc1
  have HG1 := hid hg1
  clear hW hb1 hc1 hg1 HX HL HC
  refine (countC b o cap w.heap.size 1 d W HB.out HC1.out HG1.out m HM.out).mono ?_
  rintro e wx ⟨rfl, hx⟩
  have hx' := hx.symm
  subst hx'
  clear hx
  go_wp2_with fail
  refine (lastIndexNl (some ⟨b, o, none⟩) cap d W ⟨hl, fun _ => ⟨b, o, rfl, HC1.out⟩⟩).mono ?_
  rintro e wx ⟨rfl, hx⟩
  have hx' := hx.symm
  subst hx'
  clear hx
  obtain ⟨b', o', hcut, hcell⟩ := aft_cells hcap HC1.out
  have hbl := behind_lt d
  have hal2 := aft_len d
  have hs2 := run_tail (some ⟨b, o, none⟩) d.length cap (behind d) (behind d) rfl hbd
  rw [hcut, show d.length - behind d = (aft d).length by omega] at hs2
  have hcp2 : (aft d).length ≤ cap - behind d := by omega
  have HRC := hid (runeCount b' o' (cap - behind d) (aft d) W (fun x hx => HB.out x (aft_mem d x hx)) hcp2 (by omega) hcell)
  rw [HR.out] at HRC
  clear hcut hcell HLen
  generalize behind d = bd at *
  generalize (aft d).length = la at *
  have hint : ((bd : Int) - 1 + 1) = (bd : Int) := by omega
  go_wp2_with fail
  refine HRC.out.mono ?_
  rintro e w2 ⟨rfl, B2⟩
  have hG2 : G.answers w2.tape := by rw [B2.tape, HB1.out.tape]; exact HG.out
  have hF2 := answers_open hG2
  have HB2 := hid (HB1.out.trans (B2.mono HB1.out.size))
  have hsz := HB2.out.size
  have HTT := hid (HTx.out (m + 1) (r + 1) hL2 hC2)
  clear hG2 B2 hs1 hs2 HRC HTx
  go_wp2
  go_ret
  refine ⟨?_, ((HB2.out.alloc hsz _).drew)⟩
  show Ending.returned (.string (FmtStop.textOf (G "fmt.Sprintf" _ 0))) = _
  rw [← reading_nat, HTT.out]

set_option maxHeartbeats 1000000 in
theorem position_nil (G : Interp) (hT : Tells G) (w : World) (hG : G.answers w.tape) :
    Calls Tryf.prog 12 #[.slice none 0 0, .int .i64 0] w fun e w' => e = .returned (.string ⟨(posText 1 1).toArray⟩) ∧ Below w.heap.size w w' := by
  have HTx := hid hT
  have hF := answers_open hG
  have hs1 := run_head none 0 0 0 0 rfl (Nat.le_refl _)
  have hs2 := run_tail none 0 0 0 0 rfl (Nat.le_refl _)
  have hcz : cutA none 0 0 = none := rfl
  rw [hcz] at hs2
  clear hT hcz
  go_enter Tryf.func12, Tryf.ntmps12
  go_wp2_with fail
  refine (Tryf.bytes_Count_one_nil w.heap.size 0 1 10 _ (by simp)).mono ?_
  rintro e wx ⟨rfl, rfl⟩
  go_wp2_with fail
  refine (lastIndexNl none 0 [] _ ⟨by simp, by simp⟩).mono ?_
  rw [show behind [] = 0 from rfl]
  rintro e wx ⟨rfl, rfl⟩
  go_wp2_with fail
  refine (Tryf.utf8_RuneCount_nil _).mono ?_
  rintro e wx ⟨rfl, rfl⟩
  have HTT := hid (HTx.out 1 1 (by omega) (by omega))
  go_wp2
  go_ret
  refine ⟨?_, ?_⟩
  · show Ending.returned (.string (FmtStop.textOf (G "fmt.Sprintf" _ 0))) = _
    have e := HTT.out
    rw [reading_nat, show 1 % 18446744073709551616 = 1 from rfl] at e
    rw [e]
    rfl
  · exact (((Below.refl _ _).alloc (Nat.le_refl _) _).alloc (by simp) _).drew

end Go.Proofs.Qxb6609003aFmt
