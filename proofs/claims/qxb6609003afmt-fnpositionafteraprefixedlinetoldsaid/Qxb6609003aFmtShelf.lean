/-
  DERIVED: THE SHELF's CONTRACTS AT THIS DUMP, IN PLAIN WORDS (tools/lay-plain.mjs out of 'TryfShelf.lean', which tools/lay-shelf.mjs wrote): THE SAME DECLARATIONS UNDER THE SAME NAMES: 'import', 'namespace', 'open', 'def', 'theorem' AND NOTHING ELSE: no command of the shelf's: FOR A HAND-IN. Each laying: the table of numbers ('.._ren') and one theorem, a field a fact of the dump's own or the kernel's comparison; each contract: ONE APPLICATION.
-/
import Derived.Ground.SlbNamesProg
import Derived.Ground.Names7Prog
import Derived.Shelf.Bytes.SlCountOne
import Derived.Shelf.Spec.RuneCount
import Derived.Shelf.Spec.NilArms
import Derived.Test.Qxb6609003aFmtProg
namespace Go.Proofs
open Go.Shelf
def Tryf.laysSlB13_ren : Go.Shelf.Ren := ⟨fun | 13 => 14 | 24 => 15 | 25 => 18 | 12 => 19 | 31 => 20 | 19 => 22 | 20 => 23 | 21 => 24 | 22 => 25 | 23 => 26 | 29 => 27 | 30 => 28 | n => n, fun | 22 => 22 | 3 => 3 | 4 => 4 | 0 => 0 | 5 => 5 | 9 => 9 | 33 => 32 | 40 => 41 | 39 => 40 | n => n, fun | 0 => 0 | n => n⟩
theorem Tryf.laysSlB13 : Go.Proofs.SlLaysB.n13 Tryf.prog Tryf.laysSlB13_ren := {
  mixed := by kernel_rfl
  f13 := Tryf.func14.trans (congrArg some (by kernel_rfl))
  f25 := Tryf.func18.trans (congrArg some (by kernel_rfl))
  t0 := Tryf.underlying0
  a0 := Tryf.isAgg0
  z0 := Tryf.sizeOf0
  v0 := Tryf.zeroValue0
  t3 := Tryf.underlying3
  a3 := Tryf.isAgg3
  z3 := Tryf.sizeOf3
  v3 := Tryf.zeroValue3
  t4 := Tryf.underlying4
  a4 := Tryf.isAgg4
  z4 := Tryf.sizeOf4
  v4 := Tryf.zeroValue4
  t5 := Tryf.underlying5
  a5 := Tryf.isAgg5
  z5 := Tryf.sizeOf5
  v5 := Tryf.zeroValue5
  t22 := Tryf.underlying22
  a22 := Tryf.isAgg22
  z22 := Tryf.sizeOf22
  v22 := Tryf.zeroValue22 }
open Go.RowKit Go.Lib in
theorem Tryf.bytes_Count_one (b o n c b2 o2 d : Nat) (xs : List Int) (cv : Int) (w : World) (hx : xs.length = n) (hc : ∀ i, i < n → w.cell? ⟨b, o + i, none⟩ = some (.int .u8 (xs.getD i 0))) (hc2 : w.cell? ⟨b2, o2, none⟩ = some (.int .u8 cv)) :
    Calls Tryf.prog 14 #[.slice (some ⟨b, o, none⟩) n c, .slice (some ⟨b2, o2, none⟩) 1 d] w fun e w' => e = .returned (.int .i64 (Lib.countByte (Lib.bytesOf xs) cv.toNat.toUInt8)) ∧ w' = w := Any.bytes_Count_one Tryf.laysSlB13 b o n c b2 o2 d xs cv w hx hc hc2
open Go.RowKit Go.Lib in
theorem Tryf.bytes_Count_one_at (a : Addr) (n c b2 o2 d : Nat) (xs : List Int) (cv : Int) (w : World) (hx : xs.length = n) (hc : ∀ i, i < n → w.cell? (a.add i) = some (.int .u8 (xs.getD i 0))) (hc2 : w.cell? ⟨b2, o2, none⟩ = some (.int .u8 cv)) :
    Calls Tryf.prog 14 #[.slice (some a) n c, .slice (some ⟨b2, o2, none⟩) 1 d] w fun e w' => e = .returned (.int .i64 (Lib.countByte (Lib.bytesOf xs) cv.toNat.toUInt8)) ∧ w' = w := Any.bytes_Count_one_at Tryf.laysSlB13 a n c b2 o2 d xs cv w hx hc hc2
open Go.RowKit Go.Lib in
theorem Tryf.bytes_Count_one_nil (b2 o2 d : Nat) (cv : Int) (w : World) (hc2 : w.cell? ⟨b2, o2, none⟩ = some (.int .u8 cv)) :
    Calls Tryf.prog 14 #[.slice none 0 0, .slice (some ⟨b2, o2, none⟩) 1 d] w fun e w' => e = .returned (.int .i64 0) ∧ w' = w := Any.bytes_Count_one_nil Tryf.laysSlB13 b2 o2 d cv w hc2
def Tryf.lays7x31_ren : Go.Shelf.Ren := ⟨fun | 31 => 15 | 48 => 20 | n => n, fun | 30 => 22 | 3 => 3 | 4 => 4 | 0 => 0 | 5 => 5 | 9 => 9 | n => n, fun | n => n⟩
theorem Tryf.lays7x31 : Go.Proofs.Lays7.n31 Tryf.prog Tryf.lays7x31_ren := {
  mixed := by kernel_rfl
  f31 := Tryf.func15.trans (congrArg some (by kernel_rfl))
  f48 := Tryf.func20.trans (congrArg some (by kernel_rfl))
  t0 := Tryf.underlying0
  a0 := Tryf.isAgg0
  z0 := Tryf.sizeOf0
  v0 := Tryf.zeroValue0
  i0 := by kernel_rfl
  t3 := Tryf.underlying3
  a3 := Tryf.isAgg3
  z3 := Tryf.sizeOf3
  v3 := Tryf.zeroValue3
  i3 := by kernel_rfl
  t4 := Tryf.underlying4
  a4 := Tryf.isAgg4
  z4 := Tryf.sizeOf4
  v4 := Tryf.zeroValue4
  i4 := by kernel_rfl
  t5 := Tryf.underlying5
  a5 := Tryf.isAgg5
  z5 := Tryf.sizeOf5
  v5 := Tryf.zeroValue5
  i5 := by kernel_rfl
  t9 := Tryf.underlying9
  a9 := Tryf.isAgg9
  z9 := Tryf.sizeOf9
  v9 := Tryf.zeroValue9
  i9 := by kernel_rfl
  t30 := Tryf.underlying22
  a30 := Tryf.isAgg22
  z30 := Tryf.sizeOf22
  v30 := Tryf.zeroValue22
  i30 := by kernel_rfl }
theorem Tryf.utf8_RuneCount (s : ByteArray) (b off cap : Nat) (w : World) (hcap : s.size ≤ cap) (hp : ∀ j, j < s.size → w.cell? ⟨b, off + j, none⟩ = some (.int .u8 (s.get! j).toNat)) (hs : s.size < 9223372036854775807) :
    Calls Tryf.prog 15 #[.slice (some ⟨b, off, none⟩) s.size cap] w fun e w' => e = .returned (.int .i64 (Lib.runeCount s)) ∧ (w' = w ∨ ∃ t pos, w' = w.iter t pos) := Any7.utf8_RuneCount Tryf.lays7x31 s b off cap w hcap hp hs
theorem Tryf.utf8_RuneCount_nil (w : World) :
    Calls Tryf.prog 15 #[.slice none 0 0] w fun e w' => e = .returned (.int .i64 0) ∧ w' = w := Any7.utf8_RuneCount_nil Tryf.lays7x31 w
end Go.Proofs
