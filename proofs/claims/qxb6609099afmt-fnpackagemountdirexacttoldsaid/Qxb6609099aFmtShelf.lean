/-
  The shelf's contracts at this program (laid by the kit's own tool).
-/
import Derived.Shelf.Strings.Builder1
import Derived.Shelf.Strings.Builder2
import Derived.Shelf.Strings.OnBuilder
import Derived.Shelf.Small.Utf8
import Derived.Shelf.Small.Strs
import Derived.Shelf.Strconv.Itoa0
import Derived.Shelf.Strconv.Itoa1
import Derived.Shelf.LaysM
import Derived.Shelf.Strconv.Itoa2
import Derived.Shelf.Strconv.Itoa3
import Derived.Shelf.Strings.Search1
import Derived.Shelf.Strings.Runes
import Derived.Shelf.Strings.IndexAny
import Derived.Shelf.Strings.AsciiSet
import Derived.Shelf.Strings.IndexAnyAll
import Derived.Ground.PaProg
import Derived.Shelf.Path.FileSmall
import Derived.Shelf.Path.FLazyBuf
import Derived.Shelf.Path.FCleanPre
import Derived.Shelf.Path.FCleanRel
import Derived.Shelf.Path.FCleanAbs
import Derived.Shelf.Path.FClean
import Derived.Shelf.Path.FJoin
import Derived.Shelf.Path.JoinRules
import Derived.Test.Qxb6609099aFmtProg
namespace Go.Proofs
open Go.Shelf
def Tryf.lays169_ren : Go.Shelf.Ren := ⟨fun | 169 => 44 | n => n, fun | 70 => 63 | 9 => 9 | 0 => 0 | 72 => 65 | 37 => 43 | 127 => 86 | 3 => 3 | 5 => 5 | n => n, fun | n => n⟩
theorem Tryf.lays169 : Go.Proofs.Lays.n169 Tryf.prog Tryf.lays169_ren := {
  mixed := by kernel_rfl
  f169 := Tryf.func44.trans (congrArg some (by kernel_rfl))
  t0 := Tryf.underlying0
  a0 := Tryf.isAgg0
  z0 := Tryf.sizeOf0
  v0 := Tryf.zeroValue0
  t3 := Tryf.underlying3
  a3 := Tryf.isAgg3
  z3 := Tryf.sizeOf3
  v3 := Tryf.zeroValue3
  t9 := Tryf.underlying9
  a9 := Tryf.isAgg9
  z9 := Tryf.sizeOf9
  v9 := Tryf.zeroValue9
  t37 := Tryf.underlying43
  a37 := Tryf.isAgg43
  z37 := Tryf.sizeOf43
  v37 := Tryf.zeroValue43
  t70 := Tryf.underlying63
  a70 := Tryf.isAgg63
  z70 := Tryf.sizeOf63
  v70 := Tryf.zeroValue63
  t72 := Tryf.underlying65
  a72 := Tryf.isAgg65
  z72 := Tryf.sizeOf65
  v72 := Tryf.zeroValue65
  t127 := Tryf.underlying86
  a127 := Tryf.isAgg86
  z127 := Tryf.sizeOf86
  v127 := Tryf.zeroValue86 }
theorem Tryf.Builder_Extra_169 : Builder.Extra Tryf.prog Tryf.lays169_ren := {
  sizeBuilder := by kernel_rfl
  liesBuilder := by kernel_rfl
  t5 := Tryf.underlying5
  a5 := Tryf.isAgg5
  z5 := Tryf.sizeOf5
  v5 := Tryf.zeroValue5
  infoByte := by kernel_rfl
  cellsByte := by kernel_rfl
  sizeByte := by kernel_rfl
  neB5 := by decide }
open Go.RowKit in
theorem Tryf.Builder_String (B b : Nat) (l : List UInt8) (w : World) (h : Lib.IsBuilder 65 5 B b (Lib.byteCells l) w) (h0 : l ≠ []) :
    Calls Tryf.prog 44 #[.pointer (some ⟨b, 0, none⟩)] w fun e w' => e = .returned (.string ⟨l.toArray⟩) ∧ Below B w w' := Any.Builder_String Tryf.lays169 Tryf.Builder_Extra_169 B b l w h h0
open Go.RowKit in
theorem Tryf.Builder_String_empty (B b : Nat) (w : World) (h : Lib.IsBuilder 65 5 B b [] w) (hBw : B ≤ w.heap.size) :
    Calls Tryf.prog 44 #[.pointer (some ⟨b, 0, none⟩)] w fun e w' => e = .returned (.string ⟨#[]⟩) ∧ Below B w w' := Any.Builder_String_empty Tryf.lays169 Tryf.Builder_Extra_169 B b w h hBw
open Go.RowKit in
theorem Tryf.Builder_String_any (B b : Nat) (l : List UInt8) (w : World) (h : Lib.IsBuilder 65 5 B b (Lib.byteCells l) w) (hBw : B ≤ w.heap.size) :
    Calls Tryf.prog 44 #[.pointer (some ⟨b, 0, none⟩)] w fun e w' => e = .returned (.string ⟨l.toArray⟩) ∧ Below B w w' := Any.Builder_String_any Tryf.lays169 Tryf.Builder_Extra_169 B b l w h hBw
def Tryf.lays241_ren : Go.Shelf.Ren := ⟨fun | 241 => 61 | 277 => 70 | n => n, fun | 70 => 63 | 3 => 3 | 0 => 0 | 72 => 65 | 37 => 43 | 5 => 5 | n => n, fun | n => n⟩
theorem Tryf.lays241 : Go.Proofs.Lays.n241 Tryf.prog Tryf.lays241_ren := {
  mixed := by kernel_rfl
  f241 := Tryf.func61.trans (congrArg some (by kernel_rfl))
  f277 := Tryf.func70.trans (congrArg some (by kernel_rfl))
  t0 := Tryf.underlying0
  a0 := Tryf.isAgg0
  z0 := Tryf.sizeOf0
  v0 := Tryf.zeroValue0
  t3 := Tryf.underlying3
  a3 := Tryf.isAgg3
  z3 := Tryf.sizeOf3
  v3 := Tryf.zeroValue3
  t37 := Tryf.underlying43
  a37 := Tryf.isAgg43
  z37 := Tryf.sizeOf43
  v37 := Tryf.zeroValue43
  t70 := Tryf.underlying63
  a70 := Tryf.isAgg63
  z70 := Tryf.sizeOf63
  v70 := Tryf.zeroValue63
  t72 := Tryf.underlying65
  a72 := Tryf.isAgg65
  z72 := Tryf.sizeOf65
  v72 := Tryf.zeroValue65 }
theorem Tryf.Builder_Extra_241 : Builder.Extra Tryf.prog Tryf.lays241_ren := {
  sizeBuilder := by kernel_rfl
  liesBuilder := by kernel_rfl
  t5 := Tryf.underlying5
  a5 := Tryf.isAgg5
  z5 := Tryf.sizeOf5
  v5 := Tryf.zeroValue5
  infoByte := by kernel_rfl
  cellsByte := by kernel_rfl
  sizeByte := by kernel_rfl
  neB5 := by decide }
open Go.RowKit in
theorem Tryf.Builder_grow_fresh (B b n : Nat) (w : World) (hB : B ≤ b) (hbk : w.heap[b]? = some (.cells #[.pointer (some ⟨b, 0, none⟩), .slice none 0 0] 65 (0, 0))) (hBw : B ≤ w.heap.size) (hn : n ≤ 281474976710656) :
    Calls Tryf.prog 61 #[.pointer (some ⟨b, 0, none⟩), .int .i64 n] w fun e w' => e = .returned (.tuple #[]) ∧ (Lib.BuilderAt 65 5 B b (.pointer (some ⟨b, 0, none⟩)) [] w' ∧ Below B w w') := Any.Builder_grow_fresh Tryf.lays241 Tryf.Builder_Extra_241 B b n w hB hbk hBw hn
def Tryf.lays165_ren : Go.Shelf.Ren := ⟨fun | 165 => 42 | 240 => 60 | 241 => 61 | 276 => 69 | 277 => 70 | n => n, fun | 70 => 63 | 3 => 3 | 0 => 0 | 4 => 4 | 9 => 9 | 20 => 20 | 72 => 65 | 37 => 43 | 164 => 93 | 5 => 5 | n => n, fun | n => n⟩
theorem Tryf.lays165 : Go.Proofs.Lays.n165 Tryf.prog Tryf.lays165_ren := {
  mixed := by kernel_rfl
  f165 := Tryf.func42.trans (congrArg some (by kernel_rfl))
  f240 := Tryf.func60.trans (congrArg some (by kernel_rfl))
  f241 := Tryf.func61.trans (congrArg some (by kernel_rfl))
  f276 := Tryf.func69.trans (congrArg some (by kernel_rfl))
  f277 := Tryf.func70.trans (congrArg some (by kernel_rfl))
  t0 := Tryf.underlying0
  a0 := Tryf.isAgg0
  z0 := Tryf.sizeOf0
  v0 := Tryf.zeroValue0
  t3 := Tryf.underlying3
  a3 := Tryf.isAgg3
  z3 := Tryf.sizeOf3
  v3 := Tryf.zeroValue3
  t4 := Tryf.underlying4
  a4 := Tryf.isAgg4
  z4 := Tryf.sizeOf4
  v4 := Tryf.zeroValue4
  t9 := Tryf.underlying9
  a9 := Tryf.isAgg9
  z9 := Tryf.sizeOf9
  v9 := Tryf.zeroValue9
  t20 := Tryf.underlying20
  a20 := Tryf.isAgg20
  z20 := Tryf.sizeOf20
  v20 := Tryf.zeroValue20
  t37 := Tryf.underlying43
  a37 := Tryf.isAgg43
  z37 := Tryf.sizeOf43
  v37 := Tryf.zeroValue43
  t70 := Tryf.underlying63
  a70 := Tryf.isAgg63
  z70 := Tryf.sizeOf63
  v70 := Tryf.zeroValue63
  t72 := Tryf.underlying65
  a72 := Tryf.isAgg65
  z72 := Tryf.sizeOf65
  v72 := Tryf.zeroValue65
  t164 := Tryf.underlying93
  a164 := Tryf.isAgg93
  z164 := Tryf.sizeOf93
  v164 := Tryf.zeroValue93 }
theorem Tryf.Builder_Extra_165 : Builder.Extra Tryf.prog Tryf.lays165_ren := {
  sizeBuilder := by kernel_rfl
  liesBuilder := by kernel_rfl
  t5 := Tryf.underlying5
  a5 := Tryf.isAgg5
  z5 := Tryf.sizeOf5
  v5 := Tryf.zeroValue5
  infoByte := by kernel_rfl
  cellsByte := by kernel_rfl
  sizeByte := by kernel_rfl
  neB5 := by decide }
open Go.RowKit in
theorem Tryf.Builder_Grow_fresh (B b n : Nat) (w : World) (hB : B ≤ b) (hbk : w.heap[b]? = some (.cells #[.pointer none, .slice none 0 0] 65 (0, 0))) (hBw : B ≤ w.heap.size) (hn : n ≤ 281474976710656) :
    Calls Tryf.prog 42 #[.pointer (some ⟨b, 0, none⟩), .int .i64 n] w fun e w' => e = .returned (.tuple #[]) ∧ (Lib.BuilderAt 65 5 B b (.pointer (some ⟨b, 0, none⟩)) [] w' ∧ Below B w w') := Any.Builder_Grow_fresh Tryf.lays165 Tryf.Builder_Extra_165 B b n w hB hbk hBw hn
def Tryf.lays156_ren : Go.Shelf.Ren := ⟨fun | 156 => 35 | 165 => 42 | 166 => 43 | 169 => 44 | 240 => 60 | 241 => 61 | 276 => 69 | 277 => 70 | n => n, fun | 31 => 45 | 9 => 9 | 3 => 3 | 4 => 4 | 0 => 0 | 20 => 20 | 72 => 65 | 76 => 67 | 70 => 63 | 37 => 43 | 75 => 27 | 127 => 86 | 164 => 93 | 5 => 5 | 80 => 32 | n => n, fun | n => n⟩
theorem Tryf.lays156 : Go.Proofs.Lays.n156 Tryf.prog Tryf.lays156_ren := {
  mixed := by kernel_rfl
  f156 := Tryf.func35.trans (congrArg some (by kernel_rfl))
  f165 := Tryf.func42.trans (congrArg some (by kernel_rfl))
  f166 := Tryf.func43.trans (congrArg some (by kernel_rfl))
  f169 := Tryf.func44.trans (congrArg some (by kernel_rfl))
  f240 := Tryf.func60.trans (congrArg some (by kernel_rfl))
  f241 := Tryf.func61.trans (congrArg some (by kernel_rfl))
  f276 := Tryf.func69.trans (congrArg some (by kernel_rfl))
  f277 := Tryf.func70.trans (congrArg some (by kernel_rfl))
  t0 := Tryf.underlying0
  a0 := Tryf.isAgg0
  z0 := Tryf.sizeOf0
  v0 := Tryf.zeroValue0
  t3 := Tryf.underlying3
  a3 := Tryf.isAgg3
  z3 := Tryf.sizeOf3
  v3 := Tryf.zeroValue3
  t4 := Tryf.underlying4
  a4 := Tryf.isAgg4
  z4 := Tryf.sizeOf4
  v4 := Tryf.zeroValue4
  t9 := Tryf.underlying9
  a9 := Tryf.isAgg9
  z9 := Tryf.sizeOf9
  v9 := Tryf.zeroValue9
  t20 := Tryf.underlying20
  a20 := Tryf.isAgg20
  z20 := Tryf.sizeOf20
  v20 := Tryf.zeroValue20
  t31 := Tryf.underlying45
  a31 := Tryf.isAgg45
  z31 := Tryf.sizeOf45
  v31 := Tryf.zeroValue45
  t37 := Tryf.underlying43
  a37 := Tryf.isAgg43
  z37 := Tryf.sizeOf43
  v37 := Tryf.zeroValue43
  t70 := Tryf.underlying63
  a70 := Tryf.isAgg63
  z70 := Tryf.sizeOf63
  v70 := Tryf.zeroValue63
  t72 := Tryf.underlying65
  a72 := Tryf.isAgg65
  z72 := Tryf.sizeOf65
  v72 := Tryf.zeroValue65
  t75 := Tryf.underlying27
  a75 := Tryf.isAgg27
  z75 := Tryf.sizeOf27
  v75 := Tryf.zeroValue27
  t76 := Tryf.underlying67
  a76 := Tryf.isAgg67
  z76 := Tryf.sizeOf67
  v76 := Tryf.zeroValue67
  t127 := Tryf.underlying86
  a127 := Tryf.isAgg86
  z127 := Tryf.sizeOf86
  v127 := Tryf.zeroValue86
  t164 := Tryf.underlying93
  a164 := Tryf.isAgg93
  z164 := Tryf.sizeOf93
  v164 := Tryf.zeroValue93 }
theorem Tryf.Builder_Extra_156 : Builder.Extra Tryf.prog Tryf.lays156_ren := {
  sizeBuilder := by kernel_rfl
  liesBuilder := by kernel_rfl
  t5 := Tryf.underlying5
  a5 := Tryf.isAgg5
  z5 := Tryf.sizeOf5
  v5 := Tryf.zeroValue5
  infoByte := by kernel_rfl
  cellsByte := by kernel_rfl
  sizeByte := by kernel_rfl
  neB5 := by decide }
open Go.RowKit in
theorem Tryf.strings_Join_none (a : Option Addr) (c : Nat) (sep : ByteArray) (w : World) :
    Calls Tryf.prog 35 #[.slice a 0 c, .string sep] w fun e w' => e = .returned (.string ⟨#[]⟩) ∧ w' = w := Any.strings_Join_none Tryf.lays156 Tryf.Builder_Extra_156 a c sep w
open Go.RowKit in
theorem Tryf.strings_Join (bk o c : Nat) (xs : List ByteArray) (sep : ByteArray) (w : World) (hcells : ∀ (j : Nat) x, xs[j]? = some x → w.cell? ⟨bk, o + j, none⟩ = some (.string x)) (hbk : bk < w.heap.size) (hN : xs.length ≤ 140737488355328) (hcap : xs.length ≤ c) (hlen : (Lib.join (xs.map (·.data.toList)) sep.data.toList).length ≤ 140737488355328) :
    Calls Tryf.prog 35 #[.slice (some ⟨bk, o, none⟩) xs.length c, .string sep] w fun e w' => e = .returned (.string ⟨(Lib.join (xs.map (·.data.toList)) sep.data.toList).toArray⟩) ∧ Below w.heap.size w w' := Any.strings_Join Tryf.lays156 Tryf.Builder_Extra_156 bk o c xs sep w hcells hbk hN hcap hlen
def Tryf.lays119_ren : Go.Shelf.Ren := ⟨fun | 119 => 50 | n => n, fun | 21 => 21 | 4 => 4 | n => n, fun | n => n⟩
theorem Tryf.lays119 : Go.Proofs.Lays.n119 Tryf.prog Tryf.lays119_ren := {
  mixed := by kernel_rfl
  f119 := Tryf.func50.trans (congrArg some (by kernel_rfl))
  t4 := Tryf.underlying4
  a4 := Tryf.isAgg4
  z4 := Tryf.sizeOf4
  v4 := Tryf.zeroValue4
  t21 := Tryf.underlying21
  a21 := Tryf.isAgg21
  z21 := Tryf.sizeOf21
  v21 := Tryf.zeroValue21 }
theorem Tryf.utf8_ValidRune (r : Int) (w : World) :
    Calls Tryf.prog 50 #[.int .i32 r] w fun e w' => e = .returned (.bool (Lib.validRune r)) ∧ w' = w := Any.utf8_ValidRune Tryf.lays119 r w
def Tryf.lays137_ren : Go.Shelf.Ren := ⟨fun | 137 => 49 | 217 => 67 | 266 => 73 | n => n, fun | 9 => 9 | 5 => 5 | 3 => 3 | n => n, fun | n => n⟩
theorem Tryf.lays137 : Go.Proofs.Lays.n137 Tryf.prog Tryf.lays137_ren := {
  mixed := by kernel_rfl
  f137 := Tryf.func49.trans (congrArg some (by kernel_rfl))
  f217 := Tryf.func67.trans (congrArg some (by kernel_rfl))
  f266 := Tryf.func73.trans (congrArg some (by kernel_rfl))
  t3 := Tryf.underlying3
  a3 := Tryf.isAgg3
  z3 := Tryf.sizeOf3
  v3 := Tryf.zeroValue3
  t5 := Tryf.underlying5
  a5 := Tryf.isAgg5
  z5 := Tryf.sizeOf5
  v5 := Tryf.zeroValue5
  t9 := Tryf.underlying9
  a9 := Tryf.isAgg9
  z9 := Tryf.sizeOf9
  v9 := Tryf.zeroValue9 }
open Go.RowKit in
theorem Tryf.strings_IndexByte (s : ByteArray) (c : Int) (w : World) :
    Calls Tryf.prog 49 #[.string s, .int .u8 c] w fun e w' => e = .returned (.int .i64 (Lib.indexByte s.data.toList c.toNat.toUInt8)) ∧ w' = w := Any.strings_IndexByte Tryf.lays137 s c w
def Tryf.lays129_ren : Go.Shelf.Ren := ⟨fun | 129 => 63 | n => n, fun | 53 => 69 | 3 => 3 | 4 => 4 | 46 => 77 | 5 => 5 | 9 => 9 | n => n, fun | n => n⟩
theorem Tryf.lays129 : Go.Proofs.Lays.n129 Tryf.prog Tryf.lays129_ren := {
  mixed := by kernel_rfl
  f129 := Tryf.func63.trans (congrArg some (by kernel_rfl))
  t3 := Tryf.underlying3
  a3 := Tryf.isAgg3
  z3 := Tryf.sizeOf3
  v3 := Tryf.zeroValue3
  t4 := Tryf.underlying4
  a4 := Tryf.isAgg4
  z4 := Tryf.sizeOf4
  v4 := Tryf.zeroValue4
  t5 := Tryf.underlying5
  a5 := Tryf.isAgg5
  z5 := Tryf.sizeOf5
  v5 := Tryf.zeroValue5
  t9 := Tryf.underlying9
  a9 := Tryf.isAgg9
  z9 := Tryf.sizeOf9
  v9 := Tryf.zeroValue9
  t46 := Tryf.underlying77
  a46 := Tryf.isAgg77
  z46 := Tryf.sizeOf77
  v46 := Tryf.zeroValue77
  t53 := Tryf.underlying69
  a53 := Tryf.isAgg69
  z53 := Tryf.sizeOf69
  v53 := Tryf.zeroValue69 }
theorem Tryf.bits_Len64 (x : Int) (w : World) (h0 : 0 ≤ x) (h1 : x ≤ 18446744073709551615) :
    Calls Tryf.prog 63 #[.int .u64 x] w fun e w' => e = .returned (.int .i64 (Lib.bitLen x.toNat)) ∧ w' = w := Any.bits_Len64 Tryf.lays129 x w h0 h1
def Tryf.lays317_ren : Go.Shelf.Ren := ⟨fun | 317 => 62 | n => n, fun | 3 => 3 | 46 => 77 | n => n, fun | n => n⟩
theorem Tryf.lays317 : Go.Proofs.Lays.n317 Tryf.prog Tryf.lays317_ren := {
  mixed := by kernel_rfl
  f317 := Tryf.func62.trans (congrArg some (by kernel_rfl))
  t3 := Tryf.underlying3
  a3 := Tryf.isAgg3
  z3 := Tryf.sizeOf3
  v3 := Tryf.zeroValue3
  t46 := Tryf.underlying77
  a46 := Tryf.isAgg77
  z46 := Tryf.sizeOf77
  v46 := Tryf.zeroValue77 }
open Go.Lib in
theorem Tryf.internal_strconv_log10Pow2 (x : Nat) (h : x ≤ 64) (w : World) :
    Calls Tryf.prog 62 #[.int .i64 x] w fun e w' => e = .returned (.int .i64 (Lib.l10 x)) ∧ w' = w := Any.internal_strconv_log10Pow2 Tryf.lays317 x h w
def Tryf.lays318_ren : Go.Shelf.Ren := ⟨fun | 318 => 64 | n => n, fun | 3 => 3 | 4 => 4 | n => n, fun | n => n⟩
theorem Tryf.lays318 : Go.Proofs.Lays.n318 Tryf.prog Tryf.lays318_ren := {
  mixed := by kernel_rfl
  f318 := Tryf.func64.trans (congrArg some (by kernel_rfl))
  t3 := Tryf.underlying3
  a3 := Tryf.isAgg3
  z3 := Tryf.sizeOf3
  v3 := Tryf.zeroValue3
  t4 := Tryf.underlying4
  a4 := Tryf.isAgg4
  z4 := Tryf.sizeOf4
  v4 := Tryf.zeroValue4 }
open Go.Lib in
theorem Tryf.internal_strconv_bool2_int (b : Bool) (w : World) :
    Calls Tryf.prog 64 #[.bool b] w fun e w' => e = .returned (.int .i64 (if b then 1 else 0)) ∧ w' = w := Any.internal_strconv_bool2_int Tryf.lays318 b w
def Tryf.lays283_ren : Go.Shelf.Ren := ⟨fun | 283 => 45 | n => n, fun | 3 => 3 | 9 => 9 | 4 => 4 | n => n, fun | n => n⟩
theorem Tryf.lays283 : Go.Proofs.Lays.n283 Tryf.prog Tryf.lays283_ren := {
  mixed := by kernel_rfl
  f283 := Tryf.func45.trans (congrArg some (by kernel_rfl))
  t3 := Tryf.underlying3
  a3 := Tryf.isAgg3
  z3 := Tryf.sizeOf3
  v3 := Tryf.zeroValue3
  t4 := Tryf.underlying4
  a4 := Tryf.isAgg4
  z4 := Tryf.sizeOf4
  v4 := Tryf.zeroValue4
  t9 := Tryf.underlying9
  a9 := Tryf.isAgg9
  z9 := Tryf.sizeOf9
  v9 := Tryf.zeroValue9 }
open Go.Lib in
theorem Tryf.internal_strconv_small (i : Nat) (h : i < 100) (w : World) :
    Calls Tryf.prog 45 #[.int .i64 i] w fun e w' => e = .returned (.string ⟨(Lib.decDigits i).toArray⟩) ∧ w' = w := Any.internal_strconv_small Tryf.lays283 i h w
def Tryf.laysM284_ren : Go.Shelf.Ren := ⟨fun | 284 => 46 | 129 => 63 | 317 => 62 | 318 => 64 | n => n, fun | 53 => 69 | 3 => 3 | 212 => 88 | 0 => 0 | 4 => 4 | 46 => 77 | 5 => 5 | 9 => 9 | n => n, fun | 17 => 0 | n => n⟩
theorem Tryf.laysM284 : Go.Proofs.LaysM.n284 Tryf.prog Tryf.laysM284_ren := {
  mixed := by kernel_rfl
  f129 := Tryf.func63.trans (congrArg some (by kernel_rfl))
  f284 := Tryf.func46.trans (congrArg some (by kernel_rfl))
  f317 := Tryf.func62.trans (congrArg some (by kernel_rfl))
  f318 := Tryf.func64.trans (congrArg some (by kernel_rfl))
  t0 := Tryf.underlying0
  a0 := Tryf.isAgg0
  z0 := Tryf.sizeOf0
  v0 := Tryf.zeroValue0
  t3 := Tryf.underlying3
  a3 := Tryf.isAgg3
  z3 := Tryf.sizeOf3
  v3 := Tryf.zeroValue3
  t4 := Tryf.underlying4
  a4 := Tryf.isAgg4
  z4 := Tryf.sizeOf4
  v4 := Tryf.zeroValue4
  t5 := Tryf.underlying5
  a5 := Tryf.isAgg5
  z5 := Tryf.sizeOf5
  v5 := Tryf.zeroValue5
  t9 := Tryf.underlying9
  a9 := Tryf.isAgg9
  z9 := Tryf.sizeOf9
  v9 := Tryf.zeroValue9
  t46 := Tryf.underlying77
  a46 := Tryf.isAgg77
  z46 := Tryf.sizeOf77
  v46 := Tryf.zeroValue77
  t53 := Tryf.underlying69
  a53 := Tryf.isAgg69
  z53 := Tryf.sizeOf69
  v53 := Tryf.zeroValue69
  t212 := Tryf.underlying88
  a212 := Tryf.isAgg88
  z212 := Tryf.sizeOf88
  v212 := Tryf.zeroValue88
  g17 := by kernel_rfl
  i0 := by kernel_rfl
  i3 := by kernel_rfl
  i4 := by kernel_rfl
  i5 := by kernel_rfl
  i9 := by kernel_rfl
  i46 := by kernel_rfl
  i53 := by kernel_rfl
  i212 := by kernel_rfl
  m17 := by kernel_rfl }
open Go.Lib in
def Tryf.lays285_ren : Go.Shelf.Ren := ⟨fun | 285 => 47 | n => n, fun | 37 => 43 | 53 => 69 | 3 => 3 | 4 => 4 | 51 => 89 | 9 => 9 | 5 => 5 | 0 => 0 | n => n, fun | n => n⟩
theorem Tryf.lays285 : Go.Proofs.Lays.n285 Tryf.prog Tryf.lays285_ren := {
  mixed := by kernel_rfl
  f285 := Tryf.func47.trans (congrArg some (by kernel_rfl))
  t0 := Tryf.underlying0
  a0 := Tryf.isAgg0
  z0 := Tryf.sizeOf0
  v0 := Tryf.zeroValue0
  t3 := Tryf.underlying3
  a3 := Tryf.isAgg3
  z3 := Tryf.sizeOf3
  v3 := Tryf.zeroValue3
  t4 := Tryf.underlying4
  a4 := Tryf.isAgg4
  z4 := Tryf.sizeOf4
  v4 := Tryf.zeroValue4
  t5 := Tryf.underlying5
  a5 := Tryf.isAgg5
  z5 := Tryf.sizeOf5
  v5 := Tryf.zeroValue5
  t9 := Tryf.underlying9
  a9 := Tryf.isAgg9
  z9 := Tryf.sizeOf9
  v9 := Tryf.zeroValue9
  t37 := Tryf.underlying43
  a37 := Tryf.isAgg43
  z37 := Tryf.sizeOf43
  v37 := Tryf.zeroValue43
  t51 := Tryf.underlying89
  a51 := Tryf.isAgg89
  z51 := Tryf.sizeOf89
  v51 := Tryf.zeroValue89
  t53 := Tryf.underlying69
  a53 := Tryf.isAgg69
  z53 := Tryf.sizeOf69
  v53 := Tryf.zeroValue69 }
open Go.RowKit Go.Sort Go.Lib in
theorem Tryf.internal_strconv_formatBase10 (blk off cap : Nat) (u : Nat) (d : Array UInt8) (w : World) (hH : Holds (fun (b : UInt8) => Value.int .u8 (b.toNat : Int)) w blk off d) (hu : u < 10 ^ d.size) (hu64 : u < 18446744073709551616) (hsz : d.size < 4611686018427387904) :
    Calls Tryf.prog 47 #[.slice (some ⟨blk, off, none⟩) d.size cap, .int .u64 u] w fun e w' =>
      e = .returned (.tuple #[]) ∧ ∃ (n v' : Nat) (dk : Array UInt8), w' = (putRow (fun (b : UInt8) => Value.int .u8 (b.toNat : Int)) w blk off dk).drewN n ∧ FmtInv d.size u 0 v' dk := Any.internal_strconv_formatBase10 Tryf.lays285 blk off cap u d w hH hu hu64 hsz
def Tryf.laysM246_ren : Go.Shelf.Ren := ⟨fun | 246 => 36 | 283 => 45 | 284 => 46 | 285 => 47 | 286 => 48 | 129 => 63 | 317 => 62 | 318 => 64 | 319 => 65 | 320 => 66 | 337 => 71 | 338 => 72 | n => n, fun | 2 => 2 | 3 => 3 | 9 => 9 | 4 => 4 | 171 => 42 | 0 => 0 | 53 => 69 | 37 => 43 | 5 => 5 | 173 => 72 | 212 => 88 | 51 => 89 | 20 => 20 | 213 => 90 | 46 => 77 | 232 => 97 | 233 => 98 | n => n, fun | 17 => 0 | 18 => 2 | 19 => 3 | n => n⟩
theorem Tryf.laysM246 : Go.Proofs.LaysM.n246 Tryf.prog Tryf.laysM246_ren := {
  mixed := by kernel_rfl
  f129 := Tryf.func63.trans (congrArg some (by kernel_rfl))
  f246 := Tryf.func36.trans (congrArg some (by kernel_rfl))
  f283 := Tryf.func45.trans (congrArg some (by kernel_rfl))
  f284 := Tryf.func46.trans (congrArg some (by kernel_rfl))
  f285 := Tryf.func47.trans (congrArg some (by kernel_rfl))
  f286 := Tryf.func48.trans (congrArg some (by kernel_rfl))
  f317 := Tryf.func62.trans (congrArg some (by kernel_rfl))
  f318 := Tryf.func64.trans (congrArg some (by kernel_rfl))
  f319 := Tryf.func65.trans (congrArg some (by kernel_rfl))
  f320 := Tryf.func66.trans (congrArg some (by kernel_rfl))
  f337 := Tryf.func71.trans (congrArg some (by kernel_rfl))
  f338 := Tryf.func72.trans (congrArg some (by kernel_rfl))
  t0 := Tryf.underlying0
  a0 := Tryf.isAgg0
  z0 := Tryf.sizeOf0
  v0 := Tryf.zeroValue0
  t2 := Tryf.underlying2
  a2 := Tryf.isAgg2
  z2 := Tryf.sizeOf2
  v2 := Tryf.zeroValue2
  t3 := Tryf.underlying3
  a3 := Tryf.isAgg3
  z3 := Tryf.sizeOf3
  v3 := Tryf.zeroValue3
  t4 := Tryf.underlying4
  a4 := Tryf.isAgg4
  z4 := Tryf.sizeOf4
  v4 := Tryf.zeroValue4
  t5 := Tryf.underlying5
  a5 := Tryf.isAgg5
  z5 := Tryf.sizeOf5
  v5 := Tryf.zeroValue5
  t9 := Tryf.underlying9
  a9 := Tryf.isAgg9
  z9 := Tryf.sizeOf9
  v9 := Tryf.zeroValue9
  t20 := Tryf.underlying20
  a20 := Tryf.isAgg20
  z20 := Tryf.sizeOf20
  v20 := Tryf.zeroValue20
  t37 := Tryf.underlying43
  a37 := Tryf.isAgg43
  z37 := Tryf.sizeOf43
  v37 := Tryf.zeroValue43
  t46 := Tryf.underlying77
  a46 := Tryf.isAgg77
  z46 := Tryf.sizeOf77
  v46 := Tryf.zeroValue77
  t51 := Tryf.underlying89
  a51 := Tryf.isAgg89
  z51 := Tryf.sizeOf89
  v51 := Tryf.zeroValue89
  t53 := Tryf.underlying69
  a53 := Tryf.isAgg69
  z53 := Tryf.sizeOf69
  v53 := Tryf.zeroValue69
  t171 := Tryf.underlying42
  a171 := Tryf.isAgg42
  z171 := Tryf.sizeOf42
  v171 := Tryf.zeroValue42
  t173 := Tryf.underlying72
  a173 := Tryf.isAgg72
  z173 := Tryf.sizeOf72
  v173 := Tryf.zeroValue72
  t212 := Tryf.underlying88
  a212 := Tryf.isAgg88
  z212 := Tryf.sizeOf88
  v212 := Tryf.zeroValue88
  t213 := Tryf.underlying90
  a213 := Tryf.isAgg90
  z213 := Tryf.sizeOf90
  t232 := Tryf.underlying97
  a232 := Tryf.isAgg97
  z232 := Tryf.sizeOf97
  v232 := Tryf.zeroValue97
  t233 := Tryf.underlying98
  a233 := Tryf.isAgg98
  z233 := Tryf.sizeOf98
  v233 := Tryf.zeroValue98
  g17 := by kernel_rfl
  g18 := by kernel_rfl
  g19 := by kernel_rfl
  i0 := by kernel_rfl
  i2 := by kernel_rfl
  i3 := by kernel_rfl
  i4 := by kernel_rfl
  i5 := by kernel_rfl
  i9 := by kernel_rfl
  i20 := by kernel_rfl
  i37 := by kernel_rfl
  i46 := by kernel_rfl
  i51 := by kernel_rfl
  i53 := by kernel_rfl
  i171 := by kernel_rfl
  i173 := by kernel_rfl
  i212 := by kernel_rfl
  i232 := by kernel_rfl
  i233 := by kernel_rfl
  m17 := by kernel_rfl
  m18 := by kernel_rfl
  m19 := by kernel_rfl }
open Go.RowKit Go.Sort Go.Lib in
def Tryf.lays246_ren : Go.Shelf.Ren := ⟨fun | 246 => 36 | 283 => 45 | 284 => 46 | 285 => 47 | 286 => 48 | 129 => 63 | 317 => 62 | 318 => 64 | 319 => 65 | 320 => 66 | 337 => 71 | 338 => 72 | n => n, fun | 2 => 2 | 3 => 3 | 9 => 9 | 4 => 4 | 171 => 42 | 0 => 0 | 53 => 69 | 37 => 43 | 5 => 5 | 173 => 72 | 212 => 88 | 51 => 89 | 20 => 20 | 213 => 90 | 46 => 77 | 232 => 97 | 233 => 98 | n => n, fun | 17 => 0 | 18 => 2 | 19 => 3 | n => n⟩
theorem Tryf.lays246 : Go.Proofs.Lays.n246 Tryf.prog Tryf.lays246_ren := {
  mixed := by kernel_rfl
  f129 := Tryf.func63.trans (congrArg some (by kernel_rfl))
  f246 := Tryf.func36.trans (congrArg some (by kernel_rfl))
  f283 := Tryf.func45.trans (congrArg some (by kernel_rfl))
  f284 := Tryf.func46.trans (congrArg some (by kernel_rfl))
  f285 := Tryf.func47.trans (congrArg some (by kernel_rfl))
  f286 := Tryf.func48.trans (congrArg some (by kernel_rfl))
  f317 := Tryf.func62.trans (congrArg some (by kernel_rfl))
  f318 := Tryf.func64.trans (congrArg some (by kernel_rfl))
  f319 := Tryf.func65.trans (congrArg some (by kernel_rfl))
  f320 := Tryf.func66.trans (congrArg some (by kernel_rfl))
  f337 := Tryf.func71.trans (congrArg some (by kernel_rfl))
  f338 := Tryf.func72.trans (congrArg some (by kernel_rfl))
  t0 := Tryf.underlying0
  a0 := Tryf.isAgg0
  z0 := Tryf.sizeOf0
  v0 := Tryf.zeroValue0
  t2 := Tryf.underlying2
  a2 := Tryf.isAgg2
  z2 := Tryf.sizeOf2
  v2 := Tryf.zeroValue2
  t3 := Tryf.underlying3
  a3 := Tryf.isAgg3
  z3 := Tryf.sizeOf3
  v3 := Tryf.zeroValue3
  t4 := Tryf.underlying4
  a4 := Tryf.isAgg4
  z4 := Tryf.sizeOf4
  v4 := Tryf.zeroValue4
  t5 := Tryf.underlying5
  a5 := Tryf.isAgg5
  z5 := Tryf.sizeOf5
  v5 := Tryf.zeroValue5
  t9 := Tryf.underlying9
  a9 := Tryf.isAgg9
  z9 := Tryf.sizeOf9
  v9 := Tryf.zeroValue9
  t20 := Tryf.underlying20
  a20 := Tryf.isAgg20
  z20 := Tryf.sizeOf20
  v20 := Tryf.zeroValue20
  t37 := Tryf.underlying43
  a37 := Tryf.isAgg43
  z37 := Tryf.sizeOf43
  v37 := Tryf.zeroValue43
  t46 := Tryf.underlying77
  a46 := Tryf.isAgg77
  z46 := Tryf.sizeOf77
  v46 := Tryf.zeroValue77
  t51 := Tryf.underlying89
  a51 := Tryf.isAgg89
  z51 := Tryf.sizeOf89
  v51 := Tryf.zeroValue89
  t53 := Tryf.underlying69
  a53 := Tryf.isAgg69
  z53 := Tryf.sizeOf69
  v53 := Tryf.zeroValue69
  t171 := Tryf.underlying42
  a171 := Tryf.isAgg42
  z171 := Tryf.sizeOf42
  v171 := Tryf.zeroValue42
  t173 := Tryf.underlying72
  a173 := Tryf.isAgg72
  z173 := Tryf.sizeOf72
  v173 := Tryf.zeroValue72
  t212 := Tryf.underlying88
  a212 := Tryf.isAgg88
  z212 := Tryf.sizeOf88
  v212 := Tryf.zeroValue88
  t213 := Tryf.underlying90
  a213 := Tryf.isAgg90
  z213 := Tryf.sizeOf90
  t232 := Tryf.underlying97
  a232 := Tryf.isAgg97
  z232 := Tryf.sizeOf97
  v232 := Tryf.zeroValue97
  t233 := Tryf.underlying98
  a233 := Tryf.isAgg98
  z233 := Tryf.sizeOf98
  v233 := Tryf.zeroValue98
  g17 := by kernel_rfl
  g18 := by kernel_rfl
  g19 := by kernel_rfl }
open Go.RowKit Go.Sort Go.Lib in
theorem Tryf.internal_strconv_FormatInt_10_small (i : Nat) (hi : i < 100) (w : World) :
    Calls Tryf.prog 36 #[.int .i64 i, .int .i64 10] w fun e w' => e = .returned (.string ⟨(Lib.decDigits i).toArray⟩) ∧ w' = w := Any.internal_strconv_FormatInt_10_small Tryf.lays246 i hi w
def Tryf.laysM243_ren : Go.Shelf.Ren := ⟨fun | 243 => 30 | 246 => 36 | 283 => 45 | 284 => 46 | 285 => 47 | 286 => 48 | 129 => 63 | 317 => 62 | 318 => 64 | 319 => 65 | 320 => 66 | 337 => 71 | 338 => 72 | n => n, fun | 3 => 3 | 9 => 9 | 2 => 2 | 4 => 4 | 171 => 42 | 0 => 0 | 53 => 69 | 37 => 43 | 5 => 5 | 173 => 72 | 212 => 88 | 51 => 89 | 20 => 20 | 213 => 90 | 46 => 77 | 232 => 97 | 233 => 98 | n => n, fun | 17 => 0 | 18 => 2 | 19 => 3 | n => n⟩
theorem Tryf.laysM243 : Go.Proofs.LaysM.n243 Tryf.prog Tryf.laysM243_ren := {
  mixed := by kernel_rfl
  f129 := Tryf.func63.trans (congrArg some (by kernel_rfl))
  f243 := Tryf.func30.trans (congrArg some (by kernel_rfl))
  f246 := Tryf.func36.trans (congrArg some (by kernel_rfl))
  f283 := Tryf.func45.trans (congrArg some (by kernel_rfl))
  f284 := Tryf.func46.trans (congrArg some (by kernel_rfl))
  f285 := Tryf.func47.trans (congrArg some (by kernel_rfl))
  f286 := Tryf.func48.trans (congrArg some (by kernel_rfl))
  f317 := Tryf.func62.trans (congrArg some (by kernel_rfl))
  f318 := Tryf.func64.trans (congrArg some (by kernel_rfl))
  f319 := Tryf.func65.trans (congrArg some (by kernel_rfl))
  f320 := Tryf.func66.trans (congrArg some (by kernel_rfl))
  f337 := Tryf.func71.trans (congrArg some (by kernel_rfl))
  f338 := Tryf.func72.trans (congrArg some (by kernel_rfl))
  t0 := Tryf.underlying0
  a0 := Tryf.isAgg0
  z0 := Tryf.sizeOf0
  v0 := Tryf.zeroValue0
  t2 := Tryf.underlying2
  a2 := Tryf.isAgg2
  z2 := Tryf.sizeOf2
  v2 := Tryf.zeroValue2
  t3 := Tryf.underlying3
  a3 := Tryf.isAgg3
  z3 := Tryf.sizeOf3
  v3 := Tryf.zeroValue3
  t4 := Tryf.underlying4
  a4 := Tryf.isAgg4
  z4 := Tryf.sizeOf4
  v4 := Tryf.zeroValue4
  t5 := Tryf.underlying5
  a5 := Tryf.isAgg5
  z5 := Tryf.sizeOf5
  v5 := Tryf.zeroValue5
  t9 := Tryf.underlying9
  a9 := Tryf.isAgg9
  z9 := Tryf.sizeOf9
  v9 := Tryf.zeroValue9
  t20 := Tryf.underlying20
  a20 := Tryf.isAgg20
  z20 := Tryf.sizeOf20
  v20 := Tryf.zeroValue20
  t37 := Tryf.underlying43
  a37 := Tryf.isAgg43
  z37 := Tryf.sizeOf43
  v37 := Tryf.zeroValue43
  t46 := Tryf.underlying77
  a46 := Tryf.isAgg77
  z46 := Tryf.sizeOf77
  v46 := Tryf.zeroValue77
  t51 := Tryf.underlying89
  a51 := Tryf.isAgg89
  z51 := Tryf.sizeOf89
  v51 := Tryf.zeroValue89
  t53 := Tryf.underlying69
  a53 := Tryf.isAgg69
  z53 := Tryf.sizeOf69
  v53 := Tryf.zeroValue69
  t171 := Tryf.underlying42
  a171 := Tryf.isAgg42
  z171 := Tryf.sizeOf42
  v171 := Tryf.zeroValue42
  t173 := Tryf.underlying72
  a173 := Tryf.isAgg72
  z173 := Tryf.sizeOf72
  v173 := Tryf.zeroValue72
  t212 := Tryf.underlying88
  a212 := Tryf.isAgg88
  z212 := Tryf.sizeOf88
  v212 := Tryf.zeroValue88
  t213 := Tryf.underlying90
  a213 := Tryf.isAgg90
  z213 := Tryf.sizeOf90
  t232 := Tryf.underlying97
  a232 := Tryf.isAgg97
  z232 := Tryf.sizeOf97
  v232 := Tryf.zeroValue97
  t233 := Tryf.underlying98
  a233 := Tryf.isAgg98
  z233 := Tryf.sizeOf98
  v233 := Tryf.zeroValue98
  g17 := by kernel_rfl
  g18 := by kernel_rfl
  g19 := by kernel_rfl
  i0 := by kernel_rfl
  i2 := by kernel_rfl
  i3 := by kernel_rfl
  i4 := by kernel_rfl
  i5 := by kernel_rfl
  i9 := by kernel_rfl
  i20 := by kernel_rfl
  i37 := by kernel_rfl
  i46 := by kernel_rfl
  i51 := by kernel_rfl
  i53 := by kernel_rfl
  i171 := by kernel_rfl
  i173 := by kernel_rfl
  i212 := by kernel_rfl
  i232 := by kernel_rfl
  i233 := by kernel_rfl
  m17 := by kernel_rfl
  m18 := by kernel_rfl
  m19 := by kernel_rfl }
open Go.RowKit Go.Sort Go.Lib in
def Tryf.lays243_ren : Go.Shelf.Ren := ⟨fun | 243 => 30 | 246 => 36 | 283 => 45 | 284 => 46 | 285 => 47 | 286 => 48 | 129 => 63 | 317 => 62 | 318 => 64 | 319 => 65 | 320 => 66 | 337 => 71 | 338 => 72 | n => n, fun | 3 => 3 | 9 => 9 | 2 => 2 | 4 => 4 | 171 => 42 | 0 => 0 | 53 => 69 | 37 => 43 | 5 => 5 | 173 => 72 | 212 => 88 | 51 => 89 | 20 => 20 | 213 => 90 | 46 => 77 | 232 => 97 | 233 => 98 | n => n, fun | 17 => 0 | 18 => 2 | 19 => 3 | n => n⟩
theorem Tryf.lays243 : Go.Proofs.Lays.n243 Tryf.prog Tryf.lays243_ren := {
  mixed := by kernel_rfl
  f129 := Tryf.func63.trans (congrArg some (by kernel_rfl))
  f243 := Tryf.func30.trans (congrArg some (by kernel_rfl))
  f246 := Tryf.func36.trans (congrArg some (by kernel_rfl))
  f283 := Tryf.func45.trans (congrArg some (by kernel_rfl))
  f284 := Tryf.func46.trans (congrArg some (by kernel_rfl))
  f285 := Tryf.func47.trans (congrArg some (by kernel_rfl))
  f286 := Tryf.func48.trans (congrArg some (by kernel_rfl))
  f317 := Tryf.func62.trans (congrArg some (by kernel_rfl))
  f318 := Tryf.func64.trans (congrArg some (by kernel_rfl))
  f319 := Tryf.func65.trans (congrArg some (by kernel_rfl))
  f320 := Tryf.func66.trans (congrArg some (by kernel_rfl))
  f337 := Tryf.func71.trans (congrArg some (by kernel_rfl))
  f338 := Tryf.func72.trans (congrArg some (by kernel_rfl))
  t0 := Tryf.underlying0
  a0 := Tryf.isAgg0
  z0 := Tryf.sizeOf0
  v0 := Tryf.zeroValue0
  t2 := Tryf.underlying2
  a2 := Tryf.isAgg2
  z2 := Tryf.sizeOf2
  v2 := Tryf.zeroValue2
  t3 := Tryf.underlying3
  a3 := Tryf.isAgg3
  z3 := Tryf.sizeOf3
  v3 := Tryf.zeroValue3
  t4 := Tryf.underlying4
  a4 := Tryf.isAgg4
  z4 := Tryf.sizeOf4
  v4 := Tryf.zeroValue4
  t5 := Tryf.underlying5
  a5 := Tryf.isAgg5
  z5 := Tryf.sizeOf5
  v5 := Tryf.zeroValue5
  t9 := Tryf.underlying9
  a9 := Tryf.isAgg9
  z9 := Tryf.sizeOf9
  v9 := Tryf.zeroValue9
  t20 := Tryf.underlying20
  a20 := Tryf.isAgg20
  z20 := Tryf.sizeOf20
  v20 := Tryf.zeroValue20
  t37 := Tryf.underlying43
  a37 := Tryf.isAgg43
  z37 := Tryf.sizeOf43
  v37 := Tryf.zeroValue43
  t46 := Tryf.underlying77
  a46 := Tryf.isAgg77
  z46 := Tryf.sizeOf77
  v46 := Tryf.zeroValue77
  t51 := Tryf.underlying89
  a51 := Tryf.isAgg89
  z51 := Tryf.sizeOf89
  v51 := Tryf.zeroValue89
  t53 := Tryf.underlying69
  a53 := Tryf.isAgg69
  z53 := Tryf.sizeOf69
  v53 := Tryf.zeroValue69
  t171 := Tryf.underlying42
  a171 := Tryf.isAgg42
  z171 := Tryf.sizeOf42
  v171 := Tryf.zeroValue42
  t173 := Tryf.underlying72
  a173 := Tryf.isAgg72
  z173 := Tryf.sizeOf72
  v173 := Tryf.zeroValue72
  t212 := Tryf.underlying88
  a212 := Tryf.isAgg88
  z212 := Tryf.sizeOf88
  v212 := Tryf.zeroValue88
  t213 := Tryf.underlying90
  a213 := Tryf.isAgg90
  z213 := Tryf.sizeOf90
  t232 := Tryf.underlying97
  a232 := Tryf.isAgg97
  z232 := Tryf.sizeOf97
  v232 := Tryf.zeroValue97
  t233 := Tryf.underlying98
  a233 := Tryf.isAgg98
  z233 := Tryf.sizeOf98
  v233 := Tryf.zeroValue98
  g17 := by kernel_rfl
  g18 := by kernel_rfl
  g19 := by kernel_rfl }
open Go.RowKit Go.Sort Go.Lib in
theorem Tryf.internal_strconv_Itoa_small (i : Nat) (hi : i < 100) (w : World) :
    Calls Tryf.prog 30 #[.int .i64 i] w fun e w' => e = .returned (.string ⟨(Lib.decDigits i).toArray⟩) ∧ w' = w := Any.internal_strconv_Itoa_small Tryf.lays243 i hi w
def Tryf.laysM171_ren : Go.Shelf.Ren := ⟨fun | 171 => 25 | 243 => 30 | 246 => 36 | 283 => 45 | 284 => 46 | 285 => 47 | 286 => 48 | 129 => 63 | 317 => 62 | 318 => 64 | 319 => 65 | 320 => 66 | 337 => 71 | 338 => 72 | n => n, fun | 3 => 3 | 9 => 9 | 2 => 2 | 4 => 4 | 171 => 42 | 0 => 0 | 53 => 69 | 37 => 43 | 5 => 5 | 173 => 72 | 212 => 88 | 51 => 89 | 20 => 20 | 213 => 90 | 46 => 77 | 232 => 97 | 233 => 98 | n => n, fun | 17 => 0 | 18 => 2 | 19 => 3 | n => n⟩
theorem Tryf.laysM171 : Go.Proofs.LaysM.n171 Tryf.prog Tryf.laysM171_ren := {
  mixed := by kernel_rfl
  f129 := Tryf.func63.trans (congrArg some (by kernel_rfl))
  f171 := Tryf.func25.trans (congrArg some (by kernel_rfl))
  f243 := Tryf.func30.trans (congrArg some (by kernel_rfl))
  f246 := Tryf.func36.trans (congrArg some (by kernel_rfl))
  f283 := Tryf.func45.trans (congrArg some (by kernel_rfl))
  f284 := Tryf.func46.trans (congrArg some (by kernel_rfl))
  f285 := Tryf.func47.trans (congrArg some (by kernel_rfl))
  f286 := Tryf.func48.trans (congrArg some (by kernel_rfl))
  f317 := Tryf.func62.trans (congrArg some (by kernel_rfl))
  f318 := Tryf.func64.trans (congrArg some (by kernel_rfl))
  f319 := Tryf.func65.trans (congrArg some (by kernel_rfl))
  f320 := Tryf.func66.trans (congrArg some (by kernel_rfl))
  f337 := Tryf.func71.trans (congrArg some (by kernel_rfl))
  f338 := Tryf.func72.trans (congrArg some (by kernel_rfl))
  t0 := Tryf.underlying0
  a0 := Tryf.isAgg0
  z0 := Tryf.sizeOf0
  v0 := Tryf.zeroValue0
  t2 := Tryf.underlying2
  a2 := Tryf.isAgg2
  z2 := Tryf.sizeOf2
  v2 := Tryf.zeroValue2
  t3 := Tryf.underlying3
  a3 := Tryf.isAgg3
  z3 := Tryf.sizeOf3
  v3 := Tryf.zeroValue3
  t4 := Tryf.underlying4
  a4 := Tryf.isAgg4
  z4 := Tryf.sizeOf4
  v4 := Tryf.zeroValue4
  t5 := Tryf.underlying5
  a5 := Tryf.isAgg5
  z5 := Tryf.sizeOf5
  v5 := Tryf.zeroValue5
  t9 := Tryf.underlying9
  a9 := Tryf.isAgg9
  z9 := Tryf.sizeOf9
  v9 := Tryf.zeroValue9
  t20 := Tryf.underlying20
  a20 := Tryf.isAgg20
  z20 := Tryf.sizeOf20
  v20 := Tryf.zeroValue20
  t37 := Tryf.underlying43
  a37 := Tryf.isAgg43
  z37 := Tryf.sizeOf43
  v37 := Tryf.zeroValue43
  t46 := Tryf.underlying77
  a46 := Tryf.isAgg77
  z46 := Tryf.sizeOf77
  v46 := Tryf.zeroValue77
  t51 := Tryf.underlying89
  a51 := Tryf.isAgg89
  z51 := Tryf.sizeOf89
  v51 := Tryf.zeroValue89
  t53 := Tryf.underlying69
  a53 := Tryf.isAgg69
  z53 := Tryf.sizeOf69
  v53 := Tryf.zeroValue69
  t171 := Tryf.underlying42
  a171 := Tryf.isAgg42
  z171 := Tryf.sizeOf42
  v171 := Tryf.zeroValue42
  t173 := Tryf.underlying72
  a173 := Tryf.isAgg72
  z173 := Tryf.sizeOf72
  v173 := Tryf.zeroValue72
  t212 := Tryf.underlying88
  a212 := Tryf.isAgg88
  z212 := Tryf.sizeOf88
  v212 := Tryf.zeroValue88
  t213 := Tryf.underlying90
  a213 := Tryf.isAgg90
  z213 := Tryf.sizeOf90
  t232 := Tryf.underlying97
  a232 := Tryf.isAgg97
  z232 := Tryf.sizeOf97
  v232 := Tryf.zeroValue97
  t233 := Tryf.underlying98
  a233 := Tryf.isAgg98
  z233 := Tryf.sizeOf98
  v233 := Tryf.zeroValue98
  g17 := by kernel_rfl
  g18 := by kernel_rfl
  g19 := by kernel_rfl
  i0 := by kernel_rfl
  i2 := by kernel_rfl
  i3 := by kernel_rfl
  i4 := by kernel_rfl
  i5 := by kernel_rfl
  i9 := by kernel_rfl
  i20 := by kernel_rfl
  i37 := by kernel_rfl
  i46 := by kernel_rfl
  i51 := by kernel_rfl
  i53 := by kernel_rfl
  i171 := by kernel_rfl
  i173 := by kernel_rfl
  i212 := by kernel_rfl
  i232 := by kernel_rfl
  i233 := by kernel_rfl
  m17 := by kernel_rfl
  m18 := by kernel_rfl
  m19 := by kernel_rfl }
open Go.RowKit Go.Sort Go.Lib in
def Tryf.lays171_ren : Go.Shelf.Ren := ⟨fun | 171 => 25 | 243 => 30 | 246 => 36 | 283 => 45 | 284 => 46 | 285 => 47 | 286 => 48 | 129 => 63 | 317 => 62 | 318 => 64 | 319 => 65 | 320 => 66 | 337 => 71 | 338 => 72 | n => n, fun | 3 => 3 | 9 => 9 | 2 => 2 | 4 => 4 | 171 => 42 | 0 => 0 | 53 => 69 | 37 => 43 | 5 => 5 | 173 => 72 | 212 => 88 | 51 => 89 | 20 => 20 | 213 => 90 | 46 => 77 | 232 => 97 | 233 => 98 | n => n, fun | 17 => 0 | 18 => 2 | 19 => 3 | n => n⟩
theorem Tryf.lays171 : Go.Proofs.Lays.n171 Tryf.prog Tryf.lays171_ren := {
  mixed := by kernel_rfl
  f129 := Tryf.func63.trans (congrArg some (by kernel_rfl))
  f171 := Tryf.func25.trans (congrArg some (by kernel_rfl))
  f243 := Tryf.func30.trans (congrArg some (by kernel_rfl))
  f246 := Tryf.func36.trans (congrArg some (by kernel_rfl))
  f283 := Tryf.func45.trans (congrArg some (by kernel_rfl))
  f284 := Tryf.func46.trans (congrArg some (by kernel_rfl))
  f285 := Tryf.func47.trans (congrArg some (by kernel_rfl))
  f286 := Tryf.func48.trans (congrArg some (by kernel_rfl))
  f317 := Tryf.func62.trans (congrArg some (by kernel_rfl))
  f318 := Tryf.func64.trans (congrArg some (by kernel_rfl))
  f319 := Tryf.func65.trans (congrArg some (by kernel_rfl))
  f320 := Tryf.func66.trans (congrArg some (by kernel_rfl))
  f337 := Tryf.func71.trans (congrArg some (by kernel_rfl))
  f338 := Tryf.func72.trans (congrArg some (by kernel_rfl))
  t0 := Tryf.underlying0
  a0 := Tryf.isAgg0
  z0 := Tryf.sizeOf0
  v0 := Tryf.zeroValue0
  t2 := Tryf.underlying2
  a2 := Tryf.isAgg2
  z2 := Tryf.sizeOf2
  v2 := Tryf.zeroValue2
  t3 := Tryf.underlying3
  a3 := Tryf.isAgg3
  z3 := Tryf.sizeOf3
  v3 := Tryf.zeroValue3
  t4 := Tryf.underlying4
  a4 := Tryf.isAgg4
  z4 := Tryf.sizeOf4
  v4 := Tryf.zeroValue4
  t5 := Tryf.underlying5
  a5 := Tryf.isAgg5
  z5 := Tryf.sizeOf5
  v5 := Tryf.zeroValue5
  t9 := Tryf.underlying9
  a9 := Tryf.isAgg9
  z9 := Tryf.sizeOf9
  v9 := Tryf.zeroValue9
  t20 := Tryf.underlying20
  a20 := Tryf.isAgg20
  z20 := Tryf.sizeOf20
  v20 := Tryf.zeroValue20
  t37 := Tryf.underlying43
  a37 := Tryf.isAgg43
  z37 := Tryf.sizeOf43
  v37 := Tryf.zeroValue43
  t46 := Tryf.underlying77
  a46 := Tryf.isAgg77
  z46 := Tryf.sizeOf77
  v46 := Tryf.zeroValue77
  t51 := Tryf.underlying89
  a51 := Tryf.isAgg89
  z51 := Tryf.sizeOf89
  v51 := Tryf.zeroValue89
  t53 := Tryf.underlying69
  a53 := Tryf.isAgg69
  z53 := Tryf.sizeOf69
  v53 := Tryf.zeroValue69
  t171 := Tryf.underlying42
  a171 := Tryf.isAgg42
  z171 := Tryf.sizeOf42
  v171 := Tryf.zeroValue42
  t173 := Tryf.underlying72
  a173 := Tryf.isAgg72
  z173 := Tryf.sizeOf72
  v173 := Tryf.zeroValue72
  t212 := Tryf.underlying88
  a212 := Tryf.isAgg88
  z212 := Tryf.sizeOf88
  v212 := Tryf.zeroValue88
  t213 := Tryf.underlying90
  a213 := Tryf.isAgg90
  z213 := Tryf.sizeOf90
  t232 := Tryf.underlying97
  a232 := Tryf.isAgg97
  z232 := Tryf.sizeOf97
  v232 := Tryf.zeroValue97
  t233 := Tryf.underlying98
  a233 := Tryf.isAgg98
  z233 := Tryf.sizeOf98
  v233 := Tryf.zeroValue98
  g17 := by kernel_rfl
  g18 := by kernel_rfl
  g19 := by kernel_rfl }
open Go.RowKit Go.Sort Go.Lib in
theorem Tryf.strconv_Itoa_small (i : Nat) (hi : i < 100) (w : World) :
    Calls Tryf.prog 25 #[.int .i64 i] w fun e w' => e = .returned (.string ⟨(Lib.decDigits i).toArray⟩) ∧ w' = w := Any.strconv_Itoa_small Tryf.lays171 i hi w
def Tryf.lays217_ren : Go.Shelf.Ren := ⟨fun | 217 => 67 | 266 => 73 | n => n, fun | 9 => 9 | 5 => 5 | 3 => 3 | n => n, fun | n => n⟩
theorem Tryf.lays217 : Go.Proofs.Lays.n217 Tryf.prog Tryf.lays217_ren := {
  mixed := by kernel_rfl
  f217 := Tryf.func67.trans (congrArg some (by kernel_rfl))
  f266 := Tryf.func73.trans (congrArg some (by kernel_rfl))
  t3 := Tryf.underlying3
  a3 := Tryf.isAgg3
  z3 := Tryf.sizeOf3
  v3 := Tryf.zeroValue3
  t5 := Tryf.underlying5
  a5 := Tryf.isAgg5
  z5 := Tryf.sizeOf5
  v5 := Tryf.zeroValue5
  t9 := Tryf.underlying9
  a9 := Tryf.isAgg9
  z9 := Tryf.sizeOf9
  v9 := Tryf.zeroValue9 }
open Go.RowKit Go.Lib in
theorem Tryf.stringslite_IndexByte (s : ByteArray) (c : Int) (w : World) :
    Calls Tryf.prog 67 #[.string s, .int .u8 c] w fun e w' => e = .returned (.int .i64 (Lib.indexByte s.data.toList c.toNat.toUInt8)) ∧ w' = w := Any.stringslite_IndexByte Tryf.lays217 s c w
def Tryf.lays224_ren : Go.Shelf.Ren := ⟨fun | 224 => 51 | n => n, fun | 3 => 3 | n => n, fun | n => n⟩
theorem Tryf.lays224 : Go.Proofs.Lays.n224 Tryf.prog Tryf.lays224_ren := {
  mixed := by kernel_rfl
  f224 := Tryf.func51.trans (congrArg some (by kernel_rfl))
  t3 := Tryf.underlying3
  a3 := Tryf.isAgg3
  z3 := Tryf.sizeOf3
  v3 := Tryf.zeroValue3 }
open Go.RowKit Go.Lib in
theorem Tryf.bytealg_Cutover (n : Int) (h0 : 0 ≤ n) (h1 : n < 4611686018427387904) (w : World) :
    Calls Tryf.prog 51 #[.int .i64 n] w fun e w' => e = .returned (.int .i64 ((n + 16) / 8)) ∧ w' = w := Any.bytealg_Cutover Tryf.lays224 n h0 h1 w
def Tryf.lays152_ren : Go.Shelf.Ren := ⟨fun | 152 => 37 | 137 => 49 | 119 => 50 | 224 => 51 | 225 => 52 | 217 => 67 | 266 => 73 | n => n, fun | 9 => 9 | 21 => 21 | 3 => 3 | 4 => 4 | 5 => 5 | 0 => 0 | 46 => 77 | n => n, fun | n => n⟩
theorem Tryf.lays152 : Go.Proofs.Lays.n152 Tryf.prog Tryf.lays152_ren := {
  mixed := by kernel_rfl
  f119 := Tryf.func50.trans (congrArg some (by kernel_rfl))
  f137 := Tryf.func49.trans (congrArg some (by kernel_rfl))
  f152 := Tryf.func37.trans (congrArg some (by kernel_rfl))
  f217 := Tryf.func67.trans (congrArg some (by kernel_rfl))
  f224 := Tryf.func51.trans (congrArg some (by kernel_rfl))
  f225 := Tryf.func52.trans (congrArg some (by kernel_rfl))
  f266 := Tryf.func73.trans (congrArg some (by kernel_rfl))
  t0 := Tryf.underlying0
  a0 := Tryf.isAgg0
  z0 := Tryf.sizeOf0
  v0 := Tryf.zeroValue0
  t3 := Tryf.underlying3
  a3 := Tryf.isAgg3
  z3 := Tryf.sizeOf3
  v3 := Tryf.zeroValue3
  t4 := Tryf.underlying4
  a4 := Tryf.isAgg4
  z4 := Tryf.sizeOf4
  v4 := Tryf.zeroValue4
  t5 := Tryf.underlying5
  a5 := Tryf.isAgg5
  z5 := Tryf.sizeOf5
  v5 := Tryf.zeroValue5
  t9 := Tryf.underlying9
  a9 := Tryf.isAgg9
  z9 := Tryf.sizeOf9
  v9 := Tryf.zeroValue9
  t21 := Tryf.underlying21
  a21 := Tryf.isAgg21
  z21 := Tryf.sizeOf21
  v21 := Tryf.zeroValue21
  t46 := Tryf.underlying77
  a46 := Tryf.isAgg77
  z46 := Tryf.sizeOf77
  v46 := Tryf.zeroValue77 }
open Go.RowKit Go.Lib in
theorem Tryf.strings_IndexRune_ascii (s : ByteArray) (r : Int) (w : World) (h0 : 0 ≤ r) (h1 : r < 128) :
    Calls Tryf.prog 37 #[.string s, .int .i32 r] w fun e w' => e = .returned (.int .i64 (Lib.indexByte s.data.toList r.toNat.toUInt8)) ∧ w' = w := Any.strings_IndexRune_ascii Tryf.lays152 s r w h0 h1
def Tryf.lays226_ren : Go.Shelf.Ren := ⟨fun | 226 => 38 | n => n, fun | 3 => 3 | 4 => 4 | n => n, fun | n => n⟩
theorem Tryf.lays226 : Go.Proofs.Lays.n226 Tryf.prog Tryf.lays226_ren := {
  mixed := by kernel_rfl
  f226 := Tryf.func38.trans (congrArg some (by kernel_rfl))
  t3 := Tryf.underlying3
  a3 := Tryf.isAgg3
  z3 := Tryf.sizeOf3
  v3 := Tryf.zeroValue3
  t4 := Tryf.underlying4
  a4 := Tryf.isAgg4
  z4 := Tryf.sizeOf4
  v4 := Tryf.zeroValue4 }
open Go.RowKit Go.Lib in
theorem Tryf.strings_shouldUseASCIISet (n : Int) (w : World) :
    Calls Tryf.prog 38 #[.int .i64 n] w fun e w' => e = .returned (.bool (decide (8 < n))) ∧ w' = w := Any.strings_shouldUseASCIISet Tryf.lays226 n w
def Tryf.lays153_ren : Go.Shelf.Ren := ⟨fun | 153 => 31 | 152 => 37 | 226 => 38 | 227 => 39 | 228 => 40 | 137 => 49 | 119 => 50 | 224 => 51 | 225 => 52 | 217 => 67 | 266 => 73 | n => n, fun | 9 => 9 | 3 => 3 | 4 => 4 | 5 => 5 | 21 => 21 | 117 => 57 | 116 => 56 | 0 => 0 | 46 => 77 | 124 => 78 | n => n, fun | n => n⟩
theorem Tryf.lays153 : Go.Proofs.Lays.n153 Tryf.prog Tryf.lays153_ren := {
  mixed := by kernel_rfl
  f119 := Tryf.func50.trans (congrArg some (by kernel_rfl))
  f137 := Tryf.func49.trans (congrArg some (by kernel_rfl))
  f152 := Tryf.func37.trans (congrArg some (by kernel_rfl))
  f153 := Tryf.func31.trans (congrArg some (by kernel_rfl))
  f217 := Tryf.func67.trans (congrArg some (by kernel_rfl))
  f224 := Tryf.func51.trans (congrArg some (by kernel_rfl))
  f225 := Tryf.func52.trans (congrArg some (by kernel_rfl))
  f226 := Tryf.func38.trans (congrArg some (by kernel_rfl))
  f227 := Tryf.func39.trans (congrArg some (by kernel_rfl))
  f228 := Tryf.func40.trans (congrArg some (by kernel_rfl))
  f266 := Tryf.func73.trans (congrArg some (by kernel_rfl))
  t0 := Tryf.underlying0
  a0 := Tryf.isAgg0
  z0 := Tryf.sizeOf0
  v0 := Tryf.zeroValue0
  t3 := Tryf.underlying3
  a3 := Tryf.isAgg3
  z3 := Tryf.sizeOf3
  v3 := Tryf.zeroValue3
  t4 := Tryf.underlying4
  a4 := Tryf.isAgg4
  z4 := Tryf.sizeOf4
  v4 := Tryf.zeroValue4
  t5 := Tryf.underlying5
  a5 := Tryf.isAgg5
  z5 := Tryf.sizeOf5
  v5 := Tryf.zeroValue5
  t9 := Tryf.underlying9
  a9 := Tryf.isAgg9
  z9 := Tryf.sizeOf9
  v9 := Tryf.zeroValue9
  t21 := Tryf.underlying21
  a21 := Tryf.isAgg21
  z21 := Tryf.sizeOf21
  v21 := Tryf.zeroValue21
  t46 := Tryf.underlying77
  a46 := Tryf.isAgg77
  z46 := Tryf.sizeOf77
  v46 := Tryf.zeroValue77
  t116 := Tryf.underlying56
  a116 := Tryf.isAgg56
  z116 := Tryf.sizeOf56
  t117 := Tryf.underlying57
  a117 := Tryf.isAgg57
  z117 := Tryf.sizeOf57
  v117 := Tryf.zeroValue57
  t124 := Tryf.underlying78
  a124 := Tryf.isAgg78
  z124 := Tryf.sizeOf78
  v124 := Tryf.zeroValue78 }
open Go.RowKit Go.Lib in
theorem Tryf.strings_IndexAny_none (s chars : ByteArray) (w : World) (h0 : chars.size = 0) :
    Calls Tryf.prog 31 #[.string s, .string chars] w fun e w' => e = .returned (.int .i64 (Lib.indexAny s.data.toList chars.data.toList)) ∧ w' = w := Any.strings_IndexAny_none Tryf.lays153 s chars w h0
open Go.RowKit Go.Lib in
theorem Tryf.strings_IndexAny_one (s chars : ByteArray) (w : World) (h1 : chars.size = 1) (hascii : ∀ (j : Nat) b, chars.data.toList[j]? = some b → b.toNat < 128) :
    Calls Tryf.prog 31 #[.string s, .string chars] w fun e w' => e = .returned (.int .i64 (Lib.indexAny s.data.toList chars.data.toList)) ∧ w' = w := Any.strings_IndexAny_one Tryf.lays153 s chars w h1 hascii
open Go.RowKit Go.Lib in
theorem Tryf.strings_IndexAny_short (s chars : ByteArray) (w : World) (h2 : 2 ≤ chars.size) (h8 : s.size ≤ 8) (hascii : ∀ (j : Nat) b, s.data.toList[j]? = some b → b.toNat < 128) :
    Calls Tryf.prog 31 #[.string s, .string chars] w fun e w' => e = .returned (.int .i64 (Lib.indexAny s.data.toList chars.data.toList)) ∧ ∃ pos, w' = w.iter s pos := Any.strings_IndexAny_short Tryf.lays153 s chars w h2 h8 hascii
def Tryf.lays227_ren : Go.Shelf.Ren := ⟨fun | 227 => 39 | n => n, fun | 9 => 9 | 116 => 56 | 4 => 4 | 0 => 0 | 3 => 3 | 5 => 5 | n => n, fun | n => n⟩
theorem Tryf.lays227 : Go.Proofs.Lays.n227 Tryf.prog Tryf.lays227_ren := {
  mixed := by kernel_rfl
  f227 := Tryf.func39.trans (congrArg some (by kernel_rfl))
  t0 := Tryf.underlying0
  a0 := Tryf.isAgg0
  z0 := Tryf.sizeOf0
  v0 := Tryf.zeroValue0
  t3 := Tryf.underlying3
  a3 := Tryf.isAgg3
  z3 := Tryf.sizeOf3
  v3 := Tryf.zeroValue3
  t4 := Tryf.underlying4
  a4 := Tryf.isAgg4
  z4 := Tryf.sizeOf4
  v4 := Tryf.zeroValue4
  t5 := Tryf.underlying5
  a5 := Tryf.isAgg5
  z5 := Tryf.sizeOf5
  v5 := Tryf.zeroValue5
  t9 := Tryf.underlying9
  a9 := Tryf.isAgg9
  z9 := Tryf.sizeOf9
  v9 := Tryf.zeroValue9
  t116 := Tryf.underlying56
  a116 := Tryf.isAgg56
  z116 := Tryf.sizeOf56 }
open Go.RowKit Go.Lib in
theorem Tryf.strings_makeASCIISet (hv116 : ∀ w, (zeroValue 56).run Tryf.prog w = .ok (.agg (Array.replicate 256 (.bool false))) w) (chars : ByteArray) (w : World) (hs : chars.size < 4294967281) (hascii : ∀ (j : Nat) b, chars.data.toList[j]? = some b → b.toNat < 128) :
    Calls Tryf.prog 39 #[.string chars] w fun e w' => e = .returned (.tuple #[.agg (Lib.setCells chars.data.toList), .bool true]) ∧ w' = w.alloc (.cells (Lib.setCells chars.data.toList) 56) := Any.strings_makeASCIISet Tryf.lays227 hv116 (by kernel_rfl) chars w hs hascii
def Tryf.lays228_ren : Go.Shelf.Ren := ⟨fun | 228 => 40 | n => n, fun | 124 => 78 | 5 => 5 | 4 => 4 | 0 => 0 | 116 => 56 | n => n, fun | n => n⟩
theorem Tryf.lays228 : Go.Proofs.Lays.n228 Tryf.prog Tryf.lays228_ren := {
  mixed := by kernel_rfl
  f228 := Tryf.func40.trans (congrArg some (by kernel_rfl))
  t0 := Tryf.underlying0
  a0 := Tryf.isAgg0
  z0 := Tryf.sizeOf0
  v0 := Tryf.zeroValue0
  t4 := Tryf.underlying4
  a4 := Tryf.isAgg4
  z4 := Tryf.sizeOf4
  v4 := Tryf.zeroValue4
  t5 := Tryf.underlying5
  a5 := Tryf.isAgg5
  z5 := Tryf.sizeOf5
  v5 := Tryf.zeroValue5
  t116 := Tryf.underlying56
  a116 := Tryf.isAgg56
  z116 := Tryf.sizeOf56
  t124 := Tryf.underlying78
  a124 := Tryf.isAgg78
  z124 := Tryf.sizeOf78
  v124 := Tryf.zeroValue78 }
open Go.RowKit Go.Lib in
theorem Tryf.asciiSet_contains (b : Nat) (x : UInt8) (v : Bool) (w : World) (hc : w.cell? ⟨b, x.toNat, none⟩ = some (.bool v)) :
    Calls Tryf.prog 40 #[.pointer (some ⟨b, 0, none⟩), .int .u8 x.toNat] w fun e w' => e = .returned (.bool v) ∧ w' = w := Any.asciiSet_contains Tryf.lays228 b x v w hc
open Go.RowKit Go.Lib in
theorem Tryf.strings_IndexAny_long (hv116 : ∀ w, (zeroValue 56).run Tryf.prog w = .ok (.agg (Array.replicate 256 (.bool false))) w) (s chars : ByteArray) (w : World) (h2 : 2 ≤ chars.size) (h8 : 8 < s.size) (hs : s.size < 4294967281) (hcs : chars.size < 4294967281) (hascii : ∀ (j : Nat) b, chars.data.toList[j]? = some b → b.toNat < 128) :
    Calls Tryf.prog 31 #[.string s, .string chars] w fun e w' => e = .returned (.int .i64 (Lib.indexAny s.data.toList chars.data.toList)) ∧ w' = ((w.alloc (.cells (Lib.setCells chars.data.toList) 56)).alloc (.cells (Lib.setCells chars.data.toList) 56)) := Any.strings_IndexAny_long Tryf.lays153 hv116 (by kernel_rfl) s chars w h2 h8 hs hcs hascii
open Go.RowKit Go.Lib in
theorem Tryf.strings_IndexAny (hv116 : ∀ w, (zeroValue 56).run Tryf.prog w = .ok (.agg (Array.replicate 256 (.bool false))) w) (s chars : ByteArray) (w : World) (hs : s.size < 4294967281) (hcs : chars.size < 4294967281) (has : ∀ (j : Nat) b, s.data.toList[j]? = some b → b.toNat < 128) (hac : ∀ (j : Nat) b, chars.data.toList[j]? = some b → b.toNat < 128) :
    Calls Tryf.prog 31 #[.string s, .string chars] w fun e w' => e = .returned (.int .i64 (Lib.indexAny s.data.toList chars.data.toList)) ∧ Below w.heap.size w w' := Any.strings_IndexAny Tryf.lays153 hv116 (by kernel_rfl) s chars w hs hcs has hac
def Tryf.lays150_ren : Go.Shelf.Ren := ⟨fun | 150 => 26 | 153 => 31 | 152 => 37 | 226 => 38 | 227 => 39 | 228 => 40 | 137 => 49 | 119 => 50 | 224 => 51 | 225 => 52 | 217 => 67 | 266 => 73 | n => n, fun | 9 => 9 | 4 => 4 | 3 => 3 | 5 => 5 | 21 => 21 | 117 => 57 | 116 => 56 | 0 => 0 | 46 => 77 | 124 => 78 | n => n, fun | n => n⟩
theorem Tryf.lays150 : Go.Proofs.Lays.n150 Tryf.prog Tryf.lays150_ren := {
  mixed := by kernel_rfl
  f119 := Tryf.func50.trans (congrArg some (by kernel_rfl))
  f137 := Tryf.func49.trans (congrArg some (by kernel_rfl))
  f150 := Tryf.func26.trans (congrArg some (by kernel_rfl))
  f152 := Tryf.func37.trans (congrArg some (by kernel_rfl))
  f153 := Tryf.func31.trans (congrArg some (by kernel_rfl))
  f217 := Tryf.func67.trans (congrArg some (by kernel_rfl))
  f224 := Tryf.func51.trans (congrArg some (by kernel_rfl))
  f225 := Tryf.func52.trans (congrArg some (by kernel_rfl))
  f226 := Tryf.func38.trans (congrArg some (by kernel_rfl))
  f227 := Tryf.func39.trans (congrArg some (by kernel_rfl))
  f228 := Tryf.func40.trans (congrArg some (by kernel_rfl))
  f266 := Tryf.func73.trans (congrArg some (by kernel_rfl))
  t0 := Tryf.underlying0
  a0 := Tryf.isAgg0
  z0 := Tryf.sizeOf0
  v0 := Tryf.zeroValue0
  t3 := Tryf.underlying3
  a3 := Tryf.isAgg3
  z3 := Tryf.sizeOf3
  v3 := Tryf.zeroValue3
  t4 := Tryf.underlying4
  a4 := Tryf.isAgg4
  z4 := Tryf.sizeOf4
  v4 := Tryf.zeroValue4
  t5 := Tryf.underlying5
  a5 := Tryf.isAgg5
  z5 := Tryf.sizeOf5
  v5 := Tryf.zeroValue5
  t9 := Tryf.underlying9
  a9 := Tryf.isAgg9
  z9 := Tryf.sizeOf9
  v9 := Tryf.zeroValue9
  t21 := Tryf.underlying21
  a21 := Tryf.isAgg21
  z21 := Tryf.sizeOf21
  v21 := Tryf.zeroValue21
  t46 := Tryf.underlying77
  a46 := Tryf.isAgg77
  z46 := Tryf.sizeOf77
  v46 := Tryf.zeroValue77
  t116 := Tryf.underlying56
  a116 := Tryf.isAgg56
  z116 := Tryf.sizeOf56
  t117 := Tryf.underlying57
  a117 := Tryf.isAgg57
  z117 := Tryf.sizeOf57
  v117 := Tryf.zeroValue57
  t124 := Tryf.underlying78
  a124 := Tryf.isAgg78
  z124 := Tryf.sizeOf78
  v124 := Tryf.zeroValue78 }
open Go.RowKit Go.Lib in
theorem Tryf.strings_ContainsAny (hv116 : ∀ w, (zeroValue 56).run Tryf.prog w = .ok (.agg (Array.replicate 256 (.bool false))) w) (s chars : ByteArray) (w : World) (hs : s.size < 4294967281) (hcs : chars.size < 4294967281) (has : ∀ (j : Nat) b, s.data.toList[j]? = some b → b.toNat < 128) (hac : ∀ (j : Nat) b, chars.data.toList[j]? = some b → b.toNat < 128) :
    Calls Tryf.prog 26 #[.string s, .string chars] w fun e w' => e = .returned (.bool (Lib.containsAny s.data.toList chars.data.toList)) ∧ Below w.heap.size w w' := Any.strings_ContainsAny Tryf.lays150 hv116 (by kernel_rfl) s chars w hs hcs has hac
open Go.RowKit Go.Lib in
theorem Tryf.strings_IndexAny_laid (s chars : ByteArray) (w : World) (hs : s.size < 4294967281) (hcs : chars.size < 4294967281) (has : ∀ (j : Nat) b, s.data.toList[j]? = some b → b.toNat < 128) (hac : ∀ (j : Nat) b, chars.data.toList[j]? = some b → b.toNat < 128) :
    Calls Tryf.prog 31 #[.string s, .string chars] w fun e w' => e = .returned (.int .i64 (Lib.indexAny s.data.toList chars.data.toList)) ∧ Below w.heap.size w w' := Any.strings_IndexAny_laid Tryf.lays153 (by kernel_rfl) s chars w hs hcs has hac
open Go.RowKit Go.Lib in
theorem Tryf.strings_ContainsAny_laid (s chars : ByteArray) (w : World) (hs : s.size < 4294967281) (hcs : chars.size < 4294967281) (has : ∀ (j : Nat) b, s.data.toList[j]? = some b → b.toNat < 128) (hac : ∀ (j : Nat) b, chars.data.toList[j]? = some b → b.toNat < 128) :
    Calls Tryf.prog 26 #[.string s, .string chars] w fun e w' => e = .returned (.bool (Lib.containsAny s.data.toList chars.data.toList)) ∧ Below w.heap.size w w' := Any.strings_ContainsAny_laid Tryf.lays150 (by kernel_rfl) s chars w hs hcs has hac
def Tryf.laysPa56_ren : Go.Shelf.Ren := ⟨fun | 56 => 54 | n => n, fun | 5 => 5 | 4 => 4 | n => n, fun | n => n⟩
theorem Tryf.laysPa56 : Go.Proofs.Lays.p56 Tryf.prog Tryf.laysPa56_ren := {
  mixed := by kernel_rfl
  f56 := Tryf.func54.trans (congrArg some (by kernel_rfl))
  t4 := Tryf.underlying4
  a4 := Tryf.isAgg4
  z4 := Tryf.sizeOf4
  v4 := Tryf.zeroValue4
  t5 := Tryf.underlying5
  a5 := Tryf.isAgg5
  z5 := Tryf.sizeOf5
  v5 := Tryf.zeroValue5 }
open Go.RowKit Go.Lib in
theorem Tryf.filepathlite_IsPathSeparator (c : Int) (w : World) :
    Calls Tryf.prog 54 #[.int .u8 c] w fun e w' => e = .returned (.bool (c == 47)) ∧ w' = w := Any.filepathlite_IsPathSeparator Tryf.laysPa56 c w
def Tryf.laysPa59_ren : Go.Shelf.Ren := ⟨fun | 59 => 53 | n => n, fun | 9 => 9 | 3 => 3 | n => n, fun | n => n⟩
theorem Tryf.laysPa59 : Go.Proofs.Lays.p59 Tryf.prog Tryf.laysPa59_ren := {
  mixed := by kernel_rfl
  f59 := Tryf.func53.trans (congrArg some (by kernel_rfl))
  t3 := Tryf.underlying3
  a3 := Tryf.isAgg3
  z3 := Tryf.sizeOf3
  v3 := Tryf.zeroValue3
  t9 := Tryf.underlying9
  a9 := Tryf.isAgg9
  z9 := Tryf.sizeOf9
  v9 := Tryf.zeroValue9 }
open Go.RowKit Go.Lib in
theorem Tryf.filepathlite_volumeNameLen (s : ByteArray) (w : World) :
    Calls Tryf.prog 53 #[.string s] w fun e w' => e = .returned (.int .i64 0) ∧ w' = w := Any.filepathlite_volumeNameLen Tryf.laysPa59 s w
def Tryf.laysPa60_ren : Go.Shelf.Ren := ⟨fun | 60 => 55 | 66 => 68 | 70 => 67 | 73 => 73 | n => n, fun | 9 => 9 | 5 => 5 | 3 => 3 | 4 => 4 | 30 => 43 | 0 => 0 | n => n, fun | n => n⟩
theorem Tryf.laysPa60 : Go.Proofs.Lays.p60 Tryf.prog Tryf.laysPa60_ren := {
  mixed := by kernel_rfl
  f60 := Tryf.func55.trans (congrArg some (by kernel_rfl))
  f66 := Tryf.func68.trans (congrArg some (by kernel_rfl))
  f70 := Tryf.func67.trans (congrArg some (by kernel_rfl))
  f73 := Tryf.func73.trans (congrArg some (by kernel_rfl))
  t0 := Tryf.underlying0
  a0 := Tryf.isAgg0
  z0 := Tryf.sizeOf0
  v0 := Tryf.zeroValue0
  t3 := Tryf.underlying3
  a3 := Tryf.isAgg3
  z3 := Tryf.sizeOf3
  v3 := Tryf.zeroValue3
  t4 := Tryf.underlying4
  a4 := Tryf.isAgg4
  z4 := Tryf.sizeOf4
  v4 := Tryf.zeroValue4
  t5 := Tryf.underlying5
  a5 := Tryf.isAgg5
  z5 := Tryf.sizeOf5
  v5 := Tryf.zeroValue5
  t9 := Tryf.underlying9
  a9 := Tryf.isAgg9
  z9 := Tryf.sizeOf9
  v9 := Tryf.zeroValue9
  t30 := Tryf.underlying43
  a30 := Tryf.isAgg43
  z30 := Tryf.sizeOf43
  v30 := Tryf.zeroValue43 }
open Go.RowKit Go.Lib in
theorem Tryf.filepathlite_FromSlash (s : ByteArray) (w : World) :
    Calls Tryf.prog 55 #[.string s] w fun e w' => e = .returned (.string s) ∧ w' = w := Any.filepathlite_FromSlash Tryf.laysPa60 s w
def Tryf.laysPa62_ren : Go.Shelf.Ren := ⟨fun | 62 => 57 | n => n, fun | 55 => 85 | 3 => 3 | 5 => 5 | 0 => 0 | 53 => 81 | 30 => 43 | 4 => 4 | 9 => 9 | n => n, fun | n => n⟩
theorem Tryf.laysPa62 : Go.Proofs.Lays.p62 Tryf.prog Tryf.laysPa62_ren := {
  mixed := by kernel_rfl
  f62 := Tryf.func57.trans (congrArg some (by kernel_rfl))
  t0 := Tryf.underlying0
  a0 := Tryf.isAgg0
  z0 := Tryf.sizeOf0
  v0 := Tryf.zeroValue0
  t3 := Tryf.underlying3
  a3 := Tryf.isAgg3
  z3 := Tryf.sizeOf3
  v3 := Tryf.zeroValue3
  t4 := Tryf.underlying4
  a4 := Tryf.isAgg4
  z4 := Tryf.sizeOf4
  v4 := Tryf.zeroValue4
  t5 := Tryf.underlying5
  a5 := Tryf.isAgg5
  z5 := Tryf.sizeOf5
  v5 := Tryf.zeroValue5
  t9 := Tryf.underlying9
  a9 := Tryf.isAgg9
  z9 := Tryf.sizeOf9
  v9 := Tryf.zeroValue9
  t30 := Tryf.underlying43
  a30 := Tryf.isAgg43
  z30 := Tryf.sizeOf43
  v30 := Tryf.zeroValue43
  t53 := Tryf.underlying81
  a53 := Tryf.isAgg81
  z53 := Tryf.sizeOf81
  v53 := Tryf.zeroValue81
  t55 := Tryf.underlying85
  a55 := Tryf.isAgg85
  z55 := Tryf.sizeOf85
  v55 := Tryf.zeroValue85 }
open Go.RowKit Go.Lib in
theorem Tryf.flazybuf_index (B : Nat) (s : ByteArray) (c : List UInt8) (wv i : Nat) (w : World) (hz : Lz.Lazy5 81 5 B s c wv w) (hi : i < s.size) :
    Calls Tryf.prog 57 #[.pointer (some ⟨B, 0, none⟩), .int .i64 i] w fun e w' => e = .returned (.int .u8 ((c[i]?.getD 0).toNat : Int)) ∧ w' = w := Any.flazybuf_index Tryf.laysPa62 B s c wv i w hz hi
def Tryf.laysPa64_ren : Go.Shelf.Ren := ⟨fun | 64 => 59 | n => n, fun | 55 => 85 | 9 => 9 | 0 => 0 | 53 => 81 | 30 => 43 | 4 => 4 | 3 => 3 | 5 => 5 | n => n, fun | n => n⟩
theorem Tryf.laysPa64 : Go.Proofs.Lays.p64 Tryf.prog Tryf.laysPa64_ren := {
  mixed := by kernel_rfl
  f64 := Tryf.func59.trans (congrArg some (by kernel_rfl))
  t0 := Tryf.underlying0
  a0 := Tryf.isAgg0
  z0 := Tryf.sizeOf0
  v0 := Tryf.zeroValue0
  t3 := Tryf.underlying3
  a3 := Tryf.isAgg3
  z3 := Tryf.sizeOf3
  v3 := Tryf.zeroValue3
  t4 := Tryf.underlying4
  a4 := Tryf.isAgg4
  z4 := Tryf.sizeOf4
  v4 := Tryf.zeroValue4
  t5 := Tryf.underlying5
  a5 := Tryf.isAgg5
  z5 := Tryf.sizeOf5
  v5 := Tryf.zeroValue5
  t9 := Tryf.underlying9
  a9 := Tryf.isAgg9
  z9 := Tryf.sizeOf9
  v9 := Tryf.zeroValue9
  t30 := Tryf.underlying43
  a30 := Tryf.isAgg43
  z30 := Tryf.sizeOf43
  v30 := Tryf.zeroValue43
  t53 := Tryf.underlying81
  a53 := Tryf.isAgg81
  z53 := Tryf.sizeOf81
  v53 := Tryf.zeroValue81
  t55 := Tryf.underlying85
  a55 := Tryf.isAgg85
  z55 := Tryf.sizeOf85
  v55 := Tryf.zeroValue85 }
open Go.RowKit Go.Lib in
theorem Tryf.flazybuf_string (B : Nat) (s : ByteArray) (c : List UInt8) (wv : Nat) (w : World) (hz : Lz.Lazy5 81 5 B s c wv w) (hw : wv ≤ s.size) (hbig : s.size ≤ 281474976710656) :
    Calls Tryf.prog 59 #[.pointer (some ⟨B, 0, none⟩)] w fun e w' => e = .returned (.string ⟨(c.take wv).toArray⟩) ∧ ∃ n, w' = w.drewN n := Any.flazybuf_string Tryf.laysPa64 B s c wv w hz hw hbig
def Tryf.laysPah61_ren : Go.Shelf.Ren := ⟨fun | 61 => 56 | n => n, fun | 55 => 85 | 5 => 5 | 0 => 0 | 53 => 81 | 30 => 43 | 4 => 4 | 3 => 3 | 9 => 9 | n => n, fun | n => n⟩
theorem Tryf.laysPah61 : Go.Proofs.Lays.ph61 Tryf.prog Tryf.laysPah61_ren := {
  mixed := by kernel_rfl
  f61 := Tryf.func56.trans (congrArg some (by kernel_rfl))
  t0 := Tryf.underlying0
  a0 := Tryf.isAgg0
  z0 := Tryf.sizeOf0
  v0 := Tryf.zeroValue0
  t3 := Tryf.underlying3
  a3 := Tryf.isAgg3
  z3 := Tryf.sizeOf3
  v3 := Tryf.zeroValue3
  t4 := Tryf.underlying4
  a4 := Tryf.isAgg4
  z4 := Tryf.sizeOf4
  v4 := Tryf.zeroValue4
  t5 := Tryf.underlying5
  a5 := Tryf.isAgg5
  z5 := Tryf.sizeOf5
  v5 := Tryf.zeroValue5
  t9 := Tryf.underlying9
  a9 := Tryf.isAgg9
  z9 := Tryf.sizeOf9
  v9 := Tryf.zeroValue9
  t30 := Tryf.underlying43
  a30 := Tryf.isAgg43
  z30 := Tryf.sizeOf43
  v30 := Tryf.zeroValue43
  t53 := Tryf.underlying81
  a53 := Tryf.isAgg81
  z53 := Tryf.sizeOf81
  v53 := Tryf.zeroValue81
  t55 := Tryf.underlying85
  a55 := Tryf.isAgg85
  z55 := Tryf.sizeOf85
  v55 := Tryf.zeroValue85
  info5 := by kernel_rfl }
open Go.RowKit Go.Lib in
theorem Tryf.flazybuf_append (B : Nat) (s : ByteArray) (c : List UInt8) (wv : Nat) (x : UInt8) (w : World) (hz : Lz.Lazy5 81 5 B s c wv w) (hw : wv < s.size) (hbig : s.size ≤ 281474976710656) :
    Calls Tryf.prog 56 #[.pointer (some ⟨B, 0, none⟩), .int .u8 (x.toNat : Int)] w fun e w' => e = .returned (.tuple #[]) ∧ ∃ c', Lz.Lazy5 81 5 B s c' (wv + 1) w' ∧ c'.take (wv + 1) = c.take wv ++ [x] ∧ Below B w w' := Any.flazybuf_append Tryf.laysPah61 B s c wv x w hz hw hbig
open Go.RowKit Go.Lib in
theorem Tryf.flazybuf_append47 (B : Nat) (s : ByteArray) (c : List UInt8) (wv : Nat) (w : World) (hz : Lz.Lazy5 81 5 B s c wv w) (hw : wv < s.size) (hbig : s.size ≤ 281474976710656) :
    Calls Tryf.prog 56 #[.pointer (some ⟨B, 0, none⟩), .int .u8 47] w fun e w' => e = .returned (.tuple #[]) ∧ ∃ c', Lz.Lazy5 81 5 B s c' (wv + 1) w' ∧ c'.take (wv + 1) = c.take wv ++ [47] ∧ Below B w w' := Any.flazybuf_append47 Tryf.laysPah61 B s c wv w hz hw hbig
open Go.RowKit Go.Lib in
theorem Tryf.flazybuf_append46 (B : Nat) (s : ByteArray) (c : List UInt8) (wv : Nat) (w : World) (hz : Lz.Lazy5 81 5 B s c wv w) (hw : wv < s.size) (hbig : s.size ≤ 281474976710656) :
    Calls Tryf.prog 56 #[.pointer (some ⟨B, 0, none⟩), .int .u8 46] w fun e w' => e = .returned (.tuple #[]) ∧ ∃ c', Lz.Lazy5 81 5 B s c' (wv + 1) w' ∧ c'.take (wv + 1) = c.take wv ++ [46] ∧ Below B w w' := Any.flazybuf_append46 Tryf.laysPah61 B s c wv w hz hw hbig
def Tryf.laysPa63_ren : Go.Shelf.Ren := ⟨fun | 63 => 58 | n => n, fun | 55 => 85 | 53 => 81 | 9 => 9 | 30 => 43 | 3 => 3 | 5 => 5 | n => n, fun | n => n⟩
theorem Tryf.laysPa63 : Go.Proofs.Lays.p63 Tryf.prog Tryf.laysPa63_ren := {
  mixed := by kernel_rfl
  f63 := Tryf.func58.trans (congrArg some (by kernel_rfl))
  t3 := Tryf.underlying3
  a3 := Tryf.isAgg3
  z3 := Tryf.sizeOf3
  v3 := Tryf.zeroValue3
  t5 := Tryf.underlying5
  a5 := Tryf.isAgg5
  z5 := Tryf.sizeOf5
  v5 := Tryf.zeroValue5
  t9 := Tryf.underlying9
  a9 := Tryf.isAgg9
  z9 := Tryf.sizeOf9
  v9 := Tryf.zeroValue9
  t30 := Tryf.underlying43
  a30 := Tryf.isAgg43
  z30 := Tryf.sizeOf43
  v30 := Tryf.zeroValue43
  t53 := Tryf.underlying81
  a53 := Tryf.isAgg81
  z53 := Tryf.sizeOf81
  v53 := Tryf.zeroValue81
  t55 := Tryf.underlying85
  a55 := Tryf.isAgg85
  z55 := Tryf.sizeOf85
  v55 := Tryf.zeroValue85 }
open Go.RowKit Go.Lib in
theorem Tryf.filepathlite_postClean (v : Value) (w : World) :
    Calls Tryf.prog 58 #[v] w fun e w' => e = .returned (.tuple #[]) ∧ w' = w := Any.filepathlite_postClean Tryf.laysPa63 v w
def Tryf.laysPah54_ren : Go.Shelf.Ren := ⟨fun | 54 => 41 | 59 => 53 | 56 => 54 | 60 => 55 | 61 => 56 | 62 => 57 | 63 => 58 | 64 => 59 | 66 => 68 | 70 => 67 | 73 => 73 | n => n, fun | 9 => 9 | 3 => 3 | 4 => 4 | 5 => 5 | 53 => 81 | 0 => 0 | 55 => 85 | 30 => 43 | n => n, fun | n => n⟩
theorem Tryf.laysPah54 : Go.Proofs.Lays.ph54 Tryf.prog Tryf.laysPah54_ren := {
  mixed := by kernel_rfl
  f54 := Tryf.func41.trans (congrArg some (by kernel_rfl))
  f56 := Tryf.func54.trans (congrArg some (by kernel_rfl))
  f59 := Tryf.func53.trans (congrArg some (by kernel_rfl))
  f60 := Tryf.func55.trans (congrArg some (by kernel_rfl))
  f61 := Tryf.func56.trans (congrArg some (by kernel_rfl))
  f62 := Tryf.func57.trans (congrArg some (by kernel_rfl))
  f63 := Tryf.func58.trans (congrArg some (by kernel_rfl))
  f64 := Tryf.func59.trans (congrArg some (by kernel_rfl))
  f66 := Tryf.func68.trans (congrArg some (by kernel_rfl))
  f70 := Tryf.func67.trans (congrArg some (by kernel_rfl))
  f73 := Tryf.func73.trans (congrArg some (by kernel_rfl))
  t0 := Tryf.underlying0
  a0 := Tryf.isAgg0
  z0 := Tryf.sizeOf0
  v0 := Tryf.zeroValue0
  t3 := Tryf.underlying3
  a3 := Tryf.isAgg3
  z3 := Tryf.sizeOf3
  v3 := Tryf.zeroValue3
  t4 := Tryf.underlying4
  a4 := Tryf.isAgg4
  z4 := Tryf.sizeOf4
  v4 := Tryf.zeroValue4
  t5 := Tryf.underlying5
  a5 := Tryf.isAgg5
  z5 := Tryf.sizeOf5
  v5 := Tryf.zeroValue5
  t9 := Tryf.underlying9
  a9 := Tryf.isAgg9
  z9 := Tryf.sizeOf9
  v9 := Tryf.zeroValue9
  t30 := Tryf.underlying43
  a30 := Tryf.isAgg43
  z30 := Tryf.sizeOf43
  v30 := Tryf.zeroValue43
  t53 := Tryf.underlying81
  a53 := Tryf.isAgg81
  z53 := Tryf.sizeOf81
  v53 := Tryf.zeroValue81
  t55 := Tryf.underlying85
  a55 := Tryf.isAgg85
  z55 := Tryf.sizeOf85
  v55 := Tryf.zeroValue85
  info5 := by kernel_rfl }
open Go.RowKit Go.Lib in
theorem Tryf.filepathlite_Clean_rel (s : ByteArray) (w : World) (hbig : s.size ≤ 281474976710656) (h0 : 0 < s.size) (hro : (s[0]'h0) ≠ 47) (R RR : List UInt8) (hR : Pa.cleanLoop s.data.toList false s.data.toList.length [] 0 0 = R) (hRR : (if R = [] then [46] else R) = RR) :
    Calls Tryf.prog 41 #[.string s] w fun e w' => e = .returned (.string ⟨RR.toArray⟩) ∧ RR.length ≤ s.size ∧ Below w.heap.size w w' := Any.filepathlite_Clean_rel Tryf.laysPah54 s w hbig h0 hro R RR hR hRR
open Go.RowKit Go.Lib in
theorem Tryf.filepathlite_Clean_abs (s : ByteArray) (w : World) (hbig : s.size ≤ 281474976710656) (h0 : 0 < s.size) (hro : (s[0]'h0) = 47) (R RR : List UInt8) (hR : Pa.cleanLoop s.data.toList true s.data.toList.length [47] 1 1 = R) (hRR : (if R = [] then [46] else R) = RR) :
    Calls Tryf.prog 41 #[.string s] w fun e w' => e = .returned (.string ⟨RR.toArray⟩) ∧ RR.length ≤ s.size ∧ Below w.heap.size w w' := Any.filepathlite_Clean_abs Tryf.laysPah54 s w hbig h0 hro R RR hR hRR
open Go.RowKit Go.Lib in
theorem Tryf.filepathlite_Clean (s : ByteArray) (w : World) (hbig : s.size ≤ 281474976710656) :
    Calls Tryf.prog 41 #[.string s] w fun e w' => e = .returned (.string ⟨(Pa.clean s.data.toList).toArray⟩) ∧ (Pa.clean s.data.toList).length ≤ s.size + 1 ∧ Below w.heap.size w w' := Any.filepathlite_Clean Tryf.laysPah54 s w hbig
def Tryf.laysPah37_ren : Go.Shelf.Ren := ⟨fun | 37 => 34 | 54 => 41 | 59 => 53 | 56 => 54 | 60 => 55 | 61 => 56 | 62 => 57 | 63 => 58 | 64 => 59 | 66 => 68 | 70 => 67 | 73 => 73 | n => n, fun | 9 => 9 | 3 => 3 | 4 => 4 | 5 => 5 | 53 => 81 | 0 => 0 | 55 => 85 | 30 => 43 | n => n, fun | n => n⟩
theorem Tryf.laysPah37 : Go.Proofs.Lays.ph37 Tryf.prog Tryf.laysPah37_ren := {
  mixed := by kernel_rfl
  f37 := Tryf.func34.trans (congrArg some (by kernel_rfl))
  f54 := Tryf.func41.trans (congrArg some (by kernel_rfl))
  f56 := Tryf.func54.trans (congrArg some (by kernel_rfl))
  f59 := Tryf.func53.trans (congrArg some (by kernel_rfl))
  f60 := Tryf.func55.trans (congrArg some (by kernel_rfl))
  f61 := Tryf.func56.trans (congrArg some (by kernel_rfl))
  f62 := Tryf.func57.trans (congrArg some (by kernel_rfl))
  f63 := Tryf.func58.trans (congrArg some (by kernel_rfl))
  f64 := Tryf.func59.trans (congrArg some (by kernel_rfl))
  f66 := Tryf.func68.trans (congrArg some (by kernel_rfl))
  f70 := Tryf.func67.trans (congrArg some (by kernel_rfl))
  f73 := Tryf.func73.trans (congrArg some (by kernel_rfl))
  t0 := Tryf.underlying0
  a0 := Tryf.isAgg0
  z0 := Tryf.sizeOf0
  v0 := Tryf.zeroValue0
  t3 := Tryf.underlying3
  a3 := Tryf.isAgg3
  z3 := Tryf.sizeOf3
  v3 := Tryf.zeroValue3
  t4 := Tryf.underlying4
  a4 := Tryf.isAgg4
  z4 := Tryf.sizeOf4
  v4 := Tryf.zeroValue4
  t5 := Tryf.underlying5
  a5 := Tryf.isAgg5
  z5 := Tryf.sizeOf5
  v5 := Tryf.zeroValue5
  t9 := Tryf.underlying9
  a9 := Tryf.isAgg9
  z9 := Tryf.sizeOf9
  v9 := Tryf.zeroValue9
  t30 := Tryf.underlying43
  a30 := Tryf.isAgg43
  z30 := Tryf.sizeOf43
  v30 := Tryf.zeroValue43
  t53 := Tryf.underlying81
  a53 := Tryf.isAgg81
  z53 := Tryf.sizeOf81
  v53 := Tryf.zeroValue81
  t55 := Tryf.underlying85
  a55 := Tryf.isAgg85
  z55 := Tryf.sizeOf85
  v55 := Tryf.zeroValue85
  info5 := by kernel_rfl }
open Go.RowKit Go.Lib in
theorem Tryf.filepath_Clean (s : ByteArray) (w : World) (hbig : s.size ≤ 281474976710656) :
    Calls Tryf.prog 34 #[.string s] w fun e w' => e = .returned (.string ⟨(Pa.clean s.data.toList).toArray⟩) ∧ Below w.heap.size w w' := Any.filepath_Clean Tryf.laysPah37 s w hbig
def Tryf.laysPah55_ren : Go.Shelf.Ren := ⟨fun | 55 => 28 | 65 => 35 | 37 => 34 | 67 => 42 | 68 => 43 | 69 => 44 | 54 => 41 | 71 => 60 | 72 => 61 | 59 => 53 | 56 => 54 | 60 => 55 | 61 => 56 | 62 => 57 | 63 => 58 | 64 => 59 | 74 => 69 | 75 => 70 | 66 => 68 | 70 => 67 | 73 => 73 | n => n, fun | 26 => 45 | 9 => 9 | 3 => 3 | 0 => 0 | 4 => 4 | 20 => 20 | 60 => 65 | 38 => 67 | 58 => 63 | 30 => 43 | 35 => 27 | 63 => 86 | 5 => 5 | 53 => 81 | 55 => 85 | 64 => 93 | 45 => 32 | n => n, fun | n => n⟩
theorem Tryf.laysPah55 : Go.Proofs.Lays.ph55 Tryf.prog Tryf.laysPah55_ren := {
  mixed := by kernel_rfl
  f37 := Tryf.func34.trans (congrArg some (by kernel_rfl))
  f54 := Tryf.func41.trans (congrArg some (by kernel_rfl))
  f55 := Tryf.func28.trans (congrArg some (by kernel_rfl))
  f56 := Tryf.func54.trans (congrArg some (by kernel_rfl))
  f59 := Tryf.func53.trans (congrArg some (by kernel_rfl))
  f60 := Tryf.func55.trans (congrArg some (by kernel_rfl))
  f61 := Tryf.func56.trans (congrArg some (by kernel_rfl))
  f62 := Tryf.func57.trans (congrArg some (by kernel_rfl))
  f63 := Tryf.func58.trans (congrArg some (by kernel_rfl))
  f64 := Tryf.func59.trans (congrArg some (by kernel_rfl))
  f65 := Tryf.func35.trans (congrArg some (by kernel_rfl))
  f66 := Tryf.func68.trans (congrArg some (by kernel_rfl))
  f67 := Tryf.func42.trans (congrArg some (by kernel_rfl))
  f68 := Tryf.func43.trans (congrArg some (by kernel_rfl))
  f69 := Tryf.func44.trans (congrArg some (by kernel_rfl))
  f70 := Tryf.func67.trans (congrArg some (by kernel_rfl))
  f71 := Tryf.func60.trans (congrArg some (by kernel_rfl))
  f72 := Tryf.func61.trans (congrArg some (by kernel_rfl))
  f73 := Tryf.func73.trans (congrArg some (by kernel_rfl))
  f74 := Tryf.func69.trans (congrArg some (by kernel_rfl))
  f75 := Tryf.func70.trans (congrArg some (by kernel_rfl))
  t0 := Tryf.underlying0
  a0 := Tryf.isAgg0
  z0 := Tryf.sizeOf0
  v0 := Tryf.zeroValue0
  t3 := Tryf.underlying3
  a3 := Tryf.isAgg3
  z3 := Tryf.sizeOf3
  v3 := Tryf.zeroValue3
  t4 := Tryf.underlying4
  a4 := Tryf.isAgg4
  z4 := Tryf.sizeOf4
  v4 := Tryf.zeroValue4
  t5 := Tryf.underlying5
  a5 := Tryf.isAgg5
  z5 := Tryf.sizeOf5
  v5 := Tryf.zeroValue5
  t9 := Tryf.underlying9
  a9 := Tryf.isAgg9
  z9 := Tryf.sizeOf9
  v9 := Tryf.zeroValue9
  t20 := Tryf.underlying20
  a20 := Tryf.isAgg20
  z20 := Tryf.sizeOf20
  v20 := Tryf.zeroValue20
  t26 := Tryf.underlying45
  a26 := Tryf.isAgg45
  z26 := Tryf.sizeOf45
  v26 := Tryf.zeroValue45
  t30 := Tryf.underlying43
  a30 := Tryf.isAgg43
  z30 := Tryf.sizeOf43
  v30 := Tryf.zeroValue43
  t35 := Tryf.underlying27
  a35 := Tryf.isAgg27
  z35 := Tryf.sizeOf27
  v35 := Tryf.zeroValue27
  t38 := Tryf.underlying67
  a38 := Tryf.isAgg67
  z38 := Tryf.sizeOf67
  v38 := Tryf.zeroValue67
  t45 := Tryf.underlying32
  a45 := Tryf.isAgg32
  z45 := Tryf.sizeOf32
  v45 := Tryf.zeroValue32
  t53 := Tryf.underlying81
  a53 := Tryf.isAgg81
  z53 := Tryf.sizeOf81
  v53 := Tryf.zeroValue81
  t55 := Tryf.underlying85
  a55 := Tryf.isAgg85
  z55 := Tryf.sizeOf85
  v55 := Tryf.zeroValue85
  t58 := Tryf.underlying63
  a58 := Tryf.isAgg63
  z58 := Tryf.sizeOf63
  v58 := Tryf.zeroValue63
  t60 := Tryf.underlying65
  a60 := Tryf.isAgg65
  z60 := Tryf.sizeOf65
  v60 := Tryf.zeroValue65
  t63 := Tryf.underlying86
  a63 := Tryf.isAgg86
  z63 := Tryf.sizeOf86
  v63 := Tryf.zeroValue86
  t64 := Tryf.underlying93
  a64 := Tryf.isAgg93
  z64 := Tryf.sizeOf93
  v64 := Tryf.zeroValue93
  sizeBuilder := by kernel_rfl
  liesBuilder := by kernel_rfl
  info5 := by kernel_rfl
  cellsByte := by kernel_rfl
  sizeByte := by kernel_rfl
  neB5 := by kernel_rfl }
open Go.RowKit Go.Lib in
theorem Tryf.filepath_join (bk o c : Nat) (xs : List ByteArray) (w : World) (hcells : ∀ (j : Nat) x, xs[j]? = some x → w.cell? ⟨bk, o + j, none⟩ = some (.string x)) (hbk : bk < w.heap.size) (hcap : xs.length ≤ c) (hlen : Lib.lens (xs.map (·.data.toList)) + xs.length ≤ 140737488355328) :
    Calls Tryf.prog 28 #[.slice (some ⟨bk, o, none⟩) xs.length c] w fun e w' => e = .returned (.string ⟨(Pa.fjoin (xs.map (·.data.toList))).toArray⟩) ∧ Below w.heap.size w w' := Any.filepath_join Tryf.laysPah55 bk o c xs w hcells hbk hcap hlen
def Tryf.laysPa55_ren : Go.Shelf.Ren := ⟨fun | 55 => 28 | 65 => 35 | 37 => 34 | 67 => 42 | 68 => 43 | 69 => 44 | 54 => 41 | 71 => 60 | 72 => 61 | 59 => 53 | 56 => 54 | 60 => 55 | 61 => 56 | 62 => 57 | 63 => 58 | 64 => 59 | 74 => 69 | 75 => 70 | 66 => 68 | 70 => 67 | 73 => 73 | n => n, fun | 26 => 45 | 9 => 9 | 3 => 3 | 0 => 0 | 4 => 4 | 20 => 20 | 60 => 65 | 38 => 67 | 58 => 63 | 30 => 43 | 35 => 27 | 63 => 86 | 5 => 5 | 53 => 81 | 55 => 85 | 64 => 93 | 45 => 32 | n => n, fun | n => n⟩
theorem Tryf.laysPa55 : Go.Proofs.Lays.p55 Tryf.prog Tryf.laysPa55_ren := {
  mixed := by kernel_rfl
  f37 := Tryf.func34.trans (congrArg some (by kernel_rfl))
  f54 := Tryf.func41.trans (congrArg some (by kernel_rfl))
  f55 := Tryf.func28.trans (congrArg some (by kernel_rfl))
  f56 := Tryf.func54.trans (congrArg some (by kernel_rfl))
  f59 := Tryf.func53.trans (congrArg some (by kernel_rfl))
  f60 := Tryf.func55.trans (congrArg some (by kernel_rfl))
  f61 := Tryf.func56.trans (congrArg some (by kernel_rfl))
  f62 := Tryf.func57.trans (congrArg some (by kernel_rfl))
  f63 := Tryf.func58.trans (congrArg some (by kernel_rfl))
  f64 := Tryf.func59.trans (congrArg some (by kernel_rfl))
  f65 := Tryf.func35.trans (congrArg some (by kernel_rfl))
  f66 := Tryf.func68.trans (congrArg some (by kernel_rfl))
  f67 := Tryf.func42.trans (congrArg some (by kernel_rfl))
  f68 := Tryf.func43.trans (congrArg some (by kernel_rfl))
  f69 := Tryf.func44.trans (congrArg some (by kernel_rfl))
  f70 := Tryf.func67.trans (congrArg some (by kernel_rfl))
  f71 := Tryf.func60.trans (congrArg some (by kernel_rfl))
  f72 := Tryf.func61.trans (congrArg some (by kernel_rfl))
  f73 := Tryf.func73.trans (congrArg some (by kernel_rfl))
  f74 := Tryf.func69.trans (congrArg some (by kernel_rfl))
  f75 := Tryf.func70.trans (congrArg some (by kernel_rfl))
  t0 := Tryf.underlying0
  a0 := Tryf.isAgg0
  z0 := Tryf.sizeOf0
  v0 := Tryf.zeroValue0
  t3 := Tryf.underlying3
  a3 := Tryf.isAgg3
  z3 := Tryf.sizeOf3
  v3 := Tryf.zeroValue3
  t4 := Tryf.underlying4
  a4 := Tryf.isAgg4
  z4 := Tryf.sizeOf4
  v4 := Tryf.zeroValue4
  t5 := Tryf.underlying5
  a5 := Tryf.isAgg5
  z5 := Tryf.sizeOf5
  v5 := Tryf.zeroValue5
  t9 := Tryf.underlying9
  a9 := Tryf.isAgg9
  z9 := Tryf.sizeOf9
  v9 := Tryf.zeroValue9
  t20 := Tryf.underlying20
  a20 := Tryf.isAgg20
  z20 := Tryf.sizeOf20
  v20 := Tryf.zeroValue20
  t26 := Tryf.underlying45
  a26 := Tryf.isAgg45
  z26 := Tryf.sizeOf45
  v26 := Tryf.zeroValue45
  t30 := Tryf.underlying43
  a30 := Tryf.isAgg43
  z30 := Tryf.sizeOf43
  v30 := Tryf.zeroValue43
  t35 := Tryf.underlying27
  a35 := Tryf.isAgg27
  z35 := Tryf.sizeOf27
  v35 := Tryf.zeroValue27
  t38 := Tryf.underlying67
  a38 := Tryf.isAgg67
  z38 := Tryf.sizeOf67
  v38 := Tryf.zeroValue67
  t45 := Tryf.underlying32
  a45 := Tryf.isAgg32
  z45 := Tryf.sizeOf32
  v45 := Tryf.zeroValue32
  t53 := Tryf.underlying81
  a53 := Tryf.isAgg81
  z53 := Tryf.sizeOf81
  v53 := Tryf.zeroValue81
  t55 := Tryf.underlying85
  a55 := Tryf.isAgg85
  z55 := Tryf.sizeOf85
  v55 := Tryf.zeroValue85
  t58 := Tryf.underlying63
  a58 := Tryf.isAgg63
  z58 := Tryf.sizeOf63
  v58 := Tryf.zeroValue63
  t60 := Tryf.underlying65
  a60 := Tryf.isAgg65
  z60 := Tryf.sizeOf65
  v60 := Tryf.zeroValue65
  t63 := Tryf.underlying86
  a63 := Tryf.isAgg86
  z63 := Tryf.sizeOf86
  v63 := Tryf.zeroValue86
  t64 := Tryf.underlying93
  a64 := Tryf.isAgg93
  z64 := Tryf.sizeOf93
  v64 := Tryf.zeroValue93 }
open Go.RowKit Go.Lib in
theorem Tryf.filepath_join_nil (w : World) :
    Calls Tryf.prog 28 #[.slice none 0 0] w fun e w' => e = .returned (.string ⟨#[]⟩) ∧ w' = w := Any.filepath_join_nil Tryf.laysPa55 w
def Tryf.laysPah38_ren : Go.Shelf.Ren := ⟨fun | 38 => 21 | 55 => 28 | 65 => 35 | 37 => 34 | 67 => 42 | 68 => 43 | 69 => 44 | 54 => 41 | 71 => 60 | 72 => 61 | 59 => 53 | 56 => 54 | 60 => 55 | 61 => 56 | 62 => 57 | 63 => 58 | 64 => 59 | 74 => 69 | 75 => 70 | 66 => 68 | 70 => 67 | 73 => 73 | n => n, fun | 26 => 45 | 9 => 9 | 3 => 3 | 0 => 0 | 4 => 4 | 20 => 20 | 60 => 65 | 38 => 67 | 58 => 63 | 30 => 43 | 35 => 27 | 63 => 86 | 5 => 5 | 53 => 81 | 55 => 85 | 64 => 93 | 45 => 32 | n => n, fun | n => n⟩
theorem Tryf.laysPah38 : Go.Proofs.Lays.ph38 Tryf.prog Tryf.laysPah38_ren := {
  mixed := by kernel_rfl
  f37 := Tryf.func34.trans (congrArg some (by kernel_rfl))
  f38 := Tryf.func21.trans (congrArg some (by kernel_rfl))
  f54 := Tryf.func41.trans (congrArg some (by kernel_rfl))
  f55 := Tryf.func28.trans (congrArg some (by kernel_rfl))
  f56 := Tryf.func54.trans (congrArg some (by kernel_rfl))
  f59 := Tryf.func53.trans (congrArg some (by kernel_rfl))
  f60 := Tryf.func55.trans (congrArg some (by kernel_rfl))
  f61 := Tryf.func56.trans (congrArg some (by kernel_rfl))
  f62 := Tryf.func57.trans (congrArg some (by kernel_rfl))
  f63 := Tryf.func58.trans (congrArg some (by kernel_rfl))
  f64 := Tryf.func59.trans (congrArg some (by kernel_rfl))
  f65 := Tryf.func35.trans (congrArg some (by kernel_rfl))
  f66 := Tryf.func68.trans (congrArg some (by kernel_rfl))
  f67 := Tryf.func42.trans (congrArg some (by kernel_rfl))
  f68 := Tryf.func43.trans (congrArg some (by kernel_rfl))
  f69 := Tryf.func44.trans (congrArg some (by kernel_rfl))
  f70 := Tryf.func67.trans (congrArg some (by kernel_rfl))
  f71 := Tryf.func60.trans (congrArg some (by kernel_rfl))
  f72 := Tryf.func61.trans (congrArg some (by kernel_rfl))
  f73 := Tryf.func73.trans (congrArg some (by kernel_rfl))
  f74 := Tryf.func69.trans (congrArg some (by kernel_rfl))
  f75 := Tryf.func70.trans (congrArg some (by kernel_rfl))
  t0 := Tryf.underlying0
  a0 := Tryf.isAgg0
  z0 := Tryf.sizeOf0
  v0 := Tryf.zeroValue0
  t3 := Tryf.underlying3
  a3 := Tryf.isAgg3
  z3 := Tryf.sizeOf3
  v3 := Tryf.zeroValue3
  t4 := Tryf.underlying4
  a4 := Tryf.isAgg4
  z4 := Tryf.sizeOf4
  v4 := Tryf.zeroValue4
  t5 := Tryf.underlying5
  a5 := Tryf.isAgg5
  z5 := Tryf.sizeOf5
  v5 := Tryf.zeroValue5
  t9 := Tryf.underlying9
  a9 := Tryf.isAgg9
  z9 := Tryf.sizeOf9
  v9 := Tryf.zeroValue9
  t20 := Tryf.underlying20
  a20 := Tryf.isAgg20
  z20 := Tryf.sizeOf20
  v20 := Tryf.zeroValue20
  t26 := Tryf.underlying45
  a26 := Tryf.isAgg45
  z26 := Tryf.sizeOf45
  v26 := Tryf.zeroValue45
  t30 := Tryf.underlying43
  a30 := Tryf.isAgg43
  z30 := Tryf.sizeOf43
  v30 := Tryf.zeroValue43
  t35 := Tryf.underlying27
  a35 := Tryf.isAgg27
  z35 := Tryf.sizeOf27
  v35 := Tryf.zeroValue27
  t38 := Tryf.underlying67
  a38 := Tryf.isAgg67
  z38 := Tryf.sizeOf67
  v38 := Tryf.zeroValue67
  t45 := Tryf.underlying32
  a45 := Tryf.isAgg32
  z45 := Tryf.sizeOf32
  v45 := Tryf.zeroValue32
  t53 := Tryf.underlying81
  a53 := Tryf.isAgg81
  z53 := Tryf.sizeOf81
  v53 := Tryf.zeroValue81
  t55 := Tryf.underlying85
  a55 := Tryf.isAgg85
  z55 := Tryf.sizeOf85
  v55 := Tryf.zeroValue85
  t58 := Tryf.underlying63
  a58 := Tryf.isAgg63
  z58 := Tryf.sizeOf63
  v58 := Tryf.zeroValue63
  t60 := Tryf.underlying65
  a60 := Tryf.isAgg65
  z60 := Tryf.sizeOf65
  v60 := Tryf.zeroValue65
  t63 := Tryf.underlying86
  a63 := Tryf.isAgg86
  z63 := Tryf.sizeOf86
  v63 := Tryf.zeroValue86
  t64 := Tryf.underlying93
  a64 := Tryf.isAgg93
  z64 := Tryf.sizeOf93
  v64 := Tryf.zeroValue93
  sizeBuilder := by kernel_rfl
  liesBuilder := by kernel_rfl
  info5 := by kernel_rfl
  cellsByte := by kernel_rfl
  sizeByte := by kernel_rfl
  neB5 := by kernel_rfl }
open Go.RowKit Go.Lib in
theorem Tryf.filepath_Join (bk o c : Nat) (xs : List ByteArray) (w : World) (hcells : ∀ (j : Nat) x, xs[j]? = some x → w.cell? ⟨bk, o + j, none⟩ = some (.string x)) (hbk : bk < w.heap.size) (hcap : xs.length ≤ c) (hlen : Lib.lens (xs.map (·.data.toList)) + xs.length ≤ 140737488355328) :
    Calls Tryf.prog 21 #[.slice (some ⟨bk, o, none⟩) xs.length c] w fun e w' => e = .returned (.string ⟨(Pa.fjoin (xs.map (·.data.toList))).toArray⟩) ∧ Below w.heap.size w w' := Any.filepath_Join Tryf.laysPah38 bk o c xs w hcells hbk hcap hlen
def Tryf.laysPa38_ren : Go.Shelf.Ren := ⟨fun | 38 => 21 | 55 => 28 | 65 => 35 | 37 => 34 | 67 => 42 | 68 => 43 | 69 => 44 | 54 => 41 | 71 => 60 | 72 => 61 | 59 => 53 | 56 => 54 | 60 => 55 | 61 => 56 | 62 => 57 | 63 => 58 | 64 => 59 | 74 => 69 | 75 => 70 | 66 => 68 | 70 => 67 | 73 => 73 | n => n, fun | 26 => 45 | 9 => 9 | 3 => 3 | 0 => 0 | 4 => 4 | 20 => 20 | 60 => 65 | 38 => 67 | 58 => 63 | 30 => 43 | 35 => 27 | 63 => 86 | 5 => 5 | 53 => 81 | 55 => 85 | 64 => 93 | 45 => 32 | n => n, fun | n => n⟩
theorem Tryf.laysPa38 : Go.Proofs.Lays.p38 Tryf.prog Tryf.laysPa38_ren := {
  mixed := by kernel_rfl
  f37 := Tryf.func34.trans (congrArg some (by kernel_rfl))
  f38 := Tryf.func21.trans (congrArg some (by kernel_rfl))
  f54 := Tryf.func41.trans (congrArg some (by kernel_rfl))
  f55 := Tryf.func28.trans (congrArg some (by kernel_rfl))
  f56 := Tryf.func54.trans (congrArg some (by kernel_rfl))
  f59 := Tryf.func53.trans (congrArg some (by kernel_rfl))
  f60 := Tryf.func55.trans (congrArg some (by kernel_rfl))
  f61 := Tryf.func56.trans (congrArg some (by kernel_rfl))
  f62 := Tryf.func57.trans (congrArg some (by kernel_rfl))
  f63 := Tryf.func58.trans (congrArg some (by kernel_rfl))
  f64 := Tryf.func59.trans (congrArg some (by kernel_rfl))
  f65 := Tryf.func35.trans (congrArg some (by kernel_rfl))
  f66 := Tryf.func68.trans (congrArg some (by kernel_rfl))
  f67 := Tryf.func42.trans (congrArg some (by kernel_rfl))
  f68 := Tryf.func43.trans (congrArg some (by kernel_rfl))
  f69 := Tryf.func44.trans (congrArg some (by kernel_rfl))
  f70 := Tryf.func67.trans (congrArg some (by kernel_rfl))
  f71 := Tryf.func60.trans (congrArg some (by kernel_rfl))
  f72 := Tryf.func61.trans (congrArg some (by kernel_rfl))
  f73 := Tryf.func73.trans (congrArg some (by kernel_rfl))
  f74 := Tryf.func69.trans (congrArg some (by kernel_rfl))
  f75 := Tryf.func70.trans (congrArg some (by kernel_rfl))
  t0 := Tryf.underlying0
  a0 := Tryf.isAgg0
  z0 := Tryf.sizeOf0
  v0 := Tryf.zeroValue0
  t3 := Tryf.underlying3
  a3 := Tryf.isAgg3
  z3 := Tryf.sizeOf3
  v3 := Tryf.zeroValue3
  t4 := Tryf.underlying4
  a4 := Tryf.isAgg4
  z4 := Tryf.sizeOf4
  v4 := Tryf.zeroValue4
  t5 := Tryf.underlying5
  a5 := Tryf.isAgg5
  z5 := Tryf.sizeOf5
  v5 := Tryf.zeroValue5
  t9 := Tryf.underlying9
  a9 := Tryf.isAgg9
  z9 := Tryf.sizeOf9
  v9 := Tryf.zeroValue9
  t20 := Tryf.underlying20
  a20 := Tryf.isAgg20
  z20 := Tryf.sizeOf20
  v20 := Tryf.zeroValue20
  t26 := Tryf.underlying45
  a26 := Tryf.isAgg45
  z26 := Tryf.sizeOf45
  v26 := Tryf.zeroValue45
  t30 := Tryf.underlying43
  a30 := Tryf.isAgg43
  z30 := Tryf.sizeOf43
  v30 := Tryf.zeroValue43
  t35 := Tryf.underlying27
  a35 := Tryf.isAgg27
  z35 := Tryf.sizeOf27
  v35 := Tryf.zeroValue27
  t38 := Tryf.underlying67
  a38 := Tryf.isAgg67
  z38 := Tryf.sizeOf67
  v38 := Tryf.zeroValue67
  t45 := Tryf.underlying32
  a45 := Tryf.isAgg32
  z45 := Tryf.sizeOf32
  v45 := Tryf.zeroValue32
  t53 := Tryf.underlying81
  a53 := Tryf.isAgg81
  z53 := Tryf.sizeOf81
  v53 := Tryf.zeroValue81
  t55 := Tryf.underlying85
  a55 := Tryf.isAgg85
  z55 := Tryf.sizeOf85
  v55 := Tryf.zeroValue85
  t58 := Tryf.underlying63
  a58 := Tryf.isAgg63
  z58 := Tryf.sizeOf63
  v58 := Tryf.zeroValue63
  t60 := Tryf.underlying65
  a60 := Tryf.isAgg65
  z60 := Tryf.sizeOf65
  v60 := Tryf.zeroValue65
  t63 := Tryf.underlying86
  a63 := Tryf.isAgg86
  z63 := Tryf.sizeOf86
  v63 := Tryf.zeroValue86
  t64 := Tryf.underlying93
  a64 := Tryf.isAgg93
  z64 := Tryf.sizeOf93
  v64 := Tryf.zeroValue93 }
open Go.RowKit Go.Lib in
theorem Tryf.filepath_Join_nil (w : World) :
    Calls Tryf.prog 21 #[.slice none 0 0] w fun e w' => e = .returned (.string ⟨#[]⟩) ∧ w' = w := Any.filepath_Join_nil Tryf.laysPa38 w
open Go.RowKit Go.Lib in
theorem Tryf.filepath_Join_rules (bk o c : Nat) (xs : List ByteArray) (w : World) (hcells : ∀ (j : Nat) x, xs[j]? = some x → w.cell? ⟨bk, o + j, none⟩ = some (.string x)) (hbk : bk < w.heap.size) (hcap : xs.length ≤ c) (hlen : Lib.lens (xs.map (·.data.toList)) + xs.length ≤ 140737488355328) :
    Calls Tryf.prog 21 #[.slice (some ⟨bk, o, none⟩) xs.length c] w fun e w' => e = .returned (.string ⟨(Pa.join (xs.map (·.data.toList))).toArray⟩) ∧ Below w.heap.size w w' := Any.filepath_Join_rules Tryf.laysPah38 bk o c xs w hcells hbk hcap hlen
end Go.Proofs
