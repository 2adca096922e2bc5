/-
  DERIVED: THE SHELF's CONTRACTS AT THIS DUMP, IN PLAIN WORDS (tools/lay-plain.mjs out of 'YbaShelf.lean', which tools/lay-shelf.mjs wrote): THE SAME DECLARATIONS UNDER THE SAME NAMES: 'import', 'namespace', 'open', 'def', 'theorem' AND NOTHING ELSE: no command of the shelf's: FOR A HAND-IN. Each laying: the table of numbers ('.._ren') and one theorem, a field a fact of the dump's own or the kernel's comparison; each contract: ONE APPLICATION.
-/
import Derived.Shelf.Strings.Builder1
import Derived.Shelf.Strings.Builder2
import Derived.Shelf.Small.Bits
import Derived.Shelf.Small.Strs
import Derived.Shelf.Strconv.Itoa0
import Derived.Test.YbulkccaoProg
namespace Go.Proofs
open Go.Shelf
def Yba.lays169_ren : Go.Shelf.Ren := ⟨fun | 169 => 28 | n => n, fun | 70 => 87 | 9 => 9 | 0 => 0 | 72 => 89 | 37 => 45 | 127 => 102 | 3 => 3 | 5 => 5 | n => n, fun | n => n⟩
theorem Yba.lays169 : Go.Proofs.Lays.n169 Yba.prog Yba.lays169_ren := {
  mixed := by kernel_rfl
  f169 := Yba.func28.trans (congrArg some (by kernel_rfl))
  t0 := Yba.underlying0
  a0 := Yba.isAgg0
  z0 := Yba.sizeOf0
  v0 := Yba.zeroValue0
  t3 := Yba.underlying3
  a3 := Yba.isAgg3
  z3 := Yba.sizeOf3
  v3 := Yba.zeroValue3
  t9 := Yba.underlying9
  a9 := Yba.isAgg9
  z9 := Yba.sizeOf9
  v9 := Yba.zeroValue9
  t37 := Yba.underlying45
  a37 := Yba.isAgg45
  z37 := Yba.sizeOf45
  v37 := Yba.zeroValue45
  t70 := Yba.underlying87
  a70 := Yba.isAgg87
  z70 := Yba.sizeOf87
  v70 := Yba.zeroValue87
  t72 := Yba.underlying89
  a72 := Yba.isAgg89
  z72 := Yba.sizeOf89
  v72 := Yba.zeroValue89
  t127 := Yba.underlying102
  a127 := Yba.isAgg102
  z127 := Yba.sizeOf102
  v127 := Yba.zeroValue102 }
theorem Yba.Builder_Extra_169 : Builder.Extra Yba.prog Yba.lays169_ren := {
  sizeBuilder := by kernel_rfl
  liesBuilder := by kernel_rfl
  t5 := Yba.underlying5
  a5 := Yba.isAgg5
  z5 := Yba.sizeOf5
  v5 := Yba.zeroValue5
  infoByte := by kernel_rfl
  cellsByte := by kernel_rfl
  sizeByte := by kernel_rfl
  neB5 := by decide }
open Go.RowKit in
/-- (LAID: no walk: one application.) -/
theorem Yba.Builder_String (B b : Nat) (l : List UInt8) (w : World) (h : Lib.IsBuilder 89 5 B b (Lib.byteCells l) w) (h0 : l ≠ []) :
    Calls Yba.prog 28 #[.pointer (some ⟨b, 0, none⟩)] w fun e w' => e = .returned (.string ⟨l.toArray⟩) ∧ Below B w w' := Any.Builder_String Yba.lays169 Yba.Builder_Extra_169 B b l w h h0
open Go.RowKit in
/-- (LAID: no walk: one application.) -/
theorem Yba.Builder_String_empty (B b : Nat) (w : World) (h : Lib.IsBuilder 89 5 B b [] w) (hBw : B ≤ w.heap.size) :
    Calls Yba.prog 28 #[.pointer (some ⟨b, 0, none⟩)] w fun e w' => e = .returned (.string ⟨#[]⟩) ∧ Below B w w' := Any.Builder_String_empty Yba.lays169 Yba.Builder_Extra_169 B b w h hBw
open Go.RowKit in
/-- (*strings.Builder).String: "String returns the accumulated string.": WHATEVER THE BUILDER HOLDS. (LAID: no walk: one application.) -/
theorem Yba.Builder_String_any (B b : Nat) (l : List UInt8) (w : World) (h : Lib.IsBuilder 89 5 B b (Lib.byteCells l) w) (hBw : B ≤ w.heap.size) :
    Calls Yba.prog 28 #[.pointer (some ⟨b, 0, none⟩)] w fun e w' => e = .returned (.string ⟨l.toArray⟩) ∧ Below B w w' := Any.Builder_String_any Yba.lays169 Yba.Builder_Extra_169 B b l w h hBw
def Yba.lays241_ren : Go.Shelf.Ren := ⟨fun | 241 => 38 | 277 => 53 | n => n, fun | 70 => 87 | 3 => 3 | 0 => 0 | 72 => 89 | 37 => 45 | 5 => 5 | n => n, fun | n => n⟩
theorem Yba.lays241 : Go.Proofs.Lays.n241 Yba.prog Yba.lays241_ren := {
  mixed := by kernel_rfl
  f241 := Yba.func38.trans (congrArg some (by kernel_rfl))
  f277 := Yba.func53.trans (congrArg some (by kernel_rfl))
  t0 := Yba.underlying0
  a0 := Yba.isAgg0
  z0 := Yba.sizeOf0
  v0 := Yba.zeroValue0
  t3 := Yba.underlying3
  a3 := Yba.isAgg3
  z3 := Yba.sizeOf3
  v3 := Yba.zeroValue3
  t37 := Yba.underlying45
  a37 := Yba.isAgg45
  z37 := Yba.sizeOf45
  v37 := Yba.zeroValue45
  t70 := Yba.underlying87
  a70 := Yba.isAgg87
  z70 := Yba.sizeOf87
  v70 := Yba.zeroValue87
  t72 := Yba.underlying89
  a72 := Yba.isAgg89
  z72 := Yba.sizeOf89
  v72 := Yba.zeroValue89 }
theorem Yba.Builder_Extra_241 : Builder.Extra Yba.prog Yba.lays241_ren := {
  sizeBuilder := by kernel_rfl
  liesBuilder := by kernel_rfl
  t5 := Yba.underlying5
  a5 := Yba.isAgg5
  z5 := Yba.sizeOf5
  v5 := Yba.zeroValue5
  infoByte := by kernel_rfl
  cellsByte := by kernel_rfl
  sizeByte := by kernel_rfl
  neB5 := by decide }
open Go.RowKit in
/-- (*strings.Builder).grow (no doc but "grow copies the buffer to a new, larger buffer so that there are at least n bytes of capacity beyond len(b.buf)."): AT A BUILDER WITHOUT A BUFFER: a new row of whatever bytes for its buffer, none of them its own yet. Three draws. (LAID: no walk: one application.) -/
theorem Yba.Builder_grow_fresh (B b n : Nat) (w : World) (hB : B ≤ b) (hbk : w.heap[b]? = some (.cells #[.pointer (some ⟨b, 0, none⟩), .slice none 0 0] 89 (0, 0))) (hBw : B ≤ w.heap.size) (hn : n ≤ 281474976710656) :
    Calls Yba.prog 38 #[.pointer (some ⟨b, 0, none⟩), .int .i64 n] w fun e w' => e = .returned (.tuple #[]) ∧ (Lib.BuilderAt 89 5 B b (.pointer (some ⟨b, 0, none⟩)) [] w' ∧ Below B w w') := Any.Builder_grow_fresh Yba.lays241 Yba.Builder_Extra_241 B b n w hB hbk hBw hn
def Yba.lays165_ren : Go.Shelf.Ren := ⟨fun | 165 => 25 | 240 => 37 | 241 => 38 | 276 => 52 | 277 => 53 | n => n, fun | 70 => 87 | 3 => 3 | 0 => 0 | 4 => 4 | 9 => 9 | 20 => 20 | 72 => 89 | 37 => 45 | 164 => 120 | 5 => 5 | n => n, fun | n => n⟩
theorem Yba.lays165 : Go.Proofs.Lays.n165 Yba.prog Yba.lays165_ren := {
  mixed := by kernel_rfl
  f165 := Yba.func25.trans (congrArg some (by kernel_rfl))
  f240 := Yba.func37.trans (congrArg some (by kernel_rfl))
  f241 := Yba.func38.trans (congrArg some (by kernel_rfl))
  f276 := Yba.func52.trans (congrArg some (by kernel_rfl))
  f277 := Yba.func53.trans (congrArg some (by kernel_rfl))
  t0 := Yba.underlying0
  a0 := Yba.isAgg0
  z0 := Yba.sizeOf0
  v0 := Yba.zeroValue0
  t3 := Yba.underlying3
  a3 := Yba.isAgg3
  z3 := Yba.sizeOf3
  v3 := Yba.zeroValue3
  t4 := Yba.underlying4
  a4 := Yba.isAgg4
  z4 := Yba.sizeOf4
  v4 := Yba.zeroValue4
  t9 := Yba.underlying9
  a9 := Yba.isAgg9
  z9 := Yba.sizeOf9
  v9 := Yba.zeroValue9
  t20 := Yba.underlying20
  a20 := Yba.isAgg20
  z20 := Yba.sizeOf20
  v20 := Yba.zeroValue20
  t37 := Yba.underlying45
  a37 := Yba.isAgg45
  z37 := Yba.sizeOf45
  v37 := Yba.zeroValue45
  t70 := Yba.underlying87
  a70 := Yba.isAgg87
  z70 := Yba.sizeOf87
  v70 := Yba.zeroValue87
  t72 := Yba.underlying89
  a72 := Yba.isAgg89
  z72 := Yba.sizeOf89
  v72 := Yba.zeroValue89
  t164 := Yba.underlying120
  a164 := Yba.isAgg120
  z164 := Yba.sizeOf120
  v164 := Yba.zeroValue120 }
theorem Yba.Builder_Extra_165 : Builder.Extra Yba.prog Yba.lays165_ren := {
  sizeBuilder := by kernel_rfl
  liesBuilder := by kernel_rfl
  t5 := Yba.underlying5
  a5 := Yba.isAgg5
  z5 := Yba.sizeOf5
  v5 := Yba.zeroValue5
  infoByte := by kernel_rfl
  cellsByte := by kernel_rfl
  sizeByte := by kernel_rfl
  neB5 := by decide }
open Go.RowKit in
/-- (*strings.Builder).Grow AT A BUILDER THAT HAS NOT BEEN WRITTEN ('var b strings.Builder; b.Grow(n)'): "Grow grows b's capacity, if necessary, to guarantee space for another n bytes.": it holds no byte behind it as before it. (LAID: no walk: one application.) -/
theorem Yba.Builder_Grow_fresh (B b n : Nat) (w : World) (hB : B ≤ b) (hbk : w.heap[b]? = some (.cells #[.pointer none, .slice none 0 0] 89 (0, 0))) (hBw : B ≤ w.heap.size) (hn : n ≤ 281474976710656) :
    Calls Yba.prog 25 #[.pointer (some ⟨b, 0, none⟩), .int .i64 n] w fun e w' => e = .returned (.tuple #[]) ∧ (Lib.BuilderAt 89 5 B b (.pointer (some ⟨b, 0, none⟩)) [] w' ∧ Below B w w') := Any.Builder_Grow_fresh Yba.lays165 Yba.Builder_Extra_165 B b n w hB hbk hBw hn
def Yba.lays128_ren : Go.Shelf.Ren := ⟨fun | 128 => 47 | n => n, fun | 51 => 24 | 3 => 3 | 4 => 4 | 46 => 52 | 5 => 5 | 9 => 9 | n => n, fun | n => n⟩
theorem Yba.lays128 : Go.Proofs.Lays.n128 Yba.prog Yba.lays128_ren := {
  mixed := by kernel_rfl
  f128 := Yba.func47.trans (congrArg some (by kernel_rfl))
  t3 := Yba.underlying3
  a3 := Yba.isAgg3
  z3 := Yba.sizeOf3
  v3 := Yba.zeroValue3
  t4 := Yba.underlying4
  a4 := Yba.isAgg4
  z4 := Yba.sizeOf4
  v4 := Yba.zeroValue4
  t5 := Yba.underlying5
  a5 := Yba.isAgg5
  z5 := Yba.sizeOf5
  v5 := Yba.zeroValue5
  t9 := Yba.underlying9
  a9 := Yba.isAgg9
  z9 := Yba.sizeOf9
  v9 := Yba.zeroValue9
  t46 := Yba.underlying52
  a46 := Yba.isAgg52
  z46 := Yba.sizeOf52
  v46 := Yba.zeroValue52
  t51 := Yba.underlying24
  a51 := Yba.isAgg24
  z51 := Yba.sizeOf24
  v51 := Yba.zeroValue24 }
/-- bits.Len32: "Len32 returns the minimum number of bits required to represent x; the result is 0 for x == 0.": IT RETURNS 'Lib.bitLen x'; the world is as it was. ('h0', 'h1': x is a uint32.) (LAID: no walk: one application.) -/
theorem Yba.bits_Len32 (x : Int) (w : World) (h0 : 0 ≤ x) (h1 : x ≤ 4294967295) :
    Calls Yba.prog 47 #[.int .u32 x] w fun e w' => e = .returned (.int .i64 (Lib.bitLen x.toNat)) ∧ w' = w := Any.bits_Len32 Yba.lays128 x w h0 h1
def Yba.lays125_ren : Go.Shelf.Ren := ⟨fun | 125 => 30 | 128 => 47 | 129 => 48 | n => n, fun | 46 => 52 | 3 => 3 | 51 => 24 | 53 => 113 | 4 => 4 | 5 => 5 | 9 => 9 | n => n, fun | n => n⟩
theorem Yba.lays125 : Go.Proofs.Lays.n125 Yba.prog Yba.lays125_ren := {
  mixed := by kernel_rfl
  f125 := Yba.func30.trans (congrArg some (by kernel_rfl))
  f128 := Yba.func47.trans (congrArg some (by kernel_rfl))
  f129 := Yba.func48.trans (congrArg some (by kernel_rfl))
  t3 := Yba.underlying3
  a3 := Yba.isAgg3
  z3 := Yba.sizeOf3
  v3 := Yba.zeroValue3
  t4 := Yba.underlying4
  a4 := Yba.isAgg4
  z4 := Yba.sizeOf4
  v4 := Yba.zeroValue4
  t5 := Yba.underlying5
  a5 := Yba.isAgg5
  z5 := Yba.sizeOf5
  v5 := Yba.zeroValue5
  t9 := Yba.underlying9
  a9 := Yba.isAgg9
  z9 := Yba.sizeOf9
  v9 := Yba.zeroValue9
  t46 := Yba.underlying52
  a46 := Yba.isAgg52
  z46 := Yba.sizeOf52
  v46 := Yba.zeroValue52
  t51 := Yba.underlying24
  a51 := Yba.isAgg24
  z51 := Yba.sizeOf24
  v51 := Yba.zeroValue24
  t53 := Yba.underlying113
  a53 := Yba.isAgg113
  z53 := Yba.sizeOf113
  v53 := Yba.zeroValue113 }
/-- bits.Len: "Len returns the minimum number of bits required to represent x; the result is 0 for x == 0.": IT RETURNS 'Lib.bitLen x'; the world is as it was. (A uint has 64 bits in the model.) ITS CALLEE bits.Len64 IS MET BY ITS OWN CONTRACT OFF THE SHELF (lay that first). (LAID: no walk: one application.) -/
theorem Yba.bits_Len (x : Int) (w : World) (h0 : 0 ≤ x) (h1 : x ≤ 18446744073709551615) :
    Calls Yba.prog 30 #[.int .u64 x] w fun e w' => e = .returned (.int .i64 (Lib.bitLen x.toNat)) ∧ w' = w := Any.bits_Len Yba.lays125 x w h0 h1
def Yba.lays213_ren : Go.Shelf.Ren := ⟨fun | 213 => 31 | 265 => 49 | n => n, fun | 9 => 9 | 3 => 3 | n => n, fun | n => n⟩
theorem Yba.lays213 : Go.Proofs.Lays.n213 Yba.prog Yba.lays213_ren := {
  mixed := by kernel_rfl
  f213 := Yba.func31.trans (congrArg some (by kernel_rfl))
  f265 := Yba.func49.trans (congrArg some (by kernel_rfl))
  t3 := Yba.underlying3
  a3 := Yba.isAgg3
  z3 := Yba.sizeOf3
  v3 := Yba.zeroValue3
  t9 := Yba.underlying9
  a9 := Yba.isAgg9
  z9 := Yba.sizeOf9
  v9 := Yba.zeroValue9 }
open Go.RowKit in
/-- internal/bytealg.CompareString (what strings.Compare calls): IT RETURNS 'Lib.compareBytes a b'; the world is as it was. (LAID: no walk: one application.) -/
theorem Yba.bytealg_CompareString (a b : ByteArray) (w : World) :
    Calls Yba.prog 31 #[.string a, .string b] w fun e w' => e = .returned (.int .i64 (Lib.compareBytes a.data.toList b.data.toList)) ∧ w' = w := Any.bytealg_CompareString Yba.lays213 a b w
def Yba.lays106_ren : Go.Shelf.Ren := ⟨fun | 106 => 15 | 213 => 31 | 265 => 49 | n => n, fun | 9 => 9 | 3 => 3 | n => n, fun | n => n⟩
theorem Yba.lays106 : Go.Proofs.Lays.n106 Yba.prog Yba.lays106_ren := {
  mixed := by kernel_rfl
  f106 := Yba.func15.trans (congrArg some (by kernel_rfl))
  f213 := Yba.func31.trans (congrArg some (by kernel_rfl))
  f265 := Yba.func49.trans (congrArg some (by kernel_rfl))
  t3 := Yba.underlying3
  a3 := Yba.isAgg3
  z3 := Yba.sizeOf3
  v3 := Yba.zeroValue3
  t9 := Yba.underlying9
  a9 := Yba.isAgg9
  z9 := Yba.sizeOf9
  v9 := Yba.zeroValue9 }
open Go.RowKit in
/-- strings.Compare: "Compare returns an integer comparing two strings lexicographically. The result will be 0 if a == b, -1 if a < b, and +1 if a > b.": IT RETURNS 'Lib.compareBytes a b'; the world is as it was. (LAID: no walk: one application.) -/
theorem Yba.strings_Compare (a b : ByteArray) (w : World) :
    Calls Yba.prog 15 #[.string a, .string b] w fun e w' => e = .returned (.int .i64 (Lib.compareBytes a.data.toList b.data.toList)) ∧ w' = w := Any.strings_Compare Yba.lays106 a b w
def Yba.lays129_ren : Go.Shelf.Ren := ⟨fun | 129 => 48 | n => n, fun | 53 => 113 | 3 => 3 | 4 => 4 | 46 => 52 | 5 => 5 | 9 => 9 | n => n, fun | n => n⟩
theorem Yba.lays129 : Go.Proofs.Lays.n129 Yba.prog Yba.lays129_ren := {
  mixed := by kernel_rfl
  f129 := Yba.func48.trans (congrArg some (by kernel_rfl))
  t3 := Yba.underlying3
  a3 := Yba.isAgg3
  z3 := Yba.sizeOf3
  v3 := Yba.zeroValue3
  t4 := Yba.underlying4
  a4 := Yba.isAgg4
  z4 := Yba.sizeOf4
  v4 := Yba.zeroValue4
  t5 := Yba.underlying5
  a5 := Yba.isAgg5
  z5 := Yba.sizeOf5
  v5 := Yba.zeroValue5
  t9 := Yba.underlying9
  a9 := Yba.isAgg9
  z9 := Yba.sizeOf9
  v9 := Yba.zeroValue9
  t46 := Yba.underlying52
  a46 := Yba.isAgg52
  z46 := Yba.sizeOf52
  v46 := Yba.zeroValue52
  t53 := Yba.underlying113
  a53 := Yba.isAgg113
  z53 := Yba.sizeOf113
  v53 := Yba.zeroValue113 }
/-- bits.Len64: "Len64 returns the minimum number of bits required to represent x; the result is 0 for x == 0.": IT RETURNS 'Lib.bitLen x'; the world is as it was. ('h0', 'h1': x is a uint64.) (LAID: no walk: one application.) -/
theorem Yba.bits_Len64 (x : Int) (w : World) (h0 : 0 ≤ x) (h1 : x ≤ 18446744073709551615) :
    Calls Yba.prog 48 #[.int .u64 x] w fun e w' => e = .returned (.int .i64 (Lib.bitLen x.toNat)) ∧ w' = w := Any.bits_Len64 Yba.lays129 x w h0 h1
end Go.Proofs
