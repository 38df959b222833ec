/-
  THE LIBRARY's CONTRACTS AT THIS PROGRAM, as the kit's own tools lay them (lay-shelf.mjs, lay-plain.mjs).
-/
import Derived.Shelf.Small.Utf8
import Derived.Shelf.Small.Bits
import Derived.Shelf.Small.Strs
import Derived.Shelf.Small.Wraps
import Derived.Shelf.Strconv.Itoa0
import Derived.Shelf.Strings.Search1
import Derived.Shelf.Strings.Prefix
import Derived.Shelf.Strings.Runes
import Derived.Shelf.Strings.IndexAny
import Derived.Shelf.Strings.AsciiSet
import Derived.Shelf.Strings.IndexAnyAll
import Derived.Shelf.Bits.Mul64
import Derived.Ground.PaProg
import Derived.Shelf.Hex.Lens
import Derived.Shelf.Hex.Encode
import Derived.Shelf.Hex.More
import Derived.Test.Qxb6608999aFmtProg
namespace Go.Proofs
open Go.Shelf
def Tryf.lays119_ren : Go.Shelf.Ren := ⟨fun | 119 => 51 | n => n, fun | 21 => 21 | 4 => 4 | n => n, fun | n => n⟩
theorem Tryf.lays119 : Go.Proofs.Lays.n119 Tryf.prog Tryf.lays119_ren := {
  mixed := by kernel_rfl
  f119 := Tryf.func51.trans (congrArg some (by kernel_rfl))
  t4 := Tryf.underlying4
  a4 := Tryf.isAgg4
  z4 := Tryf.sizeOf4
  v4 := Tryf.zeroValue4
  t21 := Tryf.underlying21
  a21 := Tryf.isAgg21
  z21 := Tryf.sizeOf21
  v21 := Tryf.zeroValue21 }
/-- utf8.ValidRune: "ValidRune reports whether r can be legally encoded as UTF-8. Code points that are out of range or a surrogate half are illegal.": IT RETURNS 'Lib.validRune r'; the world is as it was. (LAID: no walk: one application.) -/
theorem Tryf.utf8_ValidRune (r : Int) (w : World) :
    Calls Tryf.prog 51 #[.int .i32 r] w fun e w' => e = .returned (.bool (Lib.validRune r)) ∧ w' = w := Any.utf8_ValidRune Tryf.lays119 r w
def Tryf.lays128_ren : Go.Shelf.Ren := ⟨fun | 128 => 54 | n => n, fun | 51 => 97 | 3 => 3 | 4 => 4 | 46 => 49 | 5 => 5 | 9 => 9 | n => n, fun | n => n⟩
theorem Tryf.lays128 : Go.Proofs.Lays.n128 Tryf.prog Tryf.lays128_ren := {
  mixed := by kernel_rfl
  f128 := Tryf.func54.trans (congrArg some (by kernel_rfl))
  t3 := Tryf.underlying3
  a3 := Tryf.isAgg3
  z3 := Tryf.sizeOf3
  v3 := Tryf.zeroValue3
  t4 := Tryf.underlying4
  a4 := Tryf.isAgg4
  z4 := Tryf.sizeOf4
  v4 := Tryf.zeroValue4
  t5 := Tryf.underlying5
  a5 := Tryf.isAgg5
  z5 := Tryf.sizeOf5
  v5 := Tryf.zeroValue5
  t9 := Tryf.underlying9
  a9 := Tryf.isAgg9
  z9 := Tryf.sizeOf9
  v9 := Tryf.zeroValue9
  t46 := Tryf.underlying49
  a46 := Tryf.isAgg49
  z46 := Tryf.sizeOf49
  v46 := Tryf.zeroValue49
  t51 := Tryf.underlying97
  a51 := Tryf.isAgg97
  z51 := Tryf.sizeOf97
  v51 := Tryf.zeroValue97 }
/-- bits.Len32: "Len32 returns the minimum number of bits required to represent x; the result is 0 for x == 0.": IT RETURNS 'Lib.bitLen x'; the world is as it was. ('h0', 'h1': x is a uint32.) (LAID: no walk: one application.) -/
theorem Tryf.bits_Len32 (x : Int) (w : World) (h0 : 0 ≤ x) (h1 : x ≤ 4294967295) :
    Calls Tryf.prog 54 #[.int .u32 x] w fun e w' => e = .returned (.int .i64 (Lib.bitLen x.toNat)) ∧ w' = w := Any.bits_Len32 Tryf.lays128 x w h0 h1
def Tryf.lays125_ren : Go.Shelf.Ren := ⟨fun | 125 => 41 | 128 => 54 | 129 => 55 | n => n, fun | 46 => 49 | 3 => 3 | 51 => 97 | 53 => 99 | 4 => 4 | 5 => 5 | 9 => 9 | n => n, fun | n => n⟩
theorem Tryf.lays125 : Go.Proofs.Lays.n125 Tryf.prog Tryf.lays125_ren := {
  mixed := by kernel_rfl
  f125 := Tryf.func41.trans (congrArg some (by kernel_rfl))
  f128 := Tryf.func54.trans (congrArg some (by kernel_rfl))
  f129 := Tryf.func55.trans (congrArg some (by kernel_rfl))
  t3 := Tryf.underlying3
  a3 := Tryf.isAgg3
  z3 := Tryf.sizeOf3
  v3 := Tryf.zeroValue3
  t4 := Tryf.underlying4
  a4 := Tryf.isAgg4
  z4 := Tryf.sizeOf4
  v4 := Tryf.zeroValue4
  t5 := Tryf.underlying5
  a5 := Tryf.isAgg5
  z5 := Tryf.sizeOf5
  v5 := Tryf.zeroValue5
  t9 := Tryf.underlying9
  a9 := Tryf.isAgg9
  z9 := Tryf.sizeOf9
  v9 := Tryf.zeroValue9
  t46 := Tryf.underlying49
  a46 := Tryf.isAgg49
  z46 := Tryf.sizeOf49
  v46 := Tryf.zeroValue49
  t51 := Tryf.underlying97
  a51 := Tryf.isAgg97
  z51 := Tryf.sizeOf97
  v51 := Tryf.zeroValue97
  t53 := Tryf.underlying99
  a53 := Tryf.isAgg99
  z53 := Tryf.sizeOf99
  v53 := Tryf.zeroValue99 }
/-- bits.Len: "Len returns the minimum number of bits required to represent x; the result is 0 for x == 0.": IT RETURNS 'Lib.bitLen x'; the world is as it was. (A uint has 64 bits in the model.) ITS CALLEE bits.Len64 IS MET BY ITS OWN CONTRACT OFF THE SHELF (lay that first). (LAID: no walk: one application.) -/
theorem Tryf.bits_Len (x : Int) (w : World) (h0 : 0 ≤ x) (h1 : x ≤ 18446744073709551615) :
    Calls Tryf.prog 41 #[.int .u64 x] w fun e w' => e = .returned (.int .i64 (Lib.bitLen x.toNat)) ∧ w' = w := Any.bits_Len Tryf.lays125 x w h0 h1
def Tryf.lays137_ren : Go.Shelf.Ren := ⟨fun | 137 => 50 | 217 => 62 | 266 => 67 | n => n, fun | 9 => 9 | 5 => 5 | 3 => 3 | n => n, fun | n => n⟩
theorem Tryf.lays137 : Go.Proofs.Lays.n137 Tryf.prog Tryf.lays137_ren := {
  mixed := by kernel_rfl
  f137 := Tryf.func50.trans (congrArg some (by kernel_rfl))
  f217 := Tryf.func62.trans (congrArg some (by kernel_rfl))
  f266 := Tryf.func67.trans (congrArg some (by kernel_rfl))
  t3 := Tryf.underlying3
  a3 := Tryf.isAgg3
  z3 := Tryf.sizeOf3
  v3 := Tryf.zeroValue3
  t5 := Tryf.underlying5
  a5 := Tryf.isAgg5
  z5 := Tryf.sizeOf5
  v5 := Tryf.zeroValue5
  t9 := Tryf.underlying9
  a9 := Tryf.isAgg9
  z9 := Tryf.sizeOf9
  v9 := Tryf.zeroValue9 }
open Go.RowKit in
/-- strings.IndexByte: "IndexByte returns the index of the first instance of c in s, or -1 if c is not present in s.": IT RETURNS 'Lib.indexByte s c'; the world is as it was. (LAID: no walk: one application.) -/
theorem Tryf.strings_IndexByte (s : ByteArray) (c : Int) (w : World) :
    Calls Tryf.prog 50 #[.string s, .int .u8 c] w fun e w' => e = .returned (.int .i64 (Lib.indexByte s.data.toList c.toNat.toUInt8)) ∧ w' = w := Any.strings_IndexByte Tryf.lays137 s c w
def Tryf.lays210_ren : Go.Shelf.Ren := ⟨fun | 210 => 18 | 206 => 35 | n => n, fun | 9 => 9 | 4 => 4 | 3 => 3 | n => n, fun | n => n⟩
theorem Tryf.lays210 : Go.Proofs.Lays.n210 Tryf.prog Tryf.lays210_ren := {
  mixed := by kernel_rfl
  f206 := Tryf.func35.trans (congrArg some (by kernel_rfl))
  f210 := Tryf.func18.trans (congrArg some (by kernel_rfl))
  t3 := Tryf.underlying3
  a3 := Tryf.isAgg3
  z3 := Tryf.sizeOf3
  v3 := Tryf.zeroValue3
  t4 := Tryf.underlying4
  a4 := Tryf.isAgg4
  z4 := Tryf.sizeOf4
  v4 := Tryf.zeroValue4
  t9 := Tryf.underlying9
  a9 := Tryf.isAgg9
  z9 := Tryf.sizeOf9
  v9 := Tryf.zeroValue9 }
open Go.RowKit in
/-- internal/stringslite.CutPrefix (what strings.CutPrefix calls). (LAID: no walk: one application.) -/
theorem Tryf.stringslite_CutPrefix (s p : ByteArray) (w : World) :
    Calls Tryf.prog 18 #[.string s, .string p] w fun e w' => e = .returned (.tuple #[.string ⟨(Lib.trimPrefix s.data.toList p.data.toList).toArray⟩, .bool (Lib.hasPrefix s.data.toList p.data.toList)]) ∧ w' = w := Any.stringslite_CutPrefix Tryf.lays210 s p w
def Tryf.lays103_ren : Go.Shelf.Ren := ⟨fun | 103 => 9 | 210 => 18 | 206 => 35 | n => n, fun | 9 => 9 | 4 => 4 | 24 => 35 | 3 => 3 | n => n, fun | n => n⟩
theorem Tryf.lays103 : Go.Proofs.Lays.n103 Tryf.prog Tryf.lays103_ren := {
  mixed := by kernel_rfl
  f103 := Tryf.func9.trans (congrArg some (by kernel_rfl))
  f206 := Tryf.func35.trans (congrArg some (by kernel_rfl))
  f210 := Tryf.func18.trans (congrArg some (by kernel_rfl))
  t3 := Tryf.underlying3
  a3 := Tryf.isAgg3
  z3 := Tryf.sizeOf3
  v3 := Tryf.zeroValue3
  t4 := Tryf.underlying4
  a4 := Tryf.isAgg4
  z4 := Tryf.sizeOf4
  v4 := Tryf.zeroValue4
  t9 := Tryf.underlying9
  a9 := Tryf.isAgg9
  z9 := Tryf.sizeOf9
  v9 := Tryf.zeroValue9
  t24 := Tryf.underlying35
  a24 := Tryf.isAgg35
  z24 := Tryf.sizeOf35
  v24 := Tryf.zeroValue35 }
open Go.RowKit in
/-- strings.CutPrefix: "CutPrefix returns s without the provided leading prefix string and reports whether it found the prefix. If s doesn't start with prefix, CutPrefix returns s, false. If prefix is the empty string, CutPrefix returns s, true.": IT RETURNS '(Lib.trimPrefix s p, Lib.hasPrefix s p)'; the world is as it was. (LAID: no walk: one application.) -/
theorem Tryf.strings_CutPrefix (s p : ByteArray) (w : World) :
    Calls Tryf.prog 9 #[.string s, .string p] w fun e w' => e = .returned (.tuple #[.string ⟨(Lib.trimPrefix s.data.toList p.data.toList).toArray⟩, .bool (Lib.hasPrefix s.data.toList p.data.toList)]) ∧ w' = w := Any.strings_CutPrefix Tryf.lays103 s p w
def Tryf.lays129_ren : Go.Shelf.Ren := ⟨fun | 129 => 55 | n => n, fun | 53 => 99 | 3 => 3 | 4 => 4 | 46 => 49 | 5 => 5 | 9 => 9 | n => n, fun | n => n⟩
theorem Tryf.lays129 : Go.Proofs.Lays.n129 Tryf.prog Tryf.lays129_ren := {
  mixed := by kernel_rfl
  f129 := Tryf.func55.trans (congrArg some (by kernel_rfl))
  t3 := Tryf.underlying3
  a3 := Tryf.isAgg3
  z3 := Tryf.sizeOf3
  v3 := Tryf.zeroValue3
  t4 := Tryf.underlying4
  a4 := Tryf.isAgg4
  z4 := Tryf.sizeOf4
  v4 := Tryf.zeroValue4
  t5 := Tryf.underlying5
  a5 := Tryf.isAgg5
  z5 := Tryf.sizeOf5
  v5 := Tryf.zeroValue5
  t9 := Tryf.underlying9
  a9 := Tryf.isAgg9
  z9 := Tryf.sizeOf9
  v9 := Tryf.zeroValue9
  t46 := Tryf.underlying49
  a46 := Tryf.isAgg49
  z46 := Tryf.sizeOf49
  v46 := Tryf.zeroValue49
  t53 := Tryf.underlying99
  a53 := Tryf.isAgg99
  z53 := Tryf.sizeOf99
  v53 := Tryf.zeroValue99 }
/-- bits.Len64: "Len64 returns the minimum number of bits required to represent x; the result is 0 for x == 0.": IT RETURNS 'Lib.bitLen x'; the world is as it was. ('h0', 'h1': x is a uint64.) (LAID: no walk: one application.) -/
theorem Tryf.bits_Len64 (x : Int) (w : World) (h0 : 0 ≤ x) (h1 : x ≤ 18446744073709551615) :
    Calls Tryf.prog 55 #[.int .u64 x] w fun e w' => e = .returned (.int .i64 (Lib.bitLen x.toNat)) ∧ w' = w := Any.bits_Len64 Tryf.lays129 x w h0 h1
def Tryf.lays217_ren : Go.Shelf.Ren := ⟨fun | 217 => 62 | 266 => 67 | n => n, fun | 9 => 9 | 5 => 5 | 3 => 3 | n => n, fun | n => n⟩
theorem Tryf.lays217 : Go.Proofs.Lays.n217 Tryf.prog Tryf.lays217_ren := {
  mixed := by kernel_rfl
  f217 := Tryf.func62.trans (congrArg some (by kernel_rfl))
  f266 := Tryf.func67.trans (congrArg some (by kernel_rfl))
  t3 := Tryf.underlying3
  a3 := Tryf.isAgg3
  z3 := Tryf.sizeOf3
  v3 := Tryf.zeroValue3
  t5 := Tryf.underlying5
  a5 := Tryf.isAgg5
  z5 := Tryf.sizeOf5
  v5 := Tryf.zeroValue5
  t9 := Tryf.underlying9
  a9 := Tryf.isAgg9
  z9 := Tryf.sizeOf9
  v9 := Tryf.zeroValue9 }
open Go.RowKit Go.Lib in
/-- internal/stringslite.IndexByte (what strings.IndexByte calls): IT RETURNS 'Lib.indexByte s c'; the world is as it was. (LAID: no walk: one application.) -/
theorem Tryf.stringslite_IndexByte (s : ByteArray) (c : Int) (w : World) :
    Calls Tryf.prog 62 #[.string s, .int .u8 c] w fun e w' => e = .returned (.int .i64 (Lib.indexByte s.data.toList c.toNat.toUInt8)) ∧ w' = w := Any.stringslite_IndexByte Tryf.lays217 s c w
def Tryf.lays224_ren : Go.Shelf.Ren := ⟨fun | 224 => 52 | n => n, fun | 3 => 3 | n => n, fun | n => n⟩
theorem Tryf.lays224 : Go.Proofs.Lays.n224 Tryf.prog Tryf.lays224_ren := {
  mixed := by kernel_rfl
  f224 := Tryf.func52.trans (congrArg some (by kernel_rfl))
  t3 := Tryf.underlying3
  a3 := Tryf.isAgg3
  z3 := Tryf.sizeOf3
  v3 := Tryf.zeroValue3 }
open Go.RowKit Go.Lib in
/-- internal/bytealg.Cutover: "Cutover reports the number of failures of IndexByte we should tolerate before switching over to Index. n is the number of bytes processed so far.": on amd64: (n + 16) / 8. (LAID: no walk: one application.) -/
theorem Tryf.bytealg_Cutover (n : Int) (h0 : 0 ≤ n) (h1 : n < 4611686018427387904) (w : World) :
    Calls Tryf.prog 52 #[.int .i64 n] w fun e w' => e = .returned (.int .i64 ((n + 16) / 8)) ∧ w' = w := Any.bytealg_Cutover Tryf.lays224 n h0 h1 w
def Tryf.lays206_ren : Go.Shelf.Ren := ⟨fun | 206 => 35 | n => n, fun | 9 => 9 | 4 => 4 | 3 => 3 | n => n, fun | n => n⟩
theorem Tryf.lays206 : Go.Proofs.Lays.n206 Tryf.prog Tryf.lays206_ren := {
  mixed := by kernel_rfl
  f206 := Tryf.func35.trans (congrArg some (by kernel_rfl))
  t3 := Tryf.underlying3
  a3 := Tryf.isAgg3
  z3 := Tryf.sizeOf3
  v3 := Tryf.zeroValue3
  t4 := Tryf.underlying4
  a4 := Tryf.isAgg4
  z4 := Tryf.sizeOf4
  v4 := Tryf.zeroValue4
  t9 := Tryf.underlying9
  a9 := Tryf.isAgg9
  z9 := Tryf.sizeOf9
  v9 := Tryf.zeroValue9 }
open Go.RowKit Go.Lib in
/-- internal/stringslite.HasPrefix (what strings.HasPrefix calls). (LAID: no walk: one application.) -/
theorem Tryf.stringslite_HasPrefix (s p : ByteArray) (w : World) :
    Calls Tryf.prog 35 #[.string s, .string p] w fun e w' => e = .returned (.bool (Lib.hasPrefix s.data.toList p.data.toList)) ∧ w' = w := Any.stringslite_HasPrefix Tryf.lays206 s p w
def Tryf.lays152_ren : Go.Shelf.Ren := ⟨fun | 152 => 37 | 137 => 50 | 119 => 51 | 224 => 52 | 225 => 53 | 217 => 62 | 266 => 67 | n => n, fun | 9 => 9 | 21 => 21 | 3 => 3 | 4 => 4 | 5 => 5 | 0 => 0 | 46 => 49 | n => n, fun | n => n⟩
theorem Tryf.lays152 : Go.Proofs.Lays.n152 Tryf.prog Tryf.lays152_ren := {
  mixed := by kernel_rfl
  f119 := Tryf.func51.trans (congrArg some (by kernel_rfl))
  f137 := Tryf.func50.trans (congrArg some (by kernel_rfl))
  f152 := Tryf.func37.trans (congrArg some (by kernel_rfl))
  f217 := Tryf.func62.trans (congrArg some (by kernel_rfl))
  f224 := Tryf.func52.trans (congrArg some (by kernel_rfl))
  f225 := Tryf.func53.trans (congrArg some (by kernel_rfl))
  f266 := Tryf.func67.trans (congrArg some (by kernel_rfl))
  t0 := Tryf.underlying0
  a0 := Tryf.isAgg0
  z0 := Tryf.sizeOf0
  v0 := Tryf.zeroValue0
  t3 := Tryf.underlying3
  a3 := Tryf.isAgg3
  z3 := Tryf.sizeOf3
  v3 := Tryf.zeroValue3
  t4 := Tryf.underlying4
  a4 := Tryf.isAgg4
  z4 := Tryf.sizeOf4
  v4 := Tryf.zeroValue4
  t5 := Tryf.underlying5
  a5 := Tryf.isAgg5
  z5 := Tryf.sizeOf5
  v5 := Tryf.zeroValue5
  t9 := Tryf.underlying9
  a9 := Tryf.isAgg9
  z9 := Tryf.sizeOf9
  v9 := Tryf.zeroValue9
  t21 := Tryf.underlying21
  a21 := Tryf.isAgg21
  z21 := Tryf.sizeOf21
  v21 := Tryf.zeroValue21
  t46 := Tryf.underlying49
  a46 := Tryf.isAgg49
  z46 := Tryf.sizeOf49
  v46 := Tryf.zeroValue49 }
open Go.RowKit Go.Lib in
theorem Tryf.strings_IndexRune_ascii (s : ByteArray) (r : Int) (w : World) (h0 : 0 ≤ r) (h1 : r < 128) :
    Calls Tryf.prog 37 #[.string s, .int .i32 r] w fun e w' => e = .returned (.int .i64 (Lib.indexByte s.data.toList r.toNat.toUInt8)) ∧ w' = w := Any.strings_IndexRune_ascii Tryf.lays152 s r w h0 h1
def Tryf.lays226_ren : Go.Shelf.Ren := ⟨fun | 226 => 38 | n => n, fun | 3 => 3 | 4 => 4 | n => n, fun | n => n⟩
theorem Tryf.lays226 : Go.Proofs.Lays.n226 Tryf.prog Tryf.lays226_ren := {
  mixed := by kernel_rfl
  f226 := Tryf.func38.trans (congrArg some (by kernel_rfl))
  t3 := Tryf.underlying3
  a3 := Tryf.isAgg3
  z3 := Tryf.sizeOf3
  v3 := Tryf.zeroValue3
  t4 := Tryf.underlying4
  a4 := Tryf.isAgg4
  z4 := Tryf.sizeOf4
  v4 := Tryf.zeroValue4 }
open Go.RowKit Go.Lib in
theorem Tryf.strings_shouldUseASCIISet (n : Int) (w : World) :
    Calls Tryf.prog 38 #[.int .i64 n] w fun e w' => e = .returned (.bool (decide (8 < n))) ∧ w' = w := Any.strings_shouldUseASCIISet Tryf.lays226 n w
def Tryf.lays153_ren : Go.Shelf.Ren := ⟨fun | 153 => 27 | 152 => 37 | 226 => 38 | 227 => 39 | 228 => 40 | 137 => 50 | 119 => 51 | 224 => 52 | 225 => 53 | 217 => 62 | 266 => 67 | n => n, fun | 9 => 9 | 3 => 3 | 4 => 4 | 5 => 5 | 21 => 21 | 117 => 76 | 116 => 75 | 0 => 0 | 46 => 49 | 124 => 95 | n => n, fun | n => n⟩
theorem Tryf.lays153 : Go.Proofs.Lays.n153 Tryf.prog Tryf.lays153_ren := {
  mixed := by kernel_rfl
  f119 := Tryf.func51.trans (congrArg some (by kernel_rfl))
  f137 := Tryf.func50.trans (congrArg some (by kernel_rfl))
  f152 := Tryf.func37.trans (congrArg some (by kernel_rfl))
  f153 := Tryf.func27.trans (congrArg some (by kernel_rfl))
  f217 := Tryf.func62.trans (congrArg some (by kernel_rfl))
  f224 := Tryf.func52.trans (congrArg some (by kernel_rfl))
  f225 := Tryf.func53.trans (congrArg some (by kernel_rfl))
  f226 := Tryf.func38.trans (congrArg some (by kernel_rfl))
  f227 := Tryf.func39.trans (congrArg some (by kernel_rfl))
  f228 := Tryf.func40.trans (congrArg some (by kernel_rfl))
  f266 := Tryf.func67.trans (congrArg some (by kernel_rfl))
  t0 := Tryf.underlying0
  a0 := Tryf.isAgg0
  z0 := Tryf.sizeOf0
  v0 := Tryf.zeroValue0
  t3 := Tryf.underlying3
  a3 := Tryf.isAgg3
  z3 := Tryf.sizeOf3
  v3 := Tryf.zeroValue3
  t4 := Tryf.underlying4
  a4 := Tryf.isAgg4
  z4 := Tryf.sizeOf4
  v4 := Tryf.zeroValue4
  t5 := Tryf.underlying5
  a5 := Tryf.isAgg5
  z5 := Tryf.sizeOf5
  v5 := Tryf.zeroValue5
  t9 := Tryf.underlying9
  a9 := Tryf.isAgg9
  z9 := Tryf.sizeOf9
  v9 := Tryf.zeroValue9
  t21 := Tryf.underlying21
  a21 := Tryf.isAgg21
  z21 := Tryf.sizeOf21
  v21 := Tryf.zeroValue21
  t46 := Tryf.underlying49
  a46 := Tryf.isAgg49
  z46 := Tryf.sizeOf49
  v46 := Tryf.zeroValue49
  t116 := Tryf.underlying75
  a116 := Tryf.isAgg75
  z116 := Tryf.sizeOf75
  t117 := Tryf.underlying76
  a117 := Tryf.isAgg76
  z117 := Tryf.sizeOf76
  v117 := Tryf.zeroValue76
  t124 := Tryf.underlying95
  a124 := Tryf.isAgg95
  z124 := Tryf.sizeOf95
  v124 := Tryf.zeroValue95 }
open Go.RowKit Go.Lib in
/-- chars is empty. (LAID: no walk: one application.) -/
theorem Tryf.strings_IndexAny_none (s chars : ByteArray) (w : World) (h0 : chars.size = 0) :
    Calls Tryf.prog 27 #[.string s, .string chars] w fun e w' => e = .returned (.int .i64 (Lib.indexAny s.data.toList chars.data.toList)) ∧ w' = w := Any.strings_IndexAny_none Tryf.lays153 s chars w h0
open Go.RowKit Go.Lib in
/-- chars is one ASCII byte. (LAID: no walk: one application.) -/
theorem Tryf.strings_IndexAny_one (s chars : ByteArray) (w : World) (h1 : chars.size = 1) (hascii : ∀ (j : Nat) b, chars.data.toList[j]? = some b → b.toNat < 128) :
    Calls Tryf.prog 27 #[.string s, .string chars] w fun e w' => e = .returned (.int .i64 (Lib.indexAny s.data.toList chars.data.toList)) ∧ w' = w := Any.strings_IndexAny_one Tryf.lays153 s chars w h1 hascii
open Go.RowKit Go.Lib in
/-- s of at most 8 bytes; chars of two or more: 'for i, c := range s { if IndexRune(chars, c) >= 0 { return i } }'. One block more: the model's iterator over s. (LAID: no walk: one application.) -/
theorem Tryf.strings_IndexAny_short (s chars : ByteArray) (w : World) (h2 : 2 ≤ chars.size) (h8 : s.size ≤ 8) (hascii : ∀ (j : Nat) b, s.data.toList[j]? = some b → b.toNat < 128) :
    Calls Tryf.prog 27 #[.string s, .string chars] w fun e w' => e = .returned (.int .i64 (Lib.indexAny s.data.toList chars.data.toList)) ∧ ∃ pos, w' = w.iter s pos := Any.strings_IndexAny_short Tryf.lays153 s chars w h2 h8 hascii
def Tryf.lays227_ren : Go.Shelf.Ren := ⟨fun | 227 => 39 | n => n, fun | 9 => 9 | 116 => 75 | 4 => 4 | 0 => 0 | 3 => 3 | 5 => 5 | n => n, fun | n => n⟩
theorem Tryf.lays227 : Go.Proofs.Lays.n227 Tryf.prog Tryf.lays227_ren := {
  mixed := by kernel_rfl
  f227 := Tryf.func39.trans (congrArg some (by kernel_rfl))
  t0 := Tryf.underlying0
  a0 := Tryf.isAgg0
  z0 := Tryf.sizeOf0
  v0 := Tryf.zeroValue0
  t3 := Tryf.underlying3
  a3 := Tryf.isAgg3
  z3 := Tryf.sizeOf3
  v3 := Tryf.zeroValue3
  t4 := Tryf.underlying4
  a4 := Tryf.isAgg4
  z4 := Tryf.sizeOf4
  v4 := Tryf.zeroValue4
  t5 := Tryf.underlying5
  a5 := Tryf.isAgg5
  z5 := Tryf.sizeOf5
  v5 := Tryf.zeroValue5
  t9 := Tryf.underlying9
  a9 := Tryf.isAgg9
  z9 := Tryf.sizeOf9
  v9 := Tryf.zeroValue9
  t116 := Tryf.underlying75
  a116 := Tryf.isAgg75
  z116 := Tryf.sizeOf75 }
open Go.RowKit Go.Lib in
theorem Tryf.strings_makeASCIISet (hv116 : ∀ w, (zeroValue 75).run Tryf.prog w = .ok (.agg (Array.replicate 256 (.bool false))) w) (chars : ByteArray) (w : World) (hs : chars.size < 4294967281) (hascii : ∀ (j : Nat) b, chars.data.toList[j]? = some b → b.toNat < 128) :
    Calls Tryf.prog 39 #[.string chars] w fun e w' => e = .returned (.tuple #[.agg (Lib.setCells chars.data.toList), .bool true]) ∧ w' = w.alloc (.cells (Lib.setCells chars.data.toList) 75) := Any.strings_makeASCIISet Tryf.lays227 hv116 (by kernel_rfl) chars w hs hascii
def Tryf.lays228_ren : Go.Shelf.Ren := ⟨fun | 228 => 40 | n => n, fun | 124 => 95 | 5 => 5 | 4 => 4 | 0 => 0 | 116 => 75 | n => n, fun | n => n⟩
theorem Tryf.lays228 : Go.Proofs.Lays.n228 Tryf.prog Tryf.lays228_ren := {
  mixed := by kernel_rfl
  f228 := Tryf.func40.trans (congrArg some (by kernel_rfl))
  t0 := Tryf.underlying0
  a0 := Tryf.isAgg0
  z0 := Tryf.sizeOf0
  v0 := Tryf.zeroValue0
  t4 := Tryf.underlying4
  a4 := Tryf.isAgg4
  z4 := Tryf.sizeOf4
  v4 := Tryf.zeroValue4
  t5 := Tryf.underlying5
  a5 := Tryf.isAgg5
  z5 := Tryf.sizeOf5
  v5 := Tryf.zeroValue5
  t116 := Tryf.underlying75
  a116 := Tryf.isAgg75
  z116 := Tryf.sizeOf75
  t124 := Tryf.underlying95
  a124 := Tryf.isAgg95
  z124 := Tryf.sizeOf95
  v124 := Tryf.zeroValue95 }
open Go.RowKit Go.Lib in
/-- '(as *asciiSet) contains(c)': 'as[c]': the set lies at block b, whole. (LAID: no walk: one application.) -/
theorem Tryf.asciiSet_contains (b : Nat) (x : UInt8) (v : Bool) (w : World) (hc : w.cell? ⟨b, x.toNat, none⟩ = some (.bool v)) :
    Calls Tryf.prog 40 #[.pointer (some ⟨b, 0, none⟩), .int .u8 x.toNat] w fun e w' => e = .returned (.bool v) ∧ w' = w := Any.asciiSet_contains Tryf.lays228 b x v w hc
open Go.RowKit Go.Lib in
theorem Tryf.strings_IndexAny_long (hv116 : ∀ w, (zeroValue 75).run Tryf.prog w = .ok (.agg (Array.replicate 256 (.bool false))) w) (s chars : ByteArray) (w : World) (h2 : 2 ≤ chars.size) (h8 : 8 < s.size) (hs : s.size < 4294967281) (hcs : chars.size < 4294967281) (hascii : ∀ (j : Nat) b, chars.data.toList[j]? = some b → b.toNat < 128) :
    Calls Tryf.prog 27 #[.string s, .string chars] w fun e w' => e = .returned (.int .i64 (Lib.indexAny s.data.toList chars.data.toList)) ∧ w' = ((w.alloc (.cells (Lib.setCells chars.data.toList) 75)).alloc (.cells (Lib.setCells chars.data.toList) 75)) := Any.strings_IndexAny_long Tryf.lays153 hv116 (by kernel_rfl) s chars w h2 h8 hs hcs hascii
open Go.RowKit Go.Lib in
/-- strings.IndexAny ON ASCII BYTES: the four roads under one statement. (LAID: no walk: one application.) -/
theorem Tryf.strings_IndexAny (hv116 : ∀ w, (zeroValue 75).run Tryf.prog w = .ok (.agg (Array.replicate 256 (.bool false))) w) (s chars : ByteArray) (w : World) (hs : s.size < 4294967281) (hcs : chars.size < 4294967281) (has : ∀ (j : Nat) b, s.data.toList[j]? = some b → b.toNat < 128) (hac : ∀ (j : Nat) b, chars.data.toList[j]? = some b → b.toNat < 128) :
    Calls Tryf.prog 27 #[.string s, .string chars] w fun e w' => e = .returned (.int .i64 (Lib.indexAny s.data.toList chars.data.toList)) ∧ Below w.heap.size w w' := Any.strings_IndexAny Tryf.lays153 hv116 (by kernel_rfl) s chars w hs hcs has hac
def Tryf.lays150_ren : Go.Shelf.Ren := ⟨fun | 150 => 11 | 153 => 27 | 152 => 37 | 226 => 38 | 227 => 39 | 228 => 40 | 137 => 50 | 119 => 51 | 224 => 52 | 225 => 53 | 217 => 62 | 266 => 67 | n => n, fun | 9 => 9 | 4 => 4 | 3 => 3 | 5 => 5 | 21 => 21 | 117 => 76 | 116 => 75 | 0 => 0 | 46 => 49 | 124 => 95 | n => n, fun | n => n⟩
theorem Tryf.lays150 : Go.Proofs.Lays.n150 Tryf.prog Tryf.lays150_ren := {
  mixed := by kernel_rfl
  f119 := Tryf.func51.trans (congrArg some (by kernel_rfl))
  f137 := Tryf.func50.trans (congrArg some (by kernel_rfl))
  f150 := Tryf.func11.trans (congrArg some (by kernel_rfl))
  f152 := Tryf.func37.trans (congrArg some (by kernel_rfl))
  f153 := Tryf.func27.trans (congrArg some (by kernel_rfl))
  f217 := Tryf.func62.trans (congrArg some (by kernel_rfl))
  f224 := Tryf.func52.trans (congrArg some (by kernel_rfl))
  f225 := Tryf.func53.trans (congrArg some (by kernel_rfl))
  f226 := Tryf.func38.trans (congrArg some (by kernel_rfl))
  f227 := Tryf.func39.trans (congrArg some (by kernel_rfl))
  f228 := Tryf.func40.trans (congrArg some (by kernel_rfl))
  f266 := Tryf.func67.trans (congrArg some (by kernel_rfl))
  t0 := Tryf.underlying0
  a0 := Tryf.isAgg0
  z0 := Tryf.sizeOf0
  v0 := Tryf.zeroValue0
  t3 := Tryf.underlying3
  a3 := Tryf.isAgg3
  z3 := Tryf.sizeOf3
  v3 := Tryf.zeroValue3
  t4 := Tryf.underlying4
  a4 := Tryf.isAgg4
  z4 := Tryf.sizeOf4
  v4 := Tryf.zeroValue4
  t5 := Tryf.underlying5
  a5 := Tryf.isAgg5
  z5 := Tryf.sizeOf5
  v5 := Tryf.zeroValue5
  t9 := Tryf.underlying9
  a9 := Tryf.isAgg9
  z9 := Tryf.sizeOf9
  v9 := Tryf.zeroValue9
  t21 := Tryf.underlying21
  a21 := Tryf.isAgg21
  z21 := Tryf.sizeOf21
  v21 := Tryf.zeroValue21
  t46 := Tryf.underlying49
  a46 := Tryf.isAgg49
  z46 := Tryf.sizeOf49
  v46 := Tryf.zeroValue49
  t116 := Tryf.underlying75
  a116 := Tryf.isAgg75
  z116 := Tryf.sizeOf75
  t117 := Tryf.underlying76
  a117 := Tryf.isAgg76
  z117 := Tryf.sizeOf76
  v117 := Tryf.zeroValue76
  t124 := Tryf.underlying95
  a124 := Tryf.isAgg95
  z124 := Tryf.sizeOf95
  v124 := Tryf.zeroValue95 }
open Go.RowKit Go.Lib in
/-- strings.ContainsAny ON ASCII BYTES. (LAID: no walk: one application.) -/
theorem Tryf.strings_ContainsAny (hv116 : ∀ w, (zeroValue 75).run Tryf.prog w = .ok (.agg (Array.replicate 256 (.bool false))) w) (s chars : ByteArray) (w : World) (hs : s.size < 4294967281) (hcs : chars.size < 4294967281) (has : ∀ (j : Nat) b, s.data.toList[j]? = some b → b.toNat < 128) (hac : ∀ (j : Nat) b, chars.data.toList[j]? = some b → b.toNat < 128) :
    Calls Tryf.prog 11 #[.string s, .string chars] w fun e w' => e = .returned (.bool (Lib.containsAny s.data.toList chars.data.toList)) ∧ Below w.heap.size w w' := Any.strings_ContainsAny Tryf.lays150 hv116 (by kernel_rfl) s chars w hs hcs has hac
open Go.RowKit Go.Lib in
theorem Tryf.strings_IndexAny_laid (s chars : ByteArray) (w : World) (hs : s.size < 4294967281) (hcs : chars.size < 4294967281) (has : ∀ (j : Nat) b, s.data.toList[j]? = some b → b.toNat < 128) (hac : ∀ (j : Nat) b, chars.data.toList[j]? = some b → b.toNat < 128) :
    Calls Tryf.prog 27 #[.string s, .string chars] w fun e w' => e = .returned (.int .i64 (Lib.indexAny s.data.toList chars.data.toList)) ∧ Below w.heap.size w w' := Any.strings_IndexAny_laid Tryf.lays153 (by kernel_rfl) s chars w hs hcs has hac
open Go.RowKit Go.Lib in
theorem Tryf.strings_ContainsAny_laid (s chars : ByteArray) (w : World) (hs : s.size < 4294967281) (hcs : chars.size < 4294967281) (has : ∀ (j : Nat) b, s.data.toList[j]? = some b → b.toNat < 128) (hac : ∀ (j : Nat) b, chars.data.toList[j]? = some b → b.toNat < 128) :
    Calls Tryf.prog 11 #[.string s, .string chars] w fun e w' => e = .returned (.bool (Lib.containsAny s.data.toList chars.data.toList)) ∧ Below w.heap.size w w' := Any.strings_ContainsAny_laid Tryf.lays150 (by kernel_rfl) s chars w hs hcs has hac
def Tryf.lays264_ren : Go.Shelf.Ren := ⟨fun | 264 => 71 | n => n, fun | 53 => 99 | 46 => 49 | n => n, fun | n => n⟩
theorem Tryf.lays264 : Go.Proofs.Lays.n264 Tryf.prog Tryf.lays264_ren := {
  mixed := by kernel_rfl
  f264 := Tryf.func71.trans (congrArg some (by kernel_rfl))
  t46 := Tryf.underlying49
  a46 := Tryf.isAgg49
  z46 := Tryf.sizeOf49
  v46 := Tryf.zeroValue49
  t53 := Tryf.underlying99
  a53 := Tryf.isAgg99
  z53 := Tryf.sizeOf99
  v53 := Tryf.zeroValue99 }
open Go.RowKit Go.Lib in
theorem Tryf.bits_Mul64 (x y : Nat) (hx : x < 18446744073709551616) (hy : y < 18446744073709551616) (w : World) :
    Calls Tryf.prog 71 #[.int .u64 x, .int .u64 y] w fun e w' => e = .returned (.tuple #[.int .u64 ((x * y / 18446744073709551616 : Nat) : Int), .int .u64 ((x * y % 18446744073709551616 : Nat) : Int)]) ∧ w' = w := Any.bits_Mul64 Tryf.lays264 x y hx hy w
def Tryf.lays212_ren : Go.Shelf.Ren := ⟨fun | 212 => 68 | 263 => 70 | 264 => 71 | n => n, fun | 46 => 49 | 51 => 97 | 146 => 115 | 53 => 99 | 148 => 117 | n => n, fun | n => n⟩
theorem Tryf.lays212 : Go.Proofs.Lays.n212 Tryf.prog Tryf.lays212_ren := {
  mixed := by kernel_rfl
  f212 := Tryf.func68.trans (congrArg some (by kernel_rfl))
  f263 := Tryf.func70.trans (congrArg some (by kernel_rfl))
  f264 := Tryf.func71.trans (congrArg some (by kernel_rfl))
  t46 := Tryf.underlying49
  a46 := Tryf.isAgg49
  z46 := Tryf.sizeOf49
  v46 := Tryf.zeroValue49
  t51 := Tryf.underlying97
  a51 := Tryf.isAgg97
  z51 := Tryf.sizeOf97
  v51 := Tryf.zeroValue97
  t53 := Tryf.underlying99
  a53 := Tryf.isAgg99
  z53 := Tryf.sizeOf99
  v53 := Tryf.zeroValue99
  t146 := Tryf.underlying115
  a146 := Tryf.isAgg115
  z146 := Tryf.sizeOf115
  v146 := Tryf.zeroValue115
  t148 := Tryf.underlying117
  a148 := Tryf.isAgg117
  z148 := Tryf.sizeOf117
  v148 := Tryf.zeroValue117 }
open Go.RowKit Go.Lib in
/-- math/bits.Mul: "Mul returns the full-width product of x and y": on a machine of 64 bits: Mul64's. (LAID: no walk: one application.) -/
theorem Tryf.bits_Mul (x y : Nat) (hx : x < 18446744073709551616) (hy : y < 18446744073709551616) (w : World) :
    Calls Tryf.prog 68 #[.int .u64 x, .int .u64 y] w fun e w' => e = .returned (.tuple #[.int .u64 ((x * y / 18446744073709551616 : Nat) : Int), .int .u64 ((x * y % 18446744073709551616 : Nat) : Int)]) ∧ w' = w := Any.bits_Mul Tryf.lays212 x y hx hy w
def Tryf.laysPa41_ren : Go.Shelf.Ren := ⟨fun | 41 => 33 | n => n, fun | 3 => 3 | n => n, fun | n => n⟩
theorem Tryf.laysPa41 : Go.Proofs.Lays.p41 Tryf.prog Tryf.laysPa41_ren := {
  mixed := by kernel_rfl
  f41 := Tryf.func33.trans (congrArg some (by kernel_rfl))
  t3 := Tryf.underlying3
  a3 := Tryf.isAgg3
  z3 := Tryf.sizeOf3
  v3 := Tryf.zeroValue3 }
open Go.RowKit Go.Lib in
/-- encoding/hex.EncodedLen: "EncodedLen returns the length of an encoding of n source bytes. Specifically, it returns n * 2.": for 0 ≤ n < 2^62 (beyond it int's product wraps). (LAID: no walk: one application.) -/
theorem Tryf.hex_EncodedLen (n : Int) (h0 : 0 ≤ n) (h1 : n < 4611686018427387904) (w : World) :
    Calls Tryf.prog 33 #[.int .i64 n] w fun e w' => e = .returned (.int .i64 (n * 2)) ∧ w' = w := Any.hex_EncodedLen Tryf.laysPa41 n h0 h1 w
def Tryf.laysPa40_ren : Go.Shelf.Ren := ⟨fun | 40 => 34 | n => n, fun | 30 => 47 | 3 => 3 | 0 => 0 | 5 => 5 | 46 => 49 | 9 => 9 | n => n, fun | n => n⟩
theorem Tryf.laysPa40 : Go.Proofs.Lays.p40 Tryf.prog Tryf.laysPa40_ren := {
  mixed := by kernel_rfl
  f40 := Tryf.func34.trans (congrArg some (by kernel_rfl))
  t0 := Tryf.underlying0
  a0 := Tryf.isAgg0
  z0 := Tryf.sizeOf0
  v0 := Tryf.zeroValue0
  t3 := Tryf.underlying3
  a3 := Tryf.isAgg3
  z3 := Tryf.sizeOf3
  v3 := Tryf.zeroValue3
  t5 := Tryf.underlying5
  a5 := Tryf.isAgg5
  z5 := Tryf.sizeOf5
  v5 := Tryf.zeroValue5
  t9 := Tryf.underlying9
  a9 := Tryf.isAgg9
  z9 := Tryf.sizeOf9
  v9 := Tryf.zeroValue9
  t30 := Tryf.underlying47
  a30 := Tryf.isAgg47
  z30 := Tryf.sizeOf47
  v30 := Tryf.zeroValue47
  t46 := Tryf.underlying49
  a46 := Tryf.isAgg49
  z46 := Tryf.sizeOf49
  v46 := Tryf.zeroValue49 }
open Go.RowKit Go.Lib in
/-- encoding/hex.Encode: "Encode encodes src into EncodedLen(len(src)) bytes of dst. As a convenience, it returns the number of bytes written to dst, but this value is always EncodedLen(len(src)). Encode implements hexadecimal encoding.": dst: nd places from place od on of a row (block bd: N cells of uint8, none frozen, holding 'f'), with room for the digits; src: n cells of ANOTHER block, holding the numbers xs, each a byte's. IT RETURNS n * 2; THE ROW THEN HOLDS 'Hx.row f od (the bytes of src) n': the 2 * n digits of 'Hx.encode' from place od on, else what it held; nothing else has turned ('grownBy'). (LAID: no walk: one application.) -/
theorem Tryf.hex_Encode (bd od nd cd N : Nat) (f : Nat → Value) (bs os n cs : Nat) (xs : List Int) (w : World) (hx : xs.length = n) (hr : ∀ i, i < n → 0 ≤ xs.getD i 0 ∧ xs.getD i 0 < 256) (hsrc : ∀ i, i < n → w.cell? ⟨bs, os + i, none⟩ = some (.int .u8 (xs.getD i 0))) (hrow : w.rowIs bd 5 N f) (hfit : od + nd ≤ N) (hlen : 2 * n ≤ nd) (hne : bd ≠ bs) (hbig : n ≤ 4611686018427387903) :
    Calls Tryf.prog 34 #[.slice (some ⟨bd, od, none⟩) nd cd, .slice (some ⟨bs, os, none⟩) n cs] w fun e w' => e = .returned (.int .i64 ((n : Int) * 2)) ∧ w'.rowIs bd 5 N (Hx.row f od (Lib.bytesOf xs) n) ∧ w.grownBy w' (some bd) := Any.hex_Encode Tryf.laysPa40 bd od nd cd N f bs os n cs xs w hx hr hsrc hrow hfit hlen hne hbig
def Tryf.laysPah39_ren : Go.Shelf.Ren := ⟨fun | 39 => 17 | 41 => 33 | 40 => 34 | n => n, fun | 30 => 47 | 9 => 9 | 3 => 3 | 0 => 0 | 5 => 5 | 46 => 49 | n => n, fun | n => n⟩
theorem Tryf.laysPah39 : Go.Proofs.Lays.ph39 Tryf.prog Tryf.laysPah39_ren := {
  mixed := by kernel_rfl
  f39 := Tryf.func17.trans (congrArg some (by kernel_rfl))
  f40 := Tryf.func34.trans (congrArg some (by kernel_rfl))
  f41 := Tryf.func33.trans (congrArg some (by kernel_rfl))
  t0 := Tryf.underlying0
  a0 := Tryf.isAgg0
  z0 := Tryf.sizeOf0
  v0 := Tryf.zeroValue0
  t3 := Tryf.underlying3
  a3 := Tryf.isAgg3
  z3 := Tryf.sizeOf3
  v3 := Tryf.zeroValue3
  t5 := Tryf.underlying5
  a5 := Tryf.isAgg5
  z5 := Tryf.sizeOf5
  v5 := Tryf.zeroValue5
  t9 := Tryf.underlying9
  a9 := Tryf.isAgg9
  z9 := Tryf.sizeOf9
  v9 := Tryf.zeroValue9
  t30 := Tryf.underlying47
  a30 := Tryf.isAgg47
  z30 := Tryf.sizeOf47
  v30 := Tryf.zeroValue47
  t46 := Tryf.underlying49
  a46 := Tryf.isAgg49
  z46 := Tryf.sizeOf49
  v46 := Tryf.zeroValue49
  info5 := by kernel_rfl }
open Go.RowKit Go.Lib in
/-- encoding/hex.EncodeToString: "EncodeToString returns the hexadecimal encoding of src.": src: n cells holding the numbers xs, each a byte's. IT RETURNS THE STRING OF 'Hx.encode (the bytes of src)'; what was there before the call is as it was ('Below': the call lays one new block). IT ASKS 2 * n ≤ 2^48 (makeslice's own limit). (LAID: no walk: one application.) -/
theorem Tryf.hex_EncodeToString (bs os n cs : Nat) (xs : List Int) (w : World) (hx : xs.length = n) (hr : ∀ i, i < n → 0 ≤ xs.getD i 0 ∧ xs.getD i 0 < 256) (hsrc : ∀ i, i < n → w.cell? ⟨bs, os + i, none⟩ = some (.int .u8 (xs.getD i 0))) (hb : bs < w.heap.size) (hbig : 2 * n ≤ 281474976710656) :
    Calls Tryf.prog 17 #[.slice (some ⟨bs, os, none⟩) n cs] w fun e w' => e = .returned (.string ⟨(Hx.encode (Lib.bytesOf xs)).toArray⟩) ∧ Below w.heap.size w w' := Any.hex_EncodeToString Tryf.laysPah39 bs os n cs xs w hx hr hsrc hb hbig
open Go.RowKit Go.Lib in
/-- encoding/hex.Encode AT A src THAT IS nil: nothing is written; it returns 0. (dst: whatever value.) (LAID: no walk: one application.) -/
theorem Tryf.hex_Encode_nil (dst : Value) (w : World) :
    Calls Tryf.prog 34 #[dst, .slice none 0 0] w fun e w' => e = .returned (.int .i64 0) ∧ w' = w := Any.hex_Encode_nil Tryf.laysPa40 dst w
open Go.RowKit Go.Lib in
/-- encoding/hex.EncodeToString AT A src THAT IS nil: IT RETURNS ""; what was there before the call is as it was. (LAID: no walk: one application.) -/
theorem Tryf.hex_EncodeToString_nil (w : World) :
    Calls Tryf.prog 17 #[.slice none 0 0] w fun e w' => e = .returned (.string ⟨#[]⟩) ∧ Below w.heap.size w w' := Any.hex_EncodeToString_nil Tryf.laysPah39 w
open Go.RowKit Go.Lib in
/-- encoding/hex.EncodeToString, the slice's content held AS BYTES. (LAID: no walk: one application.) -/
theorem Tryf.hex_EncodeToString_bytes (bs os cs : Nat) (l : List UInt8) (w : World) (hsrc : ∀ i (h : i < l.length), w.cell? ⟨bs, os + i, none⟩ = some (.int .u8 ((l[i]'h).toNat : Int))) (hb : bs < w.heap.size) (hbig : 2 * l.length ≤ 281474976710656) :
    Calls Tryf.prog 17 #[.slice (some ⟨bs, os, none⟩) l.length cs] w fun e w' => e = .returned (.string ⟨(Hx.encode l).toArray⟩) ∧ Below w.heap.size w w' := Any.hex_EncodeToString_bytes Tryf.laysPah39 bs os cs l w hsrc hb hbig
end Go.Proofs
