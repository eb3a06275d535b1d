/-
  DERIVED: THE SHELF's CONTRACTS AT THIS DUMP, IN PLAIN WORDS (tools/lay-plain.mjs out of 'TryzShelf.lean', which tools/lay-shelf.mjs wrote): THE SAME DECLARATIONS UNDER THE SAME NAMES: 'import', 'namespace', 'open', 'def', 'theorem' AND NOTHING ELSE: no command of the shelf's: FOR A HAND-IN. Each laying: the table of numbers ('.._ren') and one theorem, a field a fact of the dump's own or the kernel's comparison; each contract: ONE APPLICATION.
-/
import Derived.Shelf.Strings.Trim
import Derived.Shelf.Small.Utf8
import Derived.Shelf.Small.Bits
import Derived.Shelf.Small.Strs
import Derived.Shelf.Strconv.Itoa0
import Derived.Shelf.Strings.Search1
import Derived.Shelf.Strings.Runes
import Derived.Shelf.Strings.AsciiSet
import Derived.Shelf.Unicode.DecodeSlow
import Derived.Shelf.Bytes.SlSearch0
import Derived.Ground.SlgmProg
import Derived.Shelf.SortM.Plain
import Derived.Shelf.SortM.SortNone
import Derived.Shelf.Bytes.SlEqualAll
import Derived.Shelf.Bytes.Small
import Derived.Test.YtegahpgnmeobhaaGreatDoorProg
namespace Go.Proofs
open Go.Shelf
def Tryz.lays231_ren : Go.Shelf.Ren := ⟨fun | 231 => 93 | n => n, fun | 9 => 9 | 5 => 5 | 3 => 3 | 4 => 4 | n => n, fun | n => n⟩
theorem Tryz.lays231 : Go.Proofs.Lays.n231 Tryz.prog Tryz.lays231_ren := {
  mixed := by kernel_rfl
  f231 := Tryz.func93.trans (congrArg some (by kernel_rfl))
  t3 := Tryz.underlying3
  a3 := Tryz.isAgg3
  z3 := Tryz.sizeOf3
  v3 := Tryz.zeroValue3
  t4 := Tryz.underlying4
  a4 := Tryz.isAgg4
  z4 := Tryz.sizeOf4
  v4 := Tryz.zeroValue4
  t5 := Tryz.underlying5
  a5 := Tryz.isAgg5
  z5 := Tryz.sizeOf5
  v5 := Tryz.zeroValue5
  t9 := Tryz.underlying9
  a9 := Tryz.isAgg9
  z9 := Tryz.sizeOf9
  v9 := Tryz.zeroValue9 }
open Go.RowKit in
/-- strings.trimLeftByte (no doc; what TrimLeft and Trim call at a cutset of one ASCII byte): the leading bytes that are c are cut off. The world is as it was. (LAID: no walk: one application.) -/
theorem Tryz.strings_trimLeftByte (s : ByteArray) (c : UInt8) (w : World) :
    Calls Tryz.prog 93 #[.string s, .int .u8 c.toNat] w fun e w' => e = .returned (.string ⟨(Lib.trimLeftB s.data.toList c).toArray⟩) ∧ w' = w := Any.strings_trimLeftByte Tryz.lays231 s c w
def Tryz.lays232_ren : Go.Shelf.Ren := ⟨fun | 232 => 94 | n => n, fun | 9 => 9 | 5 => 5 | 3 => 3 | 4 => 4 | n => n, fun | n => n⟩
theorem Tryz.lays232 : Go.Proofs.Lays.n232 Tryz.prog Tryz.lays232_ren := {
  mixed := by kernel_rfl
  f232 := Tryz.func94.trans (congrArg some (by kernel_rfl))
  t3 := Tryz.underlying3
  a3 := Tryz.isAgg3
  z3 := Tryz.sizeOf3
  v3 := Tryz.zeroValue3
  t4 := Tryz.underlying4
  a4 := Tryz.isAgg4
  z4 := Tryz.sizeOf4
  v4 := Tryz.zeroValue4
  t5 := Tryz.underlying5
  a5 := Tryz.isAgg5
  z5 := Tryz.sizeOf5
  v5 := Tryz.zeroValue5
  t9 := Tryz.underlying9
  a9 := Tryz.isAgg9
  z9 := Tryz.sizeOf9
  v9 := Tryz.zeroValue9 }
open Go.RowKit in
/-- strings.trimRightByte (no doc; what TrimRight and Trim call at a cutset of one ASCII byte): the trailing bytes that are c are cut off. The world is as it was. ('hs': a string's length is a number that an int holds.) (LAID: no walk: one application.) -/
theorem Tryz.strings_trimRightByte (s : ByteArray) (c : UInt8) (w : World) (hs : s.size ≤ 9223372036854775807) :
    Calls Tryz.prog 94 #[.string s, .int .u8 c.toNat] w fun e w' => e = .returned (.string ⟨(Lib.trimRightB s.data.toList c).toArray⟩) ∧ w' = w := Any.strings_trimRightByte Tryz.lays232 s c w hs
def Tryz.lays160_ren : Go.Shelf.Ren := ⟨fun | 160 => 79 | 232 => 94 | 231 => 93 | 227 => 95 | 234 => 97 | 233 => 96 | 236 => 99 | 235 => 98 | 228 => 111 | 271 => 114 | 151 => 113 | 197 => 112 | 120 => 123 | 152 => 122 | 260 => 121 | 137 => 125 | 119 => 126 | 224 => 127 | 225 => 128 | 217 => 129 | 266 => 130 | n => n, fun | 9 => 9 | 4 => 4 | 3 => 3 | 5 => 5 | 117 => 123 | 116 => 122 | 0 => 0 | 124 => 126 | 21 => 21 | 105 => 141 | 46 => 91 | 119 => 154 | 139 => 157 | 138 => 156 | n => n, fun | 3 => 0 | 4 => 1 | n => n⟩
theorem Tryz.lays160 : Go.Proofs.Lays.n160 Tryz.prog Tryz.lays160_ren := {
  mixed := by kernel_rfl
  f119 := Tryz.func126.trans (congrArg some (by kernel_rfl))
  f120 := Tryz.func123.trans (congrArg some (by kernel_rfl))
  f137 := Tryz.func125.trans (congrArg some (by kernel_rfl))
  f151 := Tryz.func113.trans (congrArg some (by kernel_rfl))
  f152 := Tryz.func122.trans (congrArg some (by kernel_rfl))
  f160 := Tryz.func79.trans (congrArg some (by kernel_rfl))
  f197 := Tryz.func112.trans (congrArg some (by kernel_rfl))
  f217 := Tryz.func129.trans (congrArg some (by kernel_rfl))
  f224 := Tryz.func127.trans (congrArg some (by kernel_rfl))
  f225 := Tryz.func128.trans (congrArg some (by kernel_rfl))
  f227 := Tryz.func95.trans (congrArg some (by kernel_rfl))
  f228 := Tryz.func111.trans (congrArg some (by kernel_rfl))
  f231 := Tryz.func93.trans (congrArg some (by kernel_rfl))
  f232 := Tryz.func94.trans (congrArg some (by kernel_rfl))
  f233 := Tryz.func96.trans (congrArg some (by kernel_rfl))
  f234 := Tryz.func97.trans (congrArg some (by kernel_rfl))
  f235 := Tryz.func98.trans (congrArg some (by kernel_rfl))
  f236 := Tryz.func99.trans (congrArg some (by kernel_rfl))
  f260 := Tryz.func121.trans (congrArg some (by kernel_rfl))
  f266 := Tryz.func130.trans (congrArg some (by kernel_rfl))
  f271 := Tryz.func114.trans (congrArg some (by kernel_rfl))
  t0 := Tryz.underlying0
  a0 := Tryz.isAgg0
  z0 := Tryz.sizeOf0
  v0 := Tryz.zeroValue0
  t3 := Tryz.underlying3
  a3 := Tryz.isAgg3
  z3 := Tryz.sizeOf3
  v3 := Tryz.zeroValue3
  t4 := Tryz.underlying4
  a4 := Tryz.isAgg4
  z4 := Tryz.sizeOf4
  v4 := Tryz.zeroValue4
  t5 := Tryz.underlying5
  a5 := Tryz.isAgg5
  z5 := Tryz.sizeOf5
  v5 := Tryz.zeroValue5
  t9 := Tryz.underlying9
  a9 := Tryz.isAgg9
  z9 := Tryz.sizeOf9
  v9 := Tryz.zeroValue9
  t21 := Tryz.underlying21
  a21 := Tryz.isAgg21
  z21 := Tryz.sizeOf21
  v21 := Tryz.zeroValue21
  t46 := Tryz.underlying91
  a46 := Tryz.isAgg91
  z46 := Tryz.sizeOf91
  v46 := Tryz.zeroValue91
  t105 := Tryz.underlying141
  a105 := Tryz.isAgg141
  z105 := Tryz.sizeOf141
  v105 := Tryz.zeroValue141
  t116 := Tryz.underlying122
  a116 := Tryz.isAgg122
  z116 := Tryz.sizeOf122
  t117 := Tryz.underlying123
  a117 := Tryz.isAgg123
  z117 := Tryz.sizeOf123
  v117 := Tryz.zeroValue123
  t119 := Tryz.underlying154
  a119 := Tryz.isAgg154
  z119 := Tryz.sizeOf154
  t124 := Tryz.underlying126
  a124 := Tryz.isAgg126
  z124 := Tryz.sizeOf126
  v124 := Tryz.zeroValue126
  t138 := Tryz.underlying156
  a138 := Tryz.isAgg156
  z138 := Tryz.sizeOf156
  v138 := Tryz.zeroValue156
  t139 := Tryz.underlying157
  a139 := Tryz.isAgg157
  z139 := Tryz.sizeOf157
  v139 := Tryz.zeroValue157
  g3 := by kernel_rfl
  g4 := by kernel_rfl }
open Go.RowKit in
/-- strings.Trim: "Trim returns a slice of the string s with all leading and trailing Unicode code points contained in cutset removed.": AT A cutset OF ONE ASCII BYTE. THE WORLD BEHIND IT: as it was, or (where s is not empty) with ONE DRAW MORE off the tape: the statement 'return trimLeftByte(trimRightByte(s, c), c)' draws its order of evaluation. (LAID: no walk: one application.) -/
theorem Tryz.strings_Trim_one (s : ByteArray) (c : UInt8) (hc : c.toNat < 128) (w : World) (hs : s.size ≤ 9223372036854775807) :
    Calls Tryz.prog 79 #[.string s, .string ⟨#[c]⟩] w fun e w' => e = .returned (.string ⟨(Lib.trimB s.data.toList c).toArray⟩) ∧ (w' = w ∨ w' = w.drew) := Any.strings_Trim_one Tryz.lays160 s c hc w hs
def Tryz.lays119_ren : Go.Shelf.Ren := ⟨fun | 119 => 126 | n => n, fun | 21 => 21 | 4 => 4 | n => n, fun | n => n⟩
theorem Tryz.lays119 : Go.Proofs.Lays.n119 Tryz.prog Tryz.lays119_ren := {
  mixed := by kernel_rfl
  f119 := Tryz.func126.trans (congrArg some (by kernel_rfl))
  t4 := Tryz.underlying4
  a4 := Tryz.isAgg4
  z4 := Tryz.sizeOf4
  v4 := Tryz.zeroValue4
  t21 := Tryz.underlying21
  a21 := Tryz.isAgg21
  z21 := Tryz.sizeOf21
  v21 := Tryz.zeroValue21 }
/-- utf8.ValidRune: "ValidRune reports whether r can be legally encoded as UTF-8. Code points that are out of range or a surrogate half are illegal.": IT RETURNS 'Lib.validRune r'; the world is as it was. (LAID: no walk: one application.) -/
theorem Tryz.utf8_ValidRune (r : Int) (w : World) :
    Calls Tryz.prog 126 #[.int .i32 r] w fun e w' => e = .returned (.bool (Lib.validRune r)) ∧ w' = w := Any.utf8_ValidRune Tryz.lays119 r w
def Tryz.lays120_ren : Go.Shelf.Ren := ⟨fun | 120 => 123 | n => n, fun | 5 => 5 | 4 => 4 | n => n, fun | n => n⟩
theorem Tryz.lays120 : Go.Proofs.Lays.n120 Tryz.prog Tryz.lays120_ren := {
  mixed := by kernel_rfl
  f120 := Tryz.func123.trans (congrArg some (by kernel_rfl))
  t4 := Tryz.underlying4
  a4 := Tryz.isAgg4
  z4 := Tryz.sizeOf4
  v4 := Tryz.zeroValue4
  t5 := Tryz.underlying5
  a5 := Tryz.isAgg5
  z5 := Tryz.sizeOf5
  v5 := Tryz.zeroValue5 }
/-- utf8.RuneStart: "RuneStart reports whether the byte could be the first byte of an encoded, possibly invalid rune. Second and subsequent bytes always have the top two bits set to 10.": IT RETURNS 'Lib.runeStart b'; the world is as it was. ('h0', 'h1': b is a byte: a caller has it of every byte that it was handed.) (LAID: no walk: one application.) -/
theorem Tryz.utf8_RuneStart (b : Int) (w : World) (h0 : 0 ≤ b) (h1 : b < 256) :
    Calls Tryz.prog 123 #[.int .u8 b] w fun e w' => e = .returned (.bool (Lib.runeStart b)) ∧ w' = w := Any.utf8_RuneStart Tryz.lays120 b w h0 h1
def Tryz.lays128_ren : Go.Shelf.Ren := ⟨fun | 128 => 109 | n => n, fun | 51 => 137 | 3 => 3 | 4 => 4 | 46 => 91 | 5 => 5 | 9 => 9 | n => n, fun | n => n⟩
theorem Tryz.lays128 : Go.Proofs.Lays.n128 Tryz.prog Tryz.lays128_ren := {
  mixed := by kernel_rfl
  f128 := Tryz.func109.trans (congrArg some (by kernel_rfl))
  t3 := Tryz.underlying3
  a3 := Tryz.isAgg3
  z3 := Tryz.sizeOf3
  v3 := Tryz.zeroValue3
  t4 := Tryz.underlying4
  a4 := Tryz.isAgg4
  z4 := Tryz.sizeOf4
  v4 := Tryz.zeroValue4
  t5 := Tryz.underlying5
  a5 := Tryz.isAgg5
  z5 := Tryz.sizeOf5
  v5 := Tryz.zeroValue5
  t9 := Tryz.underlying9
  a9 := Tryz.isAgg9
  z9 := Tryz.sizeOf9
  v9 := Tryz.zeroValue9
  t46 := Tryz.underlying91
  a46 := Tryz.isAgg91
  z46 := Tryz.sizeOf91
  v46 := Tryz.zeroValue91
  t51 := Tryz.underlying137
  a51 := Tryz.isAgg137
  z51 := Tryz.sizeOf137
  v51 := Tryz.zeroValue137 }
/-- bits.Len32: "Len32 returns the minimum number of bits required to represent x; the result is 0 for x == 0.": IT RETURNS 'Lib.bitLen x'; the world is as it was. ('h0', 'h1': x is a uint32.) (LAID: no walk: one application.) -/
theorem Tryz.bits_Len32 (x : Int) (w : World) (h0 : 0 ≤ x) (h1 : x ≤ 4294967295) :
    Calls Tryz.prog 109 #[.int .u32 x] w fun e w' => e = .returned (.int .i64 (Lib.bitLen x.toNat)) ∧ w' = w := Any.bits_Len32 Tryz.lays128 x w h0 h1
def Tryz.lays125_ren : Go.Shelf.Ren := ⟨fun | 125 => 92 | 128 => 109 | 129 => 110 | n => n, fun | 46 => 91 | 3 => 3 | 51 => 137 | 53 => 139 | 4 => 4 | 5 => 5 | 9 => 9 | n => n, fun | n => n⟩
theorem Tryz.lays125 : Go.Proofs.Lays.n125 Tryz.prog Tryz.lays125_ren := {
  mixed := by kernel_rfl
  f125 := Tryz.func92.trans (congrArg some (by kernel_rfl))
  f128 := Tryz.func109.trans (congrArg some (by kernel_rfl))
  f129 := Tryz.func110.trans (congrArg some (by kernel_rfl))
  t3 := Tryz.underlying3
  a3 := Tryz.isAgg3
  z3 := Tryz.sizeOf3
  v3 := Tryz.zeroValue3
  t4 := Tryz.underlying4
  a4 := Tryz.isAgg4
  z4 := Tryz.sizeOf4
  v4 := Tryz.zeroValue4
  t5 := Tryz.underlying5
  a5 := Tryz.isAgg5
  z5 := Tryz.sizeOf5
  v5 := Tryz.zeroValue5
  t9 := Tryz.underlying9
  a9 := Tryz.isAgg9
  z9 := Tryz.sizeOf9
  v9 := Tryz.zeroValue9
  t46 := Tryz.underlying91
  a46 := Tryz.isAgg91
  z46 := Tryz.sizeOf91
  v46 := Tryz.zeroValue91
  t51 := Tryz.underlying137
  a51 := Tryz.isAgg137
  z51 := Tryz.sizeOf137
  v51 := Tryz.zeroValue137
  t53 := Tryz.underlying139
  a53 := Tryz.isAgg139
  z53 := Tryz.sizeOf139
  v53 := Tryz.zeroValue139 }
/-- bits.Len: "Len returns the minimum number of bits required to represent x; the result is 0 for x == 0.": IT RETURNS 'Lib.bitLen x'; the world is as it was. (A uint has 64 bits in the model.) ITS CALLEE bits.Len64 IS MET BY ITS OWN CONTRACT OFF THE SHELF (lay that first). (LAID: no walk: one application.) -/
theorem Tryz.bits_Len (x : Int) (w : World) (h0 : 0 ≤ x) (h1 : x ≤ 18446744073709551615) :
    Calls Tryz.prog 92 #[.int .u64 x] w fun e w' => e = .returned (.int .i64 (Lib.bitLen x.toNat)) ∧ w' = w := Any.bits_Len Tryz.lays125 x w h0 h1
def Tryz.lays137_ren : Go.Shelf.Ren := ⟨fun | 137 => 125 | 217 => 129 | 266 => 130 | n => n, fun | 9 => 9 | 5 => 5 | 3 => 3 | n => n, fun | n => n⟩
theorem Tryz.lays137 : Go.Proofs.Lays.n137 Tryz.prog Tryz.lays137_ren := {
  mixed := by kernel_rfl
  f137 := Tryz.func125.trans (congrArg some (by kernel_rfl))
  f217 := Tryz.func129.trans (congrArg some (by kernel_rfl))
  f266 := Tryz.func130.trans (congrArg some (by kernel_rfl))
  t3 := Tryz.underlying3
  a3 := Tryz.isAgg3
  z3 := Tryz.sizeOf3
  v3 := Tryz.zeroValue3
  t5 := Tryz.underlying5
  a5 := Tryz.isAgg5
  z5 := Tryz.sizeOf5
  v5 := Tryz.zeroValue5
  t9 := Tryz.underlying9
  a9 := Tryz.isAgg9
  z9 := Tryz.sizeOf9
  v9 := Tryz.zeroValue9 }
open Go.RowKit in
/-- strings.IndexByte: "IndexByte returns the index of the first instance of c in s, or -1 if c is not present in s.": IT RETURNS 'Lib.indexByte s c'; the world is as it was. (LAID: no walk: one application.) -/
theorem Tryz.strings_IndexByte (s : ByteArray) (c : Int) (w : World) :
    Calls Tryz.prog 125 #[.string s, .int .u8 c] w fun e w' => e = .returned (.int .i64 (Lib.indexByte s.data.toList c.toNat.toUInt8)) ∧ w' = w := Any.strings_IndexByte Tryz.lays137 s c w
def Tryz.lays129_ren : Go.Shelf.Ren := ⟨fun | 129 => 110 | n => n, fun | 53 => 139 | 3 => 3 | 4 => 4 | 46 => 91 | 5 => 5 | 9 => 9 | n => n, fun | n => n⟩
theorem Tryz.lays129 : Go.Proofs.Lays.n129 Tryz.prog Tryz.lays129_ren := {
  mixed := by kernel_rfl
  f129 := Tryz.func110.trans (congrArg some (by kernel_rfl))
  t3 := Tryz.underlying3
  a3 := Tryz.isAgg3
  z3 := Tryz.sizeOf3
  v3 := Tryz.zeroValue3
  t4 := Tryz.underlying4
  a4 := Tryz.isAgg4
  z4 := Tryz.sizeOf4
  v4 := Tryz.zeroValue4
  t5 := Tryz.underlying5
  a5 := Tryz.isAgg5
  z5 := Tryz.sizeOf5
  v5 := Tryz.zeroValue5
  t9 := Tryz.underlying9
  a9 := Tryz.isAgg9
  z9 := Tryz.sizeOf9
  v9 := Tryz.zeroValue9
  t46 := Tryz.underlying91
  a46 := Tryz.isAgg91
  z46 := Tryz.sizeOf91
  v46 := Tryz.zeroValue91
  t53 := Tryz.underlying139
  a53 := Tryz.isAgg139
  z53 := Tryz.sizeOf139
  v53 := Tryz.zeroValue139 }
/-- bits.Len64: "Len64 returns the minimum number of bits required to represent x; the result is 0 for x == 0.": IT RETURNS 'Lib.bitLen x'; the world is as it was. ('h0', 'h1': x is a uint64.) (LAID: no walk: one application.) -/
theorem Tryz.bits_Len64 (x : Int) (w : World) (h0 : 0 ≤ x) (h1 : x ≤ 18446744073709551615) :
    Calls Tryz.prog 110 #[.int .u64 x] w fun e w' => e = .returned (.int .i64 (Lib.bitLen x.toNat)) ∧ w' = w := Any.bits_Len64 Tryz.lays129 x w h0 h1
def Tryz.lays217_ren : Go.Shelf.Ren := ⟨fun | 217 => 129 | 266 => 130 | n => n, fun | 9 => 9 | 5 => 5 | 3 => 3 | n => n, fun | n => n⟩
theorem Tryz.lays217 : Go.Proofs.Lays.n217 Tryz.prog Tryz.lays217_ren := {
  mixed := by kernel_rfl
  f217 := Tryz.func129.trans (congrArg some (by kernel_rfl))
  f266 := Tryz.func130.trans (congrArg some (by kernel_rfl))
  t3 := Tryz.underlying3
  a3 := Tryz.isAgg3
  z3 := Tryz.sizeOf3
  v3 := Tryz.zeroValue3
  t5 := Tryz.underlying5
  a5 := Tryz.isAgg5
  z5 := Tryz.sizeOf5
  v5 := Tryz.zeroValue5
  t9 := Tryz.underlying9
  a9 := Tryz.isAgg9
  z9 := Tryz.sizeOf9
  v9 := Tryz.zeroValue9 }
open Go.RowKit Go.Lib in
/-- internal/stringslite.IndexByte (what strings.IndexByte calls): IT RETURNS 'Lib.indexByte s c'; the world is as it was. (LAID: no walk: one application.) -/
theorem Tryz.stringslite_IndexByte (s : ByteArray) (c : Int) (w : World) :
    Calls Tryz.prog 129 #[.string s, .int .u8 c] w fun e w' => e = .returned (.int .i64 (Lib.indexByte s.data.toList c.toNat.toUInt8)) ∧ w' = w := Any.stringslite_IndexByte Tryz.lays217 s c w
def Tryz.lays224_ren : Go.Shelf.Ren := ⟨fun | 224 => 127 | n => n, fun | 3 => 3 | n => n, fun | n => n⟩
theorem Tryz.lays224 : Go.Proofs.Lays.n224 Tryz.prog Tryz.lays224_ren := {
  mixed := by kernel_rfl
  f224 := Tryz.func127.trans (congrArg some (by kernel_rfl))
  t3 := Tryz.underlying3
  a3 := Tryz.isAgg3
  z3 := Tryz.sizeOf3
  v3 := Tryz.zeroValue3 }
open Go.RowKit Go.Lib in
/-- internal/bytealg.Cutover: "Cutover reports the number of failures of IndexByte we should tolerate before switching over to Index. n is the number of bytes processed so far.": on amd64: (n + 16) / 8. (LAID: no walk: one application.) -/
theorem Tryz.bytealg_Cutover (n : Int) (h0 : 0 ≤ n) (h1 : n < 4611686018427387904) (w : World) :
    Calls Tryz.prog 127 #[.int .i64 n] w fun e w' => e = .returned (.int .i64 ((n + 16) / 8)) ∧ w' = w := Any.bytealg_Cutover Tryz.lays224 n h0 h1 w
def Tryz.lays152_ren : Go.Shelf.Ren := ⟨fun | 152 => 122 | 137 => 125 | 119 => 126 | 224 => 127 | 225 => 128 | 217 => 129 | 266 => 130 | n => n, fun | 9 => 9 | 21 => 21 | 3 => 3 | 4 => 4 | 5 => 5 | 0 => 0 | 46 => 91 | n => n, fun | n => n⟩
theorem Tryz.lays152 : Go.Proofs.Lays.n152 Tryz.prog Tryz.lays152_ren := {
  mixed := by kernel_rfl
  f119 := Tryz.func126.trans (congrArg some (by kernel_rfl))
  f137 := Tryz.func125.trans (congrArg some (by kernel_rfl))
  f152 := Tryz.func122.trans (congrArg some (by kernel_rfl))
  f217 := Tryz.func129.trans (congrArg some (by kernel_rfl))
  f224 := Tryz.func127.trans (congrArg some (by kernel_rfl))
  f225 := Tryz.func128.trans (congrArg some (by kernel_rfl))
  f266 := Tryz.func130.trans (congrArg some (by kernel_rfl))
  t0 := Tryz.underlying0
  a0 := Tryz.isAgg0
  z0 := Tryz.sizeOf0
  v0 := Tryz.zeroValue0
  t3 := Tryz.underlying3
  a3 := Tryz.isAgg3
  z3 := Tryz.sizeOf3
  v3 := Tryz.zeroValue3
  t4 := Tryz.underlying4
  a4 := Tryz.isAgg4
  z4 := Tryz.sizeOf4
  v4 := Tryz.zeroValue4
  t5 := Tryz.underlying5
  a5 := Tryz.isAgg5
  z5 := Tryz.sizeOf5
  v5 := Tryz.zeroValue5
  t9 := Tryz.underlying9
  a9 := Tryz.isAgg9
  z9 := Tryz.sizeOf9
  v9 := Tryz.zeroValue9
  t21 := Tryz.underlying21
  a21 := Tryz.isAgg21
  z21 := Tryz.sizeOf21
  v21 := Tryz.zeroValue21
  t46 := Tryz.underlying91
  a46 := Tryz.isAgg91
  z46 := Tryz.sizeOf91
  v46 := Tryz.zeroValue91 }
open Go.RowKit Go.Lib in
theorem Tryz.strings_IndexRune_ascii (s : ByteArray) (r : Int) (w : World) (h0 : 0 ≤ r) (h1 : r < 128) :
    Calls Tryz.prog 122 #[.string s, .int .i32 r] w fun e w' => e = .returned (.int .i64 (Lib.indexByte s.data.toList r.toNat.toUInt8)) ∧ w' = w := Any.strings_IndexRune_ascii Tryz.lays152 s r w h0 h1
def Tryz.lays151_ren : Go.Shelf.Ren := ⟨fun | 151 => 113 | 152 => 122 | 137 => 125 | 119 => 126 | 224 => 127 | 225 => 128 | 217 => 129 | 266 => 130 | n => n, fun | 9 => 9 | 21 => 21 | 4 => 4 | 3 => 3 | 5 => 5 | 0 => 0 | 46 => 91 | n => n, fun | n => n⟩
theorem Tryz.lays151 : Go.Proofs.Lays.n151 Tryz.prog Tryz.lays151_ren := {
  mixed := by kernel_rfl
  f119 := Tryz.func126.trans (congrArg some (by kernel_rfl))
  f137 := Tryz.func125.trans (congrArg some (by kernel_rfl))
  f151 := Tryz.func113.trans (congrArg some (by kernel_rfl))
  f152 := Tryz.func122.trans (congrArg some (by kernel_rfl))
  f217 := Tryz.func129.trans (congrArg some (by kernel_rfl))
  f224 := Tryz.func127.trans (congrArg some (by kernel_rfl))
  f225 := Tryz.func128.trans (congrArg some (by kernel_rfl))
  f266 := Tryz.func130.trans (congrArg some (by kernel_rfl))
  t0 := Tryz.underlying0
  a0 := Tryz.isAgg0
  z0 := Tryz.sizeOf0
  v0 := Tryz.zeroValue0
  t3 := Tryz.underlying3
  a3 := Tryz.isAgg3
  z3 := Tryz.sizeOf3
  v3 := Tryz.zeroValue3
  t4 := Tryz.underlying4
  a4 := Tryz.isAgg4
  z4 := Tryz.sizeOf4
  v4 := Tryz.zeroValue4
  t5 := Tryz.underlying5
  a5 := Tryz.isAgg5
  z5 := Tryz.sizeOf5
  v5 := Tryz.zeroValue5
  t9 := Tryz.underlying9
  a9 := Tryz.isAgg9
  z9 := Tryz.sizeOf9
  v9 := Tryz.zeroValue9
  t21 := Tryz.underlying21
  a21 := Tryz.isAgg21
  z21 := Tryz.sizeOf21
  v21 := Tryz.zeroValue21
  t46 := Tryz.underlying91
  a46 := Tryz.isAgg91
  z46 := Tryz.sizeOf91
  v46 := Tryz.zeroValue91 }
open Go.RowKit Go.Lib in
theorem Tryz.strings_ContainsRune_ascii (s : ByteArray) (r : Int) (w : World) (h0 : 0 ≤ r) (h1 : r < 128) :
    Calls Tryz.prog 113 #[.string s, .int .i32 r] w fun e w' => e = .returned (.bool (decide (0 ≤ Lib.indexByte s.data.toList r.toNat.toUInt8))) ∧ w' = w := Any.strings_ContainsRune_ascii Tryz.lays151 s r w h0 h1
def Tryz.lays227_ren : Go.Shelf.Ren := ⟨fun | 227 => 95 | n => n, fun | 9 => 9 | 116 => 122 | 4 => 4 | 0 => 0 | 3 => 3 | 5 => 5 | n => n, fun | n => n⟩
theorem Tryz.lays227 : Go.Proofs.Lays.n227 Tryz.prog Tryz.lays227_ren := {
  mixed := by kernel_rfl
  f227 := Tryz.func95.trans (congrArg some (by kernel_rfl))
  t0 := Tryz.underlying0
  a0 := Tryz.isAgg0
  z0 := Tryz.sizeOf0
  v0 := Tryz.zeroValue0
  t3 := Tryz.underlying3
  a3 := Tryz.isAgg3
  z3 := Tryz.sizeOf3
  v3 := Tryz.zeroValue3
  t4 := Tryz.underlying4
  a4 := Tryz.isAgg4
  z4 := Tryz.sizeOf4
  v4 := Tryz.zeroValue4
  t5 := Tryz.underlying5
  a5 := Tryz.isAgg5
  z5 := Tryz.sizeOf5
  v5 := Tryz.zeroValue5
  t9 := Tryz.underlying9
  a9 := Tryz.isAgg9
  z9 := Tryz.sizeOf9
  v9 := Tryz.zeroValue9
  t116 := Tryz.underlying122
  a116 := Tryz.isAgg122
  z116 := Tryz.sizeOf122 }
open Go.RowKit Go.Lib in
theorem Tryz.strings_makeASCIISet (hv116 : ∀ w, (zeroValue 122).run Tryz.prog w = .ok (.agg (Array.replicate 256 (.bool false))) w) (chars : ByteArray) (w : World) (hs : chars.size < 4294967281) (hascii : ∀ (j : Nat) b, chars.data.toList[j]? = some b → b.toNat < 128) :
    Calls Tryz.prog 95 #[.string chars] w fun e w' => e = .returned (.tuple #[.agg (Lib.setCells chars.data.toList), .bool true]) ∧ w' = w.alloc (.cells (Lib.setCells chars.data.toList) 122) := Any.strings_makeASCIISet Tryz.lays227 hv116 (by kernel_rfl) chars w hs hascii
def Tryz.lays228_ren : Go.Shelf.Ren := ⟨fun | 228 => 111 | n => n, fun | 124 => 126 | 5 => 5 | 4 => 4 | 0 => 0 | 116 => 122 | n => n, fun | n => n⟩
theorem Tryz.lays228 : Go.Proofs.Lays.n228 Tryz.prog Tryz.lays228_ren := {
  mixed := by kernel_rfl
  f228 := Tryz.func111.trans (congrArg some (by kernel_rfl))
  t0 := Tryz.underlying0
  a0 := Tryz.isAgg0
  z0 := Tryz.sizeOf0
  v0 := Tryz.zeroValue0
  t4 := Tryz.underlying4
  a4 := Tryz.isAgg4
  z4 := Tryz.sizeOf4
  v4 := Tryz.zeroValue4
  t5 := Tryz.underlying5
  a5 := Tryz.isAgg5
  z5 := Tryz.sizeOf5
  v5 := Tryz.zeroValue5
  t116 := Tryz.underlying122
  a116 := Tryz.isAgg122
  z116 := Tryz.sizeOf122
  t124 := Tryz.underlying126
  a124 := Tryz.isAgg126
  z124 := Tryz.sizeOf126
  v124 := Tryz.zeroValue126 }
open Go.RowKit Go.Lib in
/-- '(as *asciiSet) contains(c)': 'as[c]': the set lies at block b, whole. (LAID: no walk: one application.) -/
theorem Tryz.asciiSet_contains (b : Nat) (x : UInt8) (v : Bool) (w : World) (hc : w.cell? ⟨b, x.toNat, none⟩ = some (.bool v)) :
    Calls Tryz.prog 111 #[.pointer (some ⟨b, 0, none⟩), .int .u8 x.toNat] w fun e w' => e = .returned (.bool v) ∧ w' = w := Any.asciiSet_contains Tryz.lays228 b x v w hc
def Tryz.lays260_ren : Go.Shelf.Ren := ⟨fun | 260 => 121 | n => n, fun | 9 => 9 | 21 => 21 | 3 => 3 | 4 => 4 | 5 => 5 | 119 => 154 | 0 => 0 | 46 => 91 | 139 => 157 | 138 => 156 | n => n, fun | 3 => 0 | 4 => 1 | n => n⟩
theorem Tryz.lays260 : Go.Proofs.Lays.n260 Tryz.prog Tryz.lays260_ren := {
  mixed := by kernel_rfl
  f260 := Tryz.func121.trans (congrArg some (by kernel_rfl))
  t0 := Tryz.underlying0
  a0 := Tryz.isAgg0
  z0 := Tryz.sizeOf0
  v0 := Tryz.zeroValue0
  t3 := Tryz.underlying3
  a3 := Tryz.isAgg3
  z3 := Tryz.sizeOf3
  v3 := Tryz.zeroValue3
  t4 := Tryz.underlying4
  a4 := Tryz.isAgg4
  z4 := Tryz.sizeOf4
  v4 := Tryz.zeroValue4
  t5 := Tryz.underlying5
  a5 := Tryz.isAgg5
  z5 := Tryz.sizeOf5
  v5 := Tryz.zeroValue5
  t9 := Tryz.underlying9
  a9 := Tryz.isAgg9
  z9 := Tryz.sizeOf9
  v9 := Tryz.zeroValue9
  t21 := Tryz.underlying21
  a21 := Tryz.isAgg21
  z21 := Tryz.sizeOf21
  v21 := Tryz.zeroValue21
  t46 := Tryz.underlying91
  a46 := Tryz.isAgg91
  z46 := Tryz.sizeOf91
  v46 := Tryz.zeroValue91
  t119 := Tryz.underlying154
  a119 := Tryz.isAgg154
  z119 := Tryz.sizeOf154
  t138 := Tryz.underlying156
  a138 := Tryz.isAgg156
  z138 := Tryz.sizeOf156
  v138 := Tryz.zeroValue156
  t139 := Tryz.underlying157
  a139 := Tryz.isAgg157
  z139 := Tryz.sizeOf157
  v139 := Tryz.zeroValue157
  g3 := by kernel_rfl
  g4 := by kernel_rfl }
open Go.RowKit Go.Lib in
theorem Tryz.utf8_decodeRuneInStringSlow (s : ByteArray) (w : World) (hT : Lib.Utf8Tabs 0 1 w) :
    Calls Tryz.prog 121 #[.string s] w fun e w' => e = .returned (.tuple #[.int .i32 (Lib.decodeGo s).1, .int .i64 (Lib.decodeGo s).2]) ∧ Below w.heap.size w w' := Any.utf8_decodeRuneInStringSlow Tryz.lays260 s w hT
def Tryz.lays115_ren : Go.Shelf.Ren := ⟨fun | 115 => 65 | n => n, fun | 37 => 23 | 4 => 4 | 9 => 9 | 5 => 5 | n => n, fun | n => n⟩
theorem Tryz.lays115 : Go.Proofs.Lays.n115 Tryz.prog Tryz.lays115_ren := {
  mixed := by kernel_rfl
  f115 := Tryz.func65.trans (congrArg some (by kernel_rfl))
  t4 := Tryz.underlying4
  a4 := Tryz.isAgg4
  z4 := Tryz.sizeOf4
  v4 := Tryz.zeroValue4
  t9 := Tryz.underlying9
  a9 := Tryz.isAgg9
  z9 := Tryz.sizeOf9
  v9 := Tryz.zeroValue9
  t37 := Tryz.underlying23
  a37 := Tryz.isAgg23
  z37 := Tryz.sizeOf23
  v37 := Tryz.zeroValue23 }
open Go.Proofs Go.RowKit Go.Lib in
/-- bytes.Equal, each argument with what 'string(..)' of it gives. (LAID: no walk: one application.) -/
theorem Tryz.bytes_Equal_strs (v1 v2 : Value) (t1 t2 : ByteArray) (w : World) (h1 : (convert 23 9 v1).run Tryz.prog w = .ok (.string t1) w) (h2 : (convert 23 9 v2).run Tryz.prog w = .ok (.string t2) w) :
    Calls Tryz.prog 65 #[v1, v2] w fun e w' => e = .returned (.bool (t1.toList == t2.toList)) ∧ w' = w := Any.bytes_Equal_strs Tryz.lays115 v1 v2 t1 t2 w h1 h2
def Tryz.laysSlM6_f73_ren : Go.Shelf.Ren := ⟨fun | 6 => 73 | 8 => 92 | 9 => 91 | 19 => 109 | 20 => 110 | 21 => 100 | 22 => 101 | 23 => 102 | 24 => 103 | 25 => 104 | 26 => 105 | 27 => 106 | 28 => 107 | 29 => 108 | 36 => 115 | 31 => 116 | 32 => 117 | 37 => 118 | 38 => 119 | 39 => 120 | 41 => 124 | n => n, fun | 27 => 43 | 29 => 9 | 3 => 3 | 32 => 91 | 26 => 43 | 0 => 0 | 44 => 137 | 46 => 139 | 4 => 4 | 36 => 129 | 35 => 128 | 41 => 134 | 5 => 5 | 9 => 9 | 53 => 144 | 57 => 148 | 63 => 151 | 64 => 152 | n => n, fun | n => n⟩
theorem Tryz.laysSlM6_f73 : Go.Proofs.SlLaysM.n6 Tryz.prog Tryz.laysSlM6_f73_ren := {
  mixed := by kernel_rfl
  f6 := ⟨Tryz.f73.name, by decide, Tryz.func73.trans (congrArg some (by kernel_rfl))⟩
  f8 := Tryz.func92.trans (congrArg some (by kernel_rfl))
  f9 := ⟨Tryz.f91.name, by decide, Tryz.func91.trans (congrArg some (by kernel_rfl))⟩
  f19 := Tryz.func109.trans (congrArg some (by kernel_rfl))
  f20 := Tryz.func110.trans (congrArg some (by kernel_rfl))
  f21 := ⟨Tryz.f100.name, by decide, Tryz.func100.trans (congrArg some (by kernel_rfl))⟩
  f22 := ⟨Tryz.f101.name, by decide, Tryz.func101.trans (congrArg some (by kernel_rfl))⟩
  f23 := ⟨Tryz.f102.name, by decide, Tryz.func102.trans (congrArg some (by kernel_rfl))⟩
  f24 := ⟨Tryz.f103.name, by decide, Tryz.func103.trans (congrArg some (by kernel_rfl))⟩
  f25 := ⟨Tryz.f104.name, by decide, Tryz.func104.trans (congrArg some (by kernel_rfl))⟩
  f26 := ⟨Tryz.f105.name, by decide, Tryz.func105.trans (congrArg some (by kernel_rfl))⟩
  f27 := ⟨Tryz.f106.name, by decide, Tryz.func106.trans (congrArg some (by kernel_rfl))⟩
  f28 := ⟨Tryz.f107.name, by decide, Tryz.func107.trans (congrArg some (by kernel_rfl))⟩
  f29 := ⟨Tryz.f108.name, by decide, Tryz.func108.trans (congrArg some (by kernel_rfl))⟩
  f31 := Tryz.func116.trans (congrArg some (by kernel_rfl))
  f32 := Tryz.func117.trans (congrArg some (by kernel_rfl))
  f36 := ⟨Tryz.f115.name, by decide, Tryz.func115.trans (congrArg some (by kernel_rfl))⟩
  f37 := ⟨Tryz.f118.name, by decide, Tryz.func118.trans (congrArg some (by kernel_rfl))⟩
  f38 := ⟨Tryz.f119.name, by decide, Tryz.func119.trans (congrArg some (by kernel_rfl))⟩
  f39 := ⟨Tryz.f120.name, by decide, Tryz.func120.trans (congrArg some (by kernel_rfl))⟩
  f41 := ⟨Tryz.f124.name, by decide, Tryz.func124.trans (congrArg some (by kernel_rfl))⟩
  t0 := Tryz.underlying0
  a0 := Tryz.isAgg0
  z0 := Tryz.sizeOf0
  v0 := Tryz.zeroValue0
  t3 := Tryz.underlying3
  a3 := Tryz.isAgg3
  z3 := Tryz.sizeOf3
  v3 := Tryz.zeroValue3
  t4 := Tryz.underlying4
  a4 := Tryz.isAgg4
  z4 := Tryz.sizeOf4
  v4 := Tryz.zeroValue4
  t5 := Tryz.underlying5
  a5 := Tryz.isAgg5
  z5 := Tryz.sizeOf5
  v5 := Tryz.zeroValue5
  t9 := Tryz.underlying9
  a9 := Tryz.isAgg9
  z9 := Tryz.sizeOf9
  v9 := Tryz.zeroValue9
  t26 := Tryz.underlying43
  a26 := Tryz.isAgg43
  z26 := Tryz.sizeOf43
  v26 := Tryz.zeroValue43
  t27 := Tryz.underlying43
  a27 := Tryz.isAgg43
  z27 := Tryz.sizeOf43
  v27 := Tryz.zeroValue43
  t29 := Tryz.underlying9
  a29 := Tryz.isAgg9
  z29 := Tryz.sizeOf9
  v29 := Tryz.zeroValue9
  t32 := Tryz.underlying91
  a32 := Tryz.isAgg91
  z32 := Tryz.sizeOf91
  v32 := Tryz.zeroValue91
  t35 := Tryz.underlying128
  a35 := Tryz.isAgg128
  z35 := Tryz.sizeOf128
  v35 := Tryz.zeroValue128
  t36 := Tryz.underlying129
  a36 := Tryz.isAgg129
  z36 := Tryz.sizeOf129
  v36 := Tryz.zeroValue129
  t41 := Tryz.underlying134
  a41 := Tryz.isAgg134
  z41 := Tryz.sizeOf134
  v41 := Tryz.zeroValue134
  t44 := Tryz.underlying137
  a44 := Tryz.isAgg137
  z44 := Tryz.sizeOf137
  v44 := Tryz.zeroValue137
  t46 := Tryz.underlying139
  a46 := Tryz.isAgg139
  z46 := Tryz.sizeOf139
  v46 := Tryz.zeroValue139
  t53 := Tryz.underlying144
  a53 := Tryz.isAgg144
  z53 := Tryz.sizeOf144
  v53 := Tryz.zeroValue144
  t57 := Tryz.underlying148
  a57 := Tryz.isAgg148
  z57 := Tryz.sizeOf148
  v57 := Tryz.zeroValue148
  t63 := Tryz.underlying151
  a63 := Tryz.isAgg151
  z63 := Tryz.sizeOf151
  v63 := Tryz.zeroValue151
  t64 := Tryz.underlying152
  a64 := Tryz.isAgg152
  z64 := Tryz.sizeOf152
  v64 := Tryz.zeroValue152 }
open Go.Sort Go.RowKit in
theorem Tryz.slices_Sort_string (blk off cap : Nat) (ss : List (List UInt8)) (w : World) (hH : Holds encStr w blk off ss.toArray) (hblk : blk < w.heap.size) (hsz : ss.length < 4611686018427387904) :
    Calls Tryz.prog 73 #[.slice (some ⟨blk, off, none⟩) ss.length cap] w fun e w' =>
      e = .returned (.tuple #[]) ∧ ∃ n os, w' = grow (putRow encStr (Sort.ahead w n) blk off (ss.mergeSort fun x y => decide (x ≤ y)).toArray) os := AnyM.slices_Sort_string Tryz.laysSlM6_f73 blk off cap ss w hH hblk hsz
open Go.RowKit Go.Sort in
/-- .. and plain. (LAID AT THE INSTANCE 'slices.Sort[[]string,string]': no walk: one application.) -/
theorem Tryz.slices_Sort_string_none (p : Option Addr) (cap : Nat) (w : World) :
    Calls Tryz.prog 73 #[.slice p 0 cap] w fun e w' => e = .returned (.tuple #[]) ∧ w' = w := AnyM.slices_Sort_string_none Tryz.laysSlM6_f73 p cap w
def Tryz.laysnb115_ren : Go.Shelf.Ren := ⟨fun | 115 => 65 | n => n, fun | 37 => 23 | 4 => 4 | 9 => 9 | 5 => 5 | n => n, fun | n => n⟩
theorem Tryz.laysnb115 : Go.Proofs.Lays.nb115 Tryz.prog Tryz.laysnb115_ren := {
  mixed := by kernel_rfl
  f115 := Tryz.func65.trans (congrArg some (by kernel_rfl))
  t4 := Tryz.underlying4
  a4 := Tryz.isAgg4
  z4 := Tryz.sizeOf4
  v4 := Tryz.zeroValue4
  t9 := Tryz.underlying9
  a9 := Tryz.isAgg9
  z9 := Tryz.sizeOf9
  v9 := Tryz.zeroValue9
  t37 := Tryz.underlying23
  a37 := Tryz.isAgg23
  z37 := Tryz.sizeOf23
  v37 := Tryz.zeroValue23
  t5 := Tryz.underlying5
  a5 := Tryz.isAgg5
  z5 := Tryz.sizeOf5
  v5 := Tryz.zeroValue5 }
/-- bytes.Equal: WHOLE. (LAID: no walk: one application.) -/
theorem Tryz.bytes_Equal_all (p1 p2 : Option Addr) (n c m d : Nat) (xs ys : List Int) (w : World) (hx : xs.length = n) (hy : ys.length = m) (h1 : Lib.BytesIn w p1 n xs) (h2 : Lib.BytesIn w p2 m ys) :
    Calls Tryz.prog 65 #[.slice p1 n c, .slice p2 m d] w fun e w' => e = .returned (.bool (Lib.bytesOf xs == Lib.bytesOf ys)) ∧ w' = w := Any.bytes_Equal_all Tryz.laysnb115 p1 p2 n c m d xs ys w hx hy h1 h2
/-- bytes.Equal: "Equal reports whether a and b are the same length and contain the same bytes. A nil argument is equivalent to an empty slice.": IT RETURNS 'the bytes of the one == the bytes of the other'; the world is as it was. THE TWO ARGUMENTS COME AS WHATEVER VALUES, each with the one fact that the walk wants of it: what 'string(..)' of it gives: for a slice whose cells you know: 'run_convert_bytes_arg' (Derived/Laws/BytesArg.lean) hands that fact; for a nil one: 'run_convert_bytes_nil' (with xs := []). (LAID: no walk: one application.) -/
theorem Tryz.bytes_Equal (v1 v2 : Value) (xs ys : List Int) (w : World) (h1 : (convert 23 9 v1).run Tryz.prog w = .ok (.string (strOfNums xs)) w) (h2 : (convert 23 9 v2).run Tryz.prog w = .ok (.string (strOfNums ys)) w) :
    Calls Tryz.prog 65 #[v1, v2] w fun e w' => e = .returned (.bool (Lib.bytesOf xs == Lib.bytesOf ys)) ∧ w' = w := Any.bytes_Equal Tryz.lays115 v1 v2 xs ys w h1 h2
end Go.Proofs
