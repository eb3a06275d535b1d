/-
  DERIVED: THE SHELF's CONTRACTS AT THIS DUMP, IN PLAIN WORDS (tools/lay-plain.mjs out of 'TryzShelf.lean', which tools/lay-shelf.mjs wrote): THE SAME DECLARATIONS UNDER THE SAME NAMES: 'import', 'namespace', 'open', 'def', 'theorem' AND NOTHING ELSE: no command of the shelf's: FOR A HAND-IN. Each laying: the table of numbers ('.._ren') and one theorem, a field a fact of the dump's own or the kernel's comparison; each contract: ONE APPLICATION.
-/
import Derived.Shelf.Strings.Builder1
import Derived.Shelf.Strings.Trim
import Derived.Shelf.Small.Utf8
import Derived.Shelf.Small.Bits
import Derived.Shelf.Small.Strs
import Derived.Shelf.Small.Wraps
import Derived.Shelf.Strconv.Itoa0
import Derived.Shelf.Strconv.Itoa1
import Derived.Shelf.LaysM
import Derived.Shelf.Strconv.Itoa2
import Derived.Shelf.Strconv.Itoa3
import Derived.Shelf.Strings.Search1
import Derived.Shelf.Strings.Prefix
import Derived.Shelf.Strings.Runes
import Derived.Shelf.Strings.AsciiSet
import Derived.Shelf.Bits.Mul64
import Derived.Shelf.Unicode.DecodeSlow
import Derived.Ground.SlgmProg
import Derived.Shelf.SortM.Plain
import Derived.Shelf.SortM.SortNone
import Derived.Test.YtcbnbhlgikjbeaaGreatDoorProg
namespace Go.Proofs
open Go.Shelf
def Tryz.lays170_ren : Go.Shelf.Ren := ⟨fun | 170 => 127 | n => n, fun | 70 => 175 | 3 => 3 | 0 => 0 | 72 => 177 | 37 => 38 | 5 => 5 | n => n, fun | n => n⟩
theorem Tryz.lays170 : Go.Proofs.Lays.n170 Tryz.prog Tryz.lays170_ren := {
  mixed := by kernel_rfl
  f170 := Tryz.func127.trans (congrArg some (by kernel_rfl))
  t0 := Tryz.underlying0
  a0 := Tryz.isAgg0
  z0 := Tryz.sizeOf0
  v0 := Tryz.zeroValue0
  t3 := Tryz.underlying3
  a3 := Tryz.isAgg3
  z3 := Tryz.sizeOf3
  v3 := Tryz.zeroValue3
  t37 := Tryz.underlying38
  a37 := Tryz.isAgg38
  z37 := Tryz.sizeOf38
  v37 := Tryz.zeroValue38
  t70 := Tryz.underlying175
  a70 := Tryz.isAgg175
  z70 := Tryz.sizeOf175
  v70 := Tryz.zeroValue175
  t72 := Tryz.underlying177
  a72 := Tryz.isAgg177
  z72 := Tryz.sizeOf177
  v72 := Tryz.zeroValue177 }
open Go.RowKit in
/-- (*strings.Builder).Len: "Len returns the number of accumulated bytes; b.Len() == len(b.String()).": the world is as it was. (LAID: no walk: one application.) -/
theorem Tryz.Builder_Len (B b : Nat) (bs : List Value) (w : World) (h : Lib.IsBuilder 177 5 B b bs w) :
    Calls Tryz.prog 127 #[.pointer (some ⟨b, 0, none⟩)] w fun e w' => e = .returned (.int .i64 bs.length) ∧ w' = w := Any.Builder_Len Tryz.lays170 B b bs w h
def Tryz.lays169_ren : Go.Shelf.Ren := ⟨fun | 169 => 128 | n => n, fun | 70 => 175 | 9 => 9 | 0 => 0 | 72 => 177 | 37 => 38 | 127 => 199 | 3 => 3 | 5 => 5 | n => n, fun | n => n⟩
theorem Tryz.lays169 : Go.Proofs.Lays.n169 Tryz.prog Tryz.lays169_ren := {
  mixed := by kernel_rfl
  f169 := Tryz.func128.trans (congrArg some (by kernel_rfl))
  t0 := Tryz.underlying0
  a0 := Tryz.isAgg0
  z0 := Tryz.sizeOf0
  v0 := Tryz.zeroValue0
  t3 := Tryz.underlying3
  a3 := Tryz.isAgg3
  z3 := Tryz.sizeOf3
  v3 := Tryz.zeroValue3
  t9 := Tryz.underlying9
  a9 := Tryz.isAgg9
  z9 := Tryz.sizeOf9
  v9 := Tryz.zeroValue9
  t37 := Tryz.underlying38
  a37 := Tryz.isAgg38
  z37 := Tryz.sizeOf38
  v37 := Tryz.zeroValue38
  t70 := Tryz.underlying175
  a70 := Tryz.isAgg175
  z70 := Tryz.sizeOf175
  v70 := Tryz.zeroValue175
  t72 := Tryz.underlying177
  a72 := Tryz.isAgg177
  z72 := Tryz.sizeOf177
  v72 := Tryz.zeroValue177
  t127 := Tryz.underlying199
  a127 := Tryz.isAgg199
  z127 := Tryz.sizeOf199
  v127 := Tryz.zeroValue199 }
theorem Tryz.Builder_Extra_169 : Builder.Extra Tryz.prog Tryz.lays169_ren := {
  sizeBuilder := by kernel_rfl
  liesBuilder := by kernel_rfl
  t5 := Tryz.underlying5
  a5 := Tryz.isAgg5
  z5 := Tryz.sizeOf5
  v5 := Tryz.zeroValue5
  infoByte := by kernel_rfl
  cellsByte := by kernel_rfl
  sizeByte := by kernel_rfl
  neB5 := by decide }
open Go.RowKit in
/-- (*strings.Builder).String: "String returns the accumulated string.": OF A BUILDER THAT HOLDS AT LEAST ONE BYTE. ✋ THE MODEL FREEZES THOSE BYTES IN THE BUFFER (unsafe.String): a later write INTO them ends the model's run without an answer; a later append BEHIND them goes on. The statement's order of evaluation is drawn: one draw. (LAID: no walk: one application.) -/
theorem Tryz.Builder_String (B b : Nat) (l : List UInt8) (w : World) (h : Lib.IsBuilder 177 5 B b (Lib.byteCells l) w) (h0 : l ≠ []) :
    Calls Tryz.prog 128 #[.pointer (some ⟨b, 0, none⟩)] w fun e w' => e = .returned (.string ⟨l.toArray⟩) ∧ Below B w w' := Any.Builder_String Tryz.lays169 Tryz.Builder_Extra_169 B b l w h h0
open Go.RowKit in
/-- (*strings.Builder).String OF A BUILDER THAT HOLDS NO BYTE: the empty string. (Its buffer is nil, or a row of which it has taken nothing yet; where that row has NO capacity the model lays one new block for unsafe.SliceData's 'some address'.) One draw. (LAID: no walk: one application.) -/
theorem Tryz.Builder_String_empty (B b : Nat) (w : World) (h : Lib.IsBuilder 177 5 B b [] w) (hBw : B ≤ w.heap.size) :
    Calls Tryz.prog 128 #[.pointer (some ⟨b, 0, none⟩)] w fun e w' => e = .returned (.string ⟨#[]⟩) ∧ Below B w w' := Any.Builder_String_empty Tryz.lays169 Tryz.Builder_Extra_169 B b w h hBw
open Go.RowKit in
/-- (*strings.Builder).String: "String returns the accumulated string.": WHATEVER THE BUILDER HOLDS. (LAID: no walk: one application.) -/
theorem Tryz.Builder_String_any (B b : Nat) (l : List UInt8) (w : World) (h : Lib.IsBuilder 177 5 B b (Lib.byteCells l) w) (hBw : B ≤ w.heap.size) :
    Calls Tryz.prog 128 #[.pointer (some ⟨b, 0, none⟩)] w fun e w' => e = .returned (.string ⟨l.toArray⟩) ∧ Below B w w' := Any.Builder_String_any Tryz.lays169 Tryz.Builder_Extra_169 B b l w h hBw
def Tryz.lays231_ren : Go.Shelf.Ren := ⟨fun | 231 => 106 | n => n, fun | 9 => 9 | 5 => 5 | 3 => 3 | 4 => 4 | n => n, fun | n => n⟩
theorem Tryz.lays231 : Go.Proofs.Lays.n231 Tryz.prog Tryz.lays231_ren := {
  mixed := by kernel_rfl
  f231 := Tryz.func106.trans (congrArg some (by kernel_rfl))
  t3 := Tryz.underlying3
  a3 := Tryz.isAgg3
  z3 := Tryz.sizeOf3
  v3 := Tryz.zeroValue3
  t4 := Tryz.underlying4
  a4 := Tryz.isAgg4
  z4 := Tryz.sizeOf4
  v4 := Tryz.zeroValue4
  t5 := Tryz.underlying5
  a5 := Tryz.isAgg5
  z5 := Tryz.sizeOf5
  v5 := Tryz.zeroValue5
  t9 := Tryz.underlying9
  a9 := Tryz.isAgg9
  z9 := Tryz.sizeOf9
  v9 := Tryz.zeroValue9 }
open Go.RowKit in
/-- strings.trimLeftByte (no doc; what TrimLeft and Trim call at a cutset of one ASCII byte): the leading bytes that are c are cut off. The world is as it was. (LAID: no walk: one application.) -/
theorem Tryz.strings_trimLeftByte (s : ByteArray) (c : UInt8) (w : World) :
    Calls Tryz.prog 106 #[.string s, .int .u8 c.toNat] w fun e w' => e = .returned (.string ⟨(Lib.trimLeftB s.data.toList c).toArray⟩) ∧ w' = w := Any.strings_trimLeftByte Tryz.lays231 s c w
def Tryz.lays232_ren : Go.Shelf.Ren := ⟨fun | 232 => 107 | n => n, fun | 9 => 9 | 5 => 5 | 3 => 3 | 4 => 4 | n => n, fun | n => n⟩
theorem Tryz.lays232 : Go.Proofs.Lays.n232 Tryz.prog Tryz.lays232_ren := {
  mixed := by kernel_rfl
  f232 := Tryz.func107.trans (congrArg some (by kernel_rfl))
  t3 := Tryz.underlying3
  a3 := Tryz.isAgg3
  z3 := Tryz.sizeOf3
  v3 := Tryz.zeroValue3
  t4 := Tryz.underlying4
  a4 := Tryz.isAgg4
  z4 := Tryz.sizeOf4
  v4 := Tryz.zeroValue4
  t5 := Tryz.underlying5
  a5 := Tryz.isAgg5
  z5 := Tryz.sizeOf5
  v5 := Tryz.zeroValue5
  t9 := Tryz.underlying9
  a9 := Tryz.isAgg9
  z9 := Tryz.sizeOf9
  v9 := Tryz.zeroValue9 }
open Go.RowKit in
/-- strings.trimRightByte (no doc; what TrimRight and Trim call at a cutset of one ASCII byte): the trailing bytes that are c are cut off. The world is as it was. ('hs': a string's length is a number that an int holds.) (LAID: no walk: one application.) -/
theorem Tryz.strings_trimRightByte (s : ByteArray) (c : UInt8) (w : World) (hs : s.size ≤ 9223372036854775807) :
    Calls Tryz.prog 107 #[.string s, .int .u8 c.toNat] w fun e w' => e = .returned (.string ⟨(Lib.trimRightB s.data.toList c).toArray⟩) ∧ w' = w := Any.strings_trimRightByte Tryz.lays232 s c w hs
def Tryz.lays160_ren : Go.Shelf.Ren := ⟨fun | 160 => 69 | 232 => 107 | 231 => 106 | 227 => 108 | 234 => 110 | 233 => 109 | 236 => 112 | 235 => 111 | 228 => 133 | 271 => 136 | 151 => 135 | 197 => 134 | 120 => 159 | 152 => 158 | 260 => 157 | 137 => 172 | 119 => 173 | 224 => 174 | 225 => 175 | 217 => 181 | 266 => 184 | n => n, fun | 9 => 9 | 4 => 4 | 3 => 3 | 5 => 5 | 117 => 160 | 116 => 159 | 0 => 0 | 124 => 163 | 21 => 21 | 105 => 188 | 46 => 150 | 119 => 223 | 139 => 226 | 138 => 225 | n => n, fun | 3 => 0 | 4 => 1 | n => n⟩
theorem Tryz.lays160 : Go.Proofs.Lays.n160 Tryz.prog Tryz.lays160_ren := {
  mixed := by kernel_rfl
  f119 := Tryz.func173.trans (congrArg some (by kernel_rfl))
  f120 := Tryz.func159.trans (congrArg some (by kernel_rfl))
  f137 := Tryz.func172.trans (congrArg some (by kernel_rfl))
  f151 := Tryz.func135.trans (congrArg some (by kernel_rfl))
  f152 := Tryz.func158.trans (congrArg some (by kernel_rfl))
  f160 := Tryz.func69.trans (congrArg some (by kernel_rfl))
  f197 := Tryz.func134.trans (congrArg some (by kernel_rfl))
  f217 := Tryz.func181.trans (congrArg some (by kernel_rfl))
  f224 := Tryz.func174.trans (congrArg some (by kernel_rfl))
  f225 := Tryz.func175.trans (congrArg some (by kernel_rfl))
  f227 := Tryz.func108.trans (congrArg some (by kernel_rfl))
  f228 := Tryz.func133.trans (congrArg some (by kernel_rfl))
  f231 := Tryz.func106.trans (congrArg some (by kernel_rfl))
  f232 := Tryz.func107.trans (congrArg some (by kernel_rfl))
  f233 := Tryz.func109.trans (congrArg some (by kernel_rfl))
  f234 := Tryz.func110.trans (congrArg some (by kernel_rfl))
  f235 := Tryz.func111.trans (congrArg some (by kernel_rfl))
  f236 := Tryz.func112.trans (congrArg some (by kernel_rfl))
  f260 := Tryz.func157.trans (congrArg some (by kernel_rfl))
  f266 := Tryz.func184.trans (congrArg some (by kernel_rfl))
  f271 := Tryz.func136.trans (congrArg some (by kernel_rfl))
  t0 := Tryz.underlying0
  a0 := Tryz.isAgg0
  z0 := Tryz.sizeOf0
  v0 := Tryz.zeroValue0
  t3 := Tryz.underlying3
  a3 := Tryz.isAgg3
  z3 := Tryz.sizeOf3
  v3 := Tryz.zeroValue3
  t4 := Tryz.underlying4
  a4 := Tryz.isAgg4
  z4 := Tryz.sizeOf4
  v4 := Tryz.zeroValue4
  t5 := Tryz.underlying5
  a5 := Tryz.isAgg5
  z5 := Tryz.sizeOf5
  v5 := Tryz.zeroValue5
  t9 := Tryz.underlying9
  a9 := Tryz.isAgg9
  z9 := Tryz.sizeOf9
  v9 := Tryz.zeroValue9
  t21 := Tryz.underlying21
  a21 := Tryz.isAgg21
  z21 := Tryz.sizeOf21
  v21 := Tryz.zeroValue21
  t46 := Tryz.underlying150
  a46 := Tryz.isAgg150
  z46 := Tryz.sizeOf150
  v46 := Tryz.zeroValue150
  t105 := Tryz.underlying188
  a105 := Tryz.isAgg188
  z105 := Tryz.sizeOf188
  v105 := Tryz.zeroValue188
  t116 := Tryz.underlying159
  a116 := Tryz.isAgg159
  z116 := Tryz.sizeOf159
  t117 := Tryz.underlying160
  a117 := Tryz.isAgg160
  z117 := Tryz.sizeOf160
  v117 := Tryz.zeroValue160
  t119 := Tryz.underlying223
  a119 := Tryz.isAgg223
  z119 := Tryz.sizeOf223
  t124 := Tryz.underlying163
  a124 := Tryz.isAgg163
  z124 := Tryz.sizeOf163
  v124 := Tryz.zeroValue163
  t138 := Tryz.underlying225
  a138 := Tryz.isAgg225
  z138 := Tryz.sizeOf225
  v138 := Tryz.zeroValue225
  t139 := Tryz.underlying226
  a139 := Tryz.isAgg226
  z139 := Tryz.sizeOf226
  v139 := Tryz.zeroValue226
  g3 := by kernel_rfl
  g4 := by kernel_rfl }
open Go.RowKit in
/-- strings.Trim: "Trim returns a slice of the string s with all leading and trailing Unicode code points contained in cutset removed.": AT A cutset OF ONE ASCII BYTE. THE WORLD BEHIND IT: as it was, or (where s is not empty) with ONE DRAW MORE off the tape: the statement 'return trimLeftByte(trimRightByte(s, c), c)' draws its order of evaluation. (LAID: no walk: one application.) -/
theorem Tryz.strings_Trim_one (s : ByteArray) (c : UInt8) (hc : c.toNat < 128) (w : World) (hs : s.size ≤ 9223372036854775807) :
    Calls Tryz.prog 69 #[.string s, .string ⟨#[c]⟩] w fun e w' => e = .returned (.string ⟨(Lib.trimB s.data.toList c).toArray⟩) ∧ (w' = w ∨ w' = w.drew) := Any.strings_Trim_one Tryz.lays160 s c hc w hs
def Tryz.lays119_ren : Go.Shelf.Ren := ⟨fun | 119 => 173 | n => n, fun | 21 => 21 | 4 => 4 | n => n, fun | n => n⟩
theorem Tryz.lays119 : Go.Proofs.Lays.n119 Tryz.prog Tryz.lays119_ren := {
  mixed := by kernel_rfl
  f119 := Tryz.func173.trans (congrArg some (by kernel_rfl))
  t4 := Tryz.underlying4
  a4 := Tryz.isAgg4
  z4 := Tryz.sizeOf4
  v4 := Tryz.zeroValue4
  t21 := Tryz.underlying21
  a21 := Tryz.isAgg21
  z21 := Tryz.sizeOf21
  v21 := Tryz.zeroValue21 }
/-- utf8.ValidRune: "ValidRune reports whether r can be legally encoded as UTF-8. Code points that are out of range or a surrogate half are illegal.": IT RETURNS 'Lib.validRune r'; the world is as it was. (LAID: no walk: one application.) -/
theorem Tryz.utf8_ValidRune (r : Int) (w : World) :
    Calls Tryz.prog 173 #[.int .i32 r] w fun e w' => e = .returned (.bool (Lib.validRune r)) ∧ w' = w := Any.utf8_ValidRune Tryz.lays119 r w
def Tryz.lays120_ren : Go.Shelf.Ren := ⟨fun | 120 => 159 | n => n, fun | 5 => 5 | 4 => 4 | n => n, fun | n => n⟩
theorem Tryz.lays120 : Go.Proofs.Lays.n120 Tryz.prog Tryz.lays120_ren := {
  mixed := by kernel_rfl
  f120 := Tryz.func159.trans (congrArg some (by kernel_rfl))
  t4 := Tryz.underlying4
  a4 := Tryz.isAgg4
  z4 := Tryz.sizeOf4
  v4 := Tryz.zeroValue4
  t5 := Tryz.underlying5
  a5 := Tryz.isAgg5
  z5 := Tryz.sizeOf5
  v5 := Tryz.zeroValue5 }
/-- utf8.RuneStart: "RuneStart reports whether the byte could be the first byte of an encoded, possibly invalid rune. Second and subsequent bytes always have the top two bits set to 10.": IT RETURNS 'Lib.runeStart b'; the world is as it was. ('h0', 'h1': b is a byte: a caller has it of every byte that it was handed.) (LAID: no walk: one application.) -/
theorem Tryz.utf8_RuneStart (b : Int) (w : World) (h0 : 0 ≤ b) (h1 : b < 256) :
    Calls Tryz.prog 159 #[.int .u8 b] w fun e w' => e = .returned (.bool (Lib.runeStart b)) ∧ w' = w := Any.utf8_RuneStart Tryz.lays120 b w h0 h1
def Tryz.lays128_ren : Go.Shelf.Ren := ⟨fun | 128 => 155 | n => n, fun | 51 => 165 | 3 => 3 | 4 => 4 | 46 => 150 | 5 => 5 | 9 => 9 | n => n, fun | n => n⟩
theorem Tryz.lays128 : Go.Proofs.Lays.n128 Tryz.prog Tryz.lays128_ren := {
  mixed := by kernel_rfl
  f128 := Tryz.func155.trans (congrArg some (by kernel_rfl))
  t3 := Tryz.underlying3
  a3 := Tryz.isAgg3
  z3 := Tryz.sizeOf3
  v3 := Tryz.zeroValue3
  t4 := Tryz.underlying4
  a4 := Tryz.isAgg4
  z4 := Tryz.sizeOf4
  v4 := Tryz.zeroValue4
  t5 := Tryz.underlying5
  a5 := Tryz.isAgg5
  z5 := Tryz.sizeOf5
  v5 := Tryz.zeroValue5
  t9 := Tryz.underlying9
  a9 := Tryz.isAgg9
  z9 := Tryz.sizeOf9
  v9 := Tryz.zeroValue9
  t46 := Tryz.underlying150
  a46 := Tryz.isAgg150
  z46 := Tryz.sizeOf150
  v46 := Tryz.zeroValue150
  t51 := Tryz.underlying165
  a51 := Tryz.isAgg165
  z51 := Tryz.sizeOf165
  v51 := Tryz.zeroValue165 }
/-- bits.Len32: "Len32 returns the minimum number of bits required to represent x; the result is 0 for x == 0.": IT RETURNS 'Lib.bitLen x'; the world is as it was. ('h0', 'h1': x is a uint32.) (LAID: no walk: one application.) -/
theorem Tryz.bits_Len32 (x : Int) (w : World) (h0 : 0 ≤ x) (h1 : x ≤ 4294967295) :
    Calls Tryz.prog 155 #[.int .u32 x] w fun e w' => e = .returned (.int .i64 (Lib.bitLen x.toNat)) ∧ w' = w := Any.bits_Len32 Tryz.lays128 x w h0 h1
def Tryz.lays125_ren : Go.Shelf.Ren := ⟨fun | 125 => 132 | 128 => 155 | 129 => 156 | n => n, fun | 46 => 150 | 3 => 3 | 51 => 165 | 53 => 149 | 4 => 4 | 5 => 5 | 9 => 9 | n => n, fun | n => n⟩
theorem Tryz.lays125 : Go.Proofs.Lays.n125 Tryz.prog Tryz.lays125_ren := {
  mixed := by kernel_rfl
  f125 := Tryz.func132.trans (congrArg some (by kernel_rfl))
  f128 := Tryz.func155.trans (congrArg some (by kernel_rfl))
  f129 := Tryz.func156.trans (congrArg some (by kernel_rfl))
  t3 := Tryz.underlying3
  a3 := Tryz.isAgg3
  z3 := Tryz.sizeOf3
  v3 := Tryz.zeroValue3
  t4 := Tryz.underlying4
  a4 := Tryz.isAgg4
  z4 := Tryz.sizeOf4
  v4 := Tryz.zeroValue4
  t5 := Tryz.underlying5
  a5 := Tryz.isAgg5
  z5 := Tryz.sizeOf5
  v5 := Tryz.zeroValue5
  t9 := Tryz.underlying9
  a9 := Tryz.isAgg9
  z9 := Tryz.sizeOf9
  v9 := Tryz.zeroValue9
  t46 := Tryz.underlying150
  a46 := Tryz.isAgg150
  z46 := Tryz.sizeOf150
  v46 := Tryz.zeroValue150
  t51 := Tryz.underlying165
  a51 := Tryz.isAgg165
  z51 := Tryz.sizeOf165
  v51 := Tryz.zeroValue165
  t53 := Tryz.underlying149
  a53 := Tryz.isAgg149
  z53 := Tryz.sizeOf149
  v53 := Tryz.zeroValue149 }
/-- bits.Len: "Len returns the minimum number of bits required to represent x; the result is 0 for x == 0.": IT RETURNS 'Lib.bitLen x'; the world is as it was. (A uint has 64 bits in the model.) ITS CALLEE bits.Len64 IS MET BY ITS OWN CONTRACT OFF THE SHELF (lay that first). (LAID: no walk: one application.) -/
theorem Tryz.bits_Len (x : Int) (w : World) (h0 : 0 ≤ x) (h1 : x ≤ 18446744073709551615) :
    Calls Tryz.prog 132 #[.int .u64 x] w fun e w' => e = .returned (.int .i64 (Lib.bitLen x.toNat)) ∧ w' = w := Any.bits_Len Tryz.lays125 x w h0 h1
def Tryz.lays137_ren : Go.Shelf.Ren := ⟨fun | 137 => 172 | 217 => 181 | 266 => 184 | n => n, fun | 9 => 9 | 5 => 5 | 3 => 3 | n => n, fun | n => n⟩
theorem Tryz.lays137 : Go.Proofs.Lays.n137 Tryz.prog Tryz.lays137_ren := {
  mixed := by kernel_rfl
  f137 := Tryz.func172.trans (congrArg some (by kernel_rfl))
  f217 := Tryz.func181.trans (congrArg some (by kernel_rfl))
  f266 := Tryz.func184.trans (congrArg some (by kernel_rfl))
  t3 := Tryz.underlying3
  a3 := Tryz.isAgg3
  z3 := Tryz.sizeOf3
  v3 := Tryz.zeroValue3
  t5 := Tryz.underlying5
  a5 := Tryz.isAgg5
  z5 := Tryz.sizeOf5
  v5 := Tryz.zeroValue5
  t9 := Tryz.underlying9
  a9 := Tryz.isAgg9
  z9 := Tryz.sizeOf9
  v9 := Tryz.zeroValue9 }
open Go.RowKit in
/-- strings.IndexByte: "IndexByte returns the index of the first instance of c in s, or -1 if c is not present in s.": IT RETURNS 'Lib.indexByte s c'; the world is as it was. (LAID: no walk: one application.) -/
theorem Tryz.strings_IndexByte (s : ByteArray) (c : Int) (w : World) :
    Calls Tryz.prog 172 #[.string s, .int .u8 c] w fun e w' => e = .returned (.int .i64 (Lib.indexByte s.data.toList c.toNat.toUInt8)) ∧ w' = w := Any.strings_IndexByte Tryz.lays137 s c w
def Tryz.lays210_ren : Go.Shelf.Ren := ⟨fun | 210 => 118 | 206 => 139 | n => n, fun | 9 => 9 | 4 => 4 | 3 => 3 | n => n, fun | n => n⟩
theorem Tryz.lays210 : Go.Proofs.Lays.n210 Tryz.prog Tryz.lays210_ren := {
  mixed := by kernel_rfl
  f206 := Tryz.func139.trans (congrArg some (by kernel_rfl))
  f210 := Tryz.func118.trans (congrArg some (by kernel_rfl))
  t3 := Tryz.underlying3
  a3 := Tryz.isAgg3
  z3 := Tryz.sizeOf3
  v3 := Tryz.zeroValue3
  t4 := Tryz.underlying4
  a4 := Tryz.isAgg4
  z4 := Tryz.sizeOf4
  v4 := Tryz.zeroValue4
  t9 := Tryz.underlying9
  a9 := Tryz.isAgg9
  z9 := Tryz.sizeOf9
  v9 := Tryz.zeroValue9 }
open Go.RowKit in
/-- internal/stringslite.CutPrefix (what strings.CutPrefix calls). (LAID: no walk: one application.) -/
theorem Tryz.stringslite_CutPrefix (s p : ByteArray) (w : World) :
    Calls Tryz.prog 118 #[.string s, .string p] w fun e w' => e = .returned (.tuple #[.string ⟨(Lib.trimPrefix s.data.toList p.data.toList).toArray⟩, .bool (Lib.hasPrefix s.data.toList p.data.toList)]) ∧ w' = w := Any.stringslite_CutPrefix Tryz.lays210 s p w
def Tryz.lays103_ren : Go.Shelf.Ren := ⟨fun | 103 => 90 | 210 => 118 | 206 => 139 | n => n, fun | 9 => 9 | 4 => 4 | 24 => 145 | 3 => 3 | n => n, fun | n => n⟩
theorem Tryz.lays103 : Go.Proofs.Lays.n103 Tryz.prog Tryz.lays103_ren := {
  mixed := by kernel_rfl
  f103 := Tryz.func90.trans (congrArg some (by kernel_rfl))
  f206 := Tryz.func139.trans (congrArg some (by kernel_rfl))
  f210 := Tryz.func118.trans (congrArg some (by kernel_rfl))
  t3 := Tryz.underlying3
  a3 := Tryz.isAgg3
  z3 := Tryz.sizeOf3
  v3 := Tryz.zeroValue3
  t4 := Tryz.underlying4
  a4 := Tryz.isAgg4
  z4 := Tryz.sizeOf4
  v4 := Tryz.zeroValue4
  t9 := Tryz.underlying9
  a9 := Tryz.isAgg9
  z9 := Tryz.sizeOf9
  v9 := Tryz.zeroValue9
  t24 := Tryz.underlying145
  a24 := Tryz.isAgg145
  z24 := Tryz.sizeOf145
  v24 := Tryz.zeroValue145 }
open Go.RowKit in
/-- strings.CutPrefix: "CutPrefix returns s without the provided leading prefix string and reports whether it found the prefix. If s doesn't start with prefix, CutPrefix returns s, false. If prefix is the empty string, CutPrefix returns s, true.": IT RETURNS '(Lib.trimPrefix s p, Lib.hasPrefix s p)'; the world is as it was. (LAID: no walk: one application.) -/
theorem Tryz.strings_CutPrefix (s p : ByteArray) (w : World) :
    Calls Tryz.prog 90 #[.string s, .string p] w fun e w' => e = .returned (.tuple #[.string ⟨(Lib.trimPrefix s.data.toList p.data.toList).toArray⟩, .bool (Lib.hasPrefix s.data.toList p.data.toList)]) ∧ w' = w := Any.strings_CutPrefix Tryz.lays103 s p w
def Tryz.lays129_ren : Go.Shelf.Ren := ⟨fun | 129 => 156 | n => n, fun | 53 => 149 | 3 => 3 | 4 => 4 | 46 => 150 | 5 => 5 | 9 => 9 | n => n, fun | n => n⟩
theorem Tryz.lays129 : Go.Proofs.Lays.n129 Tryz.prog Tryz.lays129_ren := {
  mixed := by kernel_rfl
  f129 := Tryz.func156.trans (congrArg some (by kernel_rfl))
  t3 := Tryz.underlying3
  a3 := Tryz.isAgg3
  z3 := Tryz.sizeOf3
  v3 := Tryz.zeroValue3
  t4 := Tryz.underlying4
  a4 := Tryz.isAgg4
  z4 := Tryz.sizeOf4
  v4 := Tryz.zeroValue4
  t5 := Tryz.underlying5
  a5 := Tryz.isAgg5
  z5 := Tryz.sizeOf5
  v5 := Tryz.zeroValue5
  t9 := Tryz.underlying9
  a9 := Tryz.isAgg9
  z9 := Tryz.sizeOf9
  v9 := Tryz.zeroValue9
  t46 := Tryz.underlying150
  a46 := Tryz.isAgg150
  z46 := Tryz.sizeOf150
  v46 := Tryz.zeroValue150
  t53 := Tryz.underlying149
  a53 := Tryz.isAgg149
  z53 := Tryz.sizeOf149
  v53 := Tryz.zeroValue149 }
/-- bits.Len64: "Len64 returns the minimum number of bits required to represent x; the result is 0 for x == 0.": IT RETURNS 'Lib.bitLen x'; the world is as it was. ('h0', 'h1': x is a uint64.) (LAID: no walk: one application.) -/
theorem Tryz.bits_Len64 (x : Int) (w : World) (h0 : 0 ≤ x) (h1 : x ≤ 18446744073709551615) :
    Calls Tryz.prog 156 #[.int .u64 x] w fun e w' => e = .returned (.int .i64 (Lib.bitLen x.toNat)) ∧ w' = w := Any.bits_Len64 Tryz.lays129 x w h0 h1
def Tryz.lays317_ren : Go.Shelf.Ren := ⟨fun | 317 => 176 | n => n, fun | 3 => 3 | 46 => 150 | n => n, fun | n => n⟩
theorem Tryz.lays317 : Go.Proofs.Lays.n317 Tryz.prog Tryz.lays317_ren := {
  mixed := by kernel_rfl
  f317 := Tryz.func176.trans (congrArg some (by kernel_rfl))
  t3 := Tryz.underlying3
  a3 := Tryz.isAgg3
  z3 := Tryz.sizeOf3
  v3 := Tryz.zeroValue3
  t46 := Tryz.underlying150
  a46 := Tryz.isAgg150
  z46 := Tryz.sizeOf150
  v46 := Tryz.zeroValue150 }
open Go.Lib in
/-- internal/strconv.log10Pow2: "log10Pow2(x) returns ⌊log₁₀ 2**x⌋ = ⌊x * log₁₀ 2⌋.": '(x * 78913) >> 18', at an x up to 64 (a length in bits). The world is as it was. (LAID: no walk: one application.) -/
theorem Tryz.internal_strconv_log10Pow2 (x : Nat) (h : x ≤ 64) (w : World) :
    Calls Tryz.prog 176 #[.int .i64 x] w fun e w' => e = .returned (.int .i64 (Lib.l10 x)) ∧ w' = w := Any.internal_strconv_log10Pow2 Tryz.lays317 x h w
def Tryz.lays318_ren : Go.Shelf.Ren := ⟨fun | 318 => 177 | n => n, fun | 3 => 3 | 4 => 4 | n => n, fun | n => n⟩
theorem Tryz.lays318 : Go.Proofs.Lays.n318 Tryz.prog Tryz.lays318_ren := {
  mixed := by kernel_rfl
  f318 := Tryz.func177.trans (congrArg some (by kernel_rfl))
  t3 := Tryz.underlying3
  a3 := Tryz.isAgg3
  z3 := Tryz.sizeOf3
  v3 := Tryz.zeroValue3
  t4 := Tryz.underlying4
  a4 := Tryz.isAgg4
  z4 := Tryz.sizeOf4
  v4 := Tryz.zeroValue4 }
open Go.Lib in
/-- internal/strconv.bool2: "bool2 converts b to an integer: 1 for true, 0 for false." The world is as it was. (LAID: no walk: one application.) -/
theorem Tryz.internal_strconv_bool2_int (b : Bool) (w : World) :
    Calls Tryz.prog 177 #[.bool b] w fun e w' => e = .returned (.int .i64 (if b then 1 else 0)) ∧ w' = w := Any.internal_strconv_bool2_int Tryz.lays318 b w
def Tryz.lays283_ren : Go.Shelf.Ren := ⟨fun | 283 => 160 | n => n, fun | 3 => 3 | 9 => 9 | 4 => 4 | n => n, fun | n => n⟩
theorem Tryz.lays283 : Go.Proofs.Lays.n283 Tryz.prog Tryz.lays283_ren := {
  mixed := by kernel_rfl
  f283 := Tryz.func160.trans (congrArg some (by kernel_rfl))
  t3 := Tryz.underlying3
  a3 := Tryz.isAgg3
  z3 := Tryz.sizeOf3
  v3 := Tryz.zeroValue3
  t4 := Tryz.underlying4
  a4 := Tryz.isAgg4
  z4 := Tryz.sizeOf4
  v4 := Tryz.zeroValue4
  t9 := Tryz.underlying9
  a9 := Tryz.isAgg9
  z9 := Tryz.sizeOf9
  v9 := Tryz.zeroValue9 }
open Go.Lib in
/-- internal/strconv.small: "small returns the string for an i with 0 <= i < nSmalls.": i's decimal numeral. The world is as it was. (LAID: no walk: one application.) -/
theorem Tryz.internal_strconv_small (i : Nat) (h : i < 100) (w : World) :
    Calls Tryz.prog 160 #[.int .i64 i] w fun e w' => e = .returned (.string ⟨(Lib.decDigits i).toArray⟩) ∧ w' = w := Any.internal_strconv_small Tryz.lays283 i h w
def Tryz.laysM284_ren : Go.Shelf.Ren := ⟨fun | 284 => 161 | 129 => 156 | 317 => 176 | 318 => 177 | n => n, fun | 53 => 149 | 3 => 3 | 212 => 231 | 0 => 0 | 4 => 4 | 46 => 150 | 5 => 5 | 9 => 9 | n => n, fun | 17 => 2 | n => n⟩
theorem Tryz.laysM284 : Go.Proofs.LaysM.n284 Tryz.prog Tryz.laysM284_ren := {
  mixed := by kernel_rfl
  f129 := Tryz.func156.trans (congrArg some (by kernel_rfl))
  f284 := Tryz.func161.trans (congrArg some (by kernel_rfl))
  f317 := Tryz.func176.trans (congrArg some (by kernel_rfl))
  f318 := Tryz.func177.trans (congrArg some (by kernel_rfl))
  t0 := Tryz.underlying0
  a0 := Tryz.isAgg0
  z0 := Tryz.sizeOf0
  v0 := Tryz.zeroValue0
  t3 := Tryz.underlying3
  a3 := Tryz.isAgg3
  z3 := Tryz.sizeOf3
  v3 := Tryz.zeroValue3
  t4 := Tryz.underlying4
  a4 := Tryz.isAgg4
  z4 := Tryz.sizeOf4
  v4 := Tryz.zeroValue4
  t5 := Tryz.underlying5
  a5 := Tryz.isAgg5
  z5 := Tryz.sizeOf5
  v5 := Tryz.zeroValue5
  t9 := Tryz.underlying9
  a9 := Tryz.isAgg9
  z9 := Tryz.sizeOf9
  v9 := Tryz.zeroValue9
  t46 := Tryz.underlying150
  a46 := Tryz.isAgg150
  z46 := Tryz.sizeOf150
  v46 := Tryz.zeroValue150
  t53 := Tryz.underlying149
  a53 := Tryz.isAgg149
  z53 := Tryz.sizeOf149
  v53 := Tryz.zeroValue149
  t212 := Tryz.underlying231
  a212 := Tryz.isAgg231
  z212 := Tryz.sizeOf231
  v212 := Tryz.zeroValue231
  g17 := by kernel_rfl
  i0 := by kernel_rfl
  i3 := by kernel_rfl
  i4 := by kernel_rfl
  i5 := by kernel_rfl
  i9 := by kernel_rfl
  i46 := by kernel_rfl
  i53 := by kernel_rfl
  i212 := by kernel_rfl
  m17 := by kernel_rfl }
open Go.Lib in
/-- internal/strconv.numDigits, at a d that is not 0: THE NUMBER OF d's DECIMAL DIGITS. The world is as it was. (LAID: no walk: one application.) -/
theorem Tryz.internal_strconv_numDigits (u : Nat) (h1 : 1 ≤ u) (h2 : u < 18446744073709551616) (w : World) (htab : Lib.TabIs Tryz.prog w "internal/strconv.uint64pow10" .u64 Lib.pow10Tab) :
    Calls Tryz.prog 161 #[.int .u64 u] w fun e w' => e = .returned (.int .i64 (Lib.nDigits u)) ∧ w' = w := Any.internal_strconv_numDigits Tryz.laysM284 u h1 h2 w htab
def Tryz.lays285_ren : Go.Shelf.Ren := ⟨fun | 285 => 162 | n => n, fun | 37 => 38 | 53 => 149 | 3 => 3 | 4 => 4 | 51 => 165 | 9 => 9 | 5 => 5 | 0 => 0 | n => n, fun | n => n⟩
theorem Tryz.lays285 : Go.Proofs.Lays.n285 Tryz.prog Tryz.lays285_ren := {
  mixed := by kernel_rfl
  f285 := Tryz.func162.trans (congrArg some (by kernel_rfl))
  t0 := Tryz.underlying0
  a0 := Tryz.isAgg0
  z0 := Tryz.sizeOf0
  v0 := Tryz.zeroValue0
  t3 := Tryz.underlying3
  a3 := Tryz.isAgg3
  z3 := Tryz.sizeOf3
  v3 := Tryz.zeroValue3
  t4 := Tryz.underlying4
  a4 := Tryz.isAgg4
  z4 := Tryz.sizeOf4
  v4 := Tryz.zeroValue4
  t5 := Tryz.underlying5
  a5 := Tryz.isAgg5
  z5 := Tryz.sizeOf5
  v5 := Tryz.zeroValue5
  t9 := Tryz.underlying9
  a9 := Tryz.isAgg9
  z9 := Tryz.sizeOf9
  v9 := Tryz.zeroValue9
  t37 := Tryz.underlying38
  a37 := Tryz.isAgg38
  z37 := Tryz.sizeOf38
  v37 := Tryz.zeroValue38
  t51 := Tryz.underlying165
  a51 := Tryz.isAgg165
  z51 := Tryz.sizeOf165
  v51 := Tryz.zeroValue165
  t53 := Tryz.underlying149
  a53 := Tryz.isAgg149
  z53 := Tryz.sizeOf149
  v53 := Tryz.zeroValue149 }
open Go.RowKit Go.Sort Go.Lib in
/-- internal/strconv.formatBase10: "formatBase10 formats the decimal representation of u into a. The caller is responsible for ensuring that a is big enough to hold u. If a is too big, leading zeros will be filled in as needed.": THE ROW HOLDS u's DIGITS ('FmtInv .. 0 ..': every place t holds 'dg u (len - 1 - t)'); all else is as it was but for the count of draws. (LAID: no walk: one application.) -/
theorem Tryz.internal_strconv_formatBase10 (blk off cap : Nat) (u : Nat) (d : Array UInt8) (w : World) (hH : Holds (fun (b : UInt8) => Value.int .u8 (b.toNat : Int)) w blk off d) (hu : u < 10 ^ d.size) (hu64 : u < 18446744073709551616) (hsz : d.size < 4611686018427387904) :
    Calls Tryz.prog 162 #[.slice (some ⟨blk, off, none⟩) d.size cap, .int .u64 u] w fun e w' =>
      e = .returned (.tuple #[]) ∧ ∃ (n v' : Nat) (dk : Array UInt8), w' = (putRow (fun (b : UInt8) => Value.int .u8 (b.toNat : Int)) w blk off dk).drewN n ∧ FmtInv d.size u 0 v' dk := Any.internal_strconv_formatBase10 Tryz.lays285 blk off cap u d w hH hu hu64 hsz
def Tryz.laysM246_ren : Go.Shelf.Ren := ⟨fun | 246 => 141 | 283 => 160 | 284 => 161 | 285 => 162 | 286 => 163 | 129 => 156 | 317 => 176 | 318 => 177 | 319 => 178 | 320 => 179 | 337 => 182 | 338 => 183 | n => n, fun | 2 => 2 | 3 => 3 | 9 => 9 | 4 => 4 | 171 => 210 | 0 => 0 | 53 => 149 | 37 => 38 | 5 => 5 | 173 => 212 | 212 => 231 | 51 => 165 | 20 => 20 | 213 => 232 | 46 => 150 | 232 => 236 | 233 => 237 | n => n, fun | 17 => 2 | 18 => 4 | 19 => 5 | n => n⟩
theorem Tryz.laysM246 : Go.Proofs.LaysM.n246 Tryz.prog Tryz.laysM246_ren := {
  mixed := by kernel_rfl
  f129 := Tryz.func156.trans (congrArg some (by kernel_rfl))
  f246 := Tryz.func141.trans (congrArg some (by kernel_rfl))
  f283 := Tryz.func160.trans (congrArg some (by kernel_rfl))
  f284 := Tryz.func161.trans (congrArg some (by kernel_rfl))
  f285 := Tryz.func162.trans (congrArg some (by kernel_rfl))
  f286 := Tryz.func163.trans (congrArg some (by kernel_rfl))
  f317 := Tryz.func176.trans (congrArg some (by kernel_rfl))
  f318 := Tryz.func177.trans (congrArg some (by kernel_rfl))
  f319 := Tryz.func178.trans (congrArg some (by kernel_rfl))
  f320 := Tryz.func179.trans (congrArg some (by kernel_rfl))
  f337 := Tryz.func182.trans (congrArg some (by kernel_rfl))
  f338 := Tryz.func183.trans (congrArg some (by kernel_rfl))
  t0 := Tryz.underlying0
  a0 := Tryz.isAgg0
  z0 := Tryz.sizeOf0
  v0 := Tryz.zeroValue0
  t2 := Tryz.underlying2
  a2 := Tryz.isAgg2
  z2 := Tryz.sizeOf2
  v2 := Tryz.zeroValue2
  t3 := Tryz.underlying3
  a3 := Tryz.isAgg3
  z3 := Tryz.sizeOf3
  v3 := Tryz.zeroValue3
  t4 := Tryz.underlying4
  a4 := Tryz.isAgg4
  z4 := Tryz.sizeOf4
  v4 := Tryz.zeroValue4
  t5 := Tryz.underlying5
  a5 := Tryz.isAgg5
  z5 := Tryz.sizeOf5
  v5 := Tryz.zeroValue5
  t9 := Tryz.underlying9
  a9 := Tryz.isAgg9
  z9 := Tryz.sizeOf9
  v9 := Tryz.zeroValue9
  t20 := Tryz.underlying20
  a20 := Tryz.isAgg20
  z20 := Tryz.sizeOf20
  v20 := Tryz.zeroValue20
  t37 := Tryz.underlying38
  a37 := Tryz.isAgg38
  z37 := Tryz.sizeOf38
  v37 := Tryz.zeroValue38
  t46 := Tryz.underlying150
  a46 := Tryz.isAgg150
  z46 := Tryz.sizeOf150
  v46 := Tryz.zeroValue150
  t51 := Tryz.underlying165
  a51 := Tryz.isAgg165
  z51 := Tryz.sizeOf165
  v51 := Tryz.zeroValue165
  t53 := Tryz.underlying149
  a53 := Tryz.isAgg149
  z53 := Tryz.sizeOf149
  v53 := Tryz.zeroValue149
  t171 := Tryz.underlying210
  a171 := Tryz.isAgg210
  z171 := Tryz.sizeOf210
  v171 := Tryz.zeroValue210
  t173 := Tryz.underlying212
  a173 := Tryz.isAgg212
  z173 := Tryz.sizeOf212
  v173 := Tryz.zeroValue212
  t212 := Tryz.underlying231
  a212 := Tryz.isAgg231
  z212 := Tryz.sizeOf231
  v212 := Tryz.zeroValue231
  t213 := Tryz.underlying232
  a213 := Tryz.isAgg232
  z213 := Tryz.sizeOf232
  t232 := Tryz.underlying236
  a232 := Tryz.isAgg236
  z232 := Tryz.sizeOf236
  v232 := Tryz.zeroValue236
  t233 := Tryz.underlying237
  a233 := Tryz.isAgg237
  z233 := Tryz.sizeOf237
  v233 := Tryz.zeroValue237
  g17 := by kernel_rfl
  g18 := by kernel_rfl
  g19 := by kernel_rfl
  i0 := by kernel_rfl
  i2 := by kernel_rfl
  i3 := by kernel_rfl
  i4 := by kernel_rfl
  i5 := by kernel_rfl
  i9 := by kernel_rfl
  i20 := by kernel_rfl
  i37 := by kernel_rfl
  i46 := by kernel_rfl
  i51 := by kernel_rfl
  i53 := by kernel_rfl
  i171 := by kernel_rfl
  i173 := by kernel_rfl
  i212 := by kernel_rfl
  i232 := by kernel_rfl
  i233 := by kernel_rfl
  m17 := by kernel_rfl
  m18 := by kernel_rfl
  m19 := by kernel_rfl }
open Go.RowKit Go.Sort Go.Lib in
/-- internal/strconv.FormatInt: "FormatInt returns the string representation of i in the given base": AT BASE 10: i's decimal numeral, for every int64. The world behind the call: the world before it, new blocks behind the heap, draws. (LAID: no walk: one application.) -/
theorem Tryz.internal_strconv_FormatInt_10 (n : Int) (h0 : -9223372036854775808 ≤ n) (h1 : n ≤ 9223372036854775807) (w : World) (htab : Lib.TabIs Tryz.prog w "internal/strconv.uint64pow10" .u64 Lib.pow10Tab) :
    Calls Tryz.prog 141 #[.int .i64 n, .int .i64 10] w fun e w' => e = .returned (.string ⟨(Lib.itoa n).toArray⟩) ∧ ∃ k os, w' = grow (w.drewN k) os := Any.internal_strconv_FormatInt_10 Tryz.laysM246 n h0 h1 w htab
def Tryz.lays246_ren : Go.Shelf.Ren := ⟨fun | 246 => 141 | 283 => 160 | 284 => 161 | 285 => 162 | 286 => 163 | 129 => 156 | 317 => 176 | 318 => 177 | 319 => 178 | 320 => 179 | 337 => 182 | 338 => 183 | n => n, fun | 2 => 2 | 3 => 3 | 9 => 9 | 4 => 4 | 171 => 210 | 0 => 0 | 53 => 149 | 37 => 38 | 5 => 5 | 173 => 212 | 212 => 231 | 51 => 165 | 20 => 20 | 213 => 232 | 46 => 150 | 232 => 236 | 233 => 237 | n => n, fun | 17 => 2 | 18 => 4 | 19 => 5 | n => n⟩
theorem Tryz.lays246 : Go.Proofs.Lays.n246 Tryz.prog Tryz.lays246_ren := {
  mixed := by kernel_rfl
  f129 := Tryz.func156.trans (congrArg some (by kernel_rfl))
  f246 := Tryz.func141.trans (congrArg some (by kernel_rfl))
  f283 := Tryz.func160.trans (congrArg some (by kernel_rfl))
  f284 := Tryz.func161.trans (congrArg some (by kernel_rfl))
  f285 := Tryz.func162.trans (congrArg some (by kernel_rfl))
  f286 := Tryz.func163.trans (congrArg some (by kernel_rfl))
  f317 := Tryz.func176.trans (congrArg some (by kernel_rfl))
  f318 := Tryz.func177.trans (congrArg some (by kernel_rfl))
  f319 := Tryz.func178.trans (congrArg some (by kernel_rfl))
  f320 := Tryz.func179.trans (congrArg some (by kernel_rfl))
  f337 := Tryz.func182.trans (congrArg some (by kernel_rfl))
  f338 := Tryz.func183.trans (congrArg some (by kernel_rfl))
  t0 := Tryz.underlying0
  a0 := Tryz.isAgg0
  z0 := Tryz.sizeOf0
  v0 := Tryz.zeroValue0
  t2 := Tryz.underlying2
  a2 := Tryz.isAgg2
  z2 := Tryz.sizeOf2
  v2 := Tryz.zeroValue2
  t3 := Tryz.underlying3
  a3 := Tryz.isAgg3
  z3 := Tryz.sizeOf3
  v3 := Tryz.zeroValue3
  t4 := Tryz.underlying4
  a4 := Tryz.isAgg4
  z4 := Tryz.sizeOf4
  v4 := Tryz.zeroValue4
  t5 := Tryz.underlying5
  a5 := Tryz.isAgg5
  z5 := Tryz.sizeOf5
  v5 := Tryz.zeroValue5
  t9 := Tryz.underlying9
  a9 := Tryz.isAgg9
  z9 := Tryz.sizeOf9
  v9 := Tryz.zeroValue9
  t20 := Tryz.underlying20
  a20 := Tryz.isAgg20
  z20 := Tryz.sizeOf20
  v20 := Tryz.zeroValue20
  t37 := Tryz.underlying38
  a37 := Tryz.isAgg38
  z37 := Tryz.sizeOf38
  v37 := Tryz.zeroValue38
  t46 := Tryz.underlying150
  a46 := Tryz.isAgg150
  z46 := Tryz.sizeOf150
  v46 := Tryz.zeroValue150
  t51 := Tryz.underlying165
  a51 := Tryz.isAgg165
  z51 := Tryz.sizeOf165
  v51 := Tryz.zeroValue165
  t53 := Tryz.underlying149
  a53 := Tryz.isAgg149
  z53 := Tryz.sizeOf149
  v53 := Tryz.zeroValue149
  t171 := Tryz.underlying210
  a171 := Tryz.isAgg210
  z171 := Tryz.sizeOf210
  v171 := Tryz.zeroValue210
  t173 := Tryz.underlying212
  a173 := Tryz.isAgg212
  z173 := Tryz.sizeOf212
  v173 := Tryz.zeroValue212
  t212 := Tryz.underlying231
  a212 := Tryz.isAgg231
  z212 := Tryz.sizeOf231
  v212 := Tryz.zeroValue231
  t213 := Tryz.underlying232
  a213 := Tryz.isAgg232
  z213 := Tryz.sizeOf232
  t232 := Tryz.underlying236
  a232 := Tryz.isAgg236
  z232 := Tryz.sizeOf236
  v232 := Tryz.zeroValue236
  t233 := Tryz.underlying237
  a233 := Tryz.isAgg237
  z233 := Tryz.sizeOf237
  v233 := Tryz.zeroValue237
  g17 := by kernel_rfl
  g18 := by kernel_rfl
  g19 := by kernel_rfl }
open Go.RowKit Go.Sort Go.Lib in
/-- THE ROAD WITHOUT THE TABLE: 0 <= i < 100: two constants are read, nothing is laid: no premise on the world, and the world is as it was. (LAID: no walk: one application.) -/
theorem Tryz.internal_strconv_FormatInt_10_small (i : Nat) (hi : i < 100) (w : World) :
    Calls Tryz.prog 141 #[.int .i64 i, .int .i64 10] w fun e w' => e = .returned (.string ⟨(Lib.decDigits i).toArray⟩) ∧ w' = w := Any.internal_strconv_FormatInt_10_small Tryz.lays246 i hi w
def Tryz.laysM243_ren : Go.Shelf.Ren := ⟨fun | 243 => 122 | 246 => 141 | 283 => 160 | 284 => 161 | 285 => 162 | 286 => 163 | 129 => 156 | 317 => 176 | 318 => 177 | 319 => 178 | 320 => 179 | 337 => 182 | 338 => 183 | n => n, fun | 3 => 3 | 9 => 9 | 2 => 2 | 4 => 4 | 171 => 210 | 0 => 0 | 53 => 149 | 37 => 38 | 5 => 5 | 173 => 212 | 212 => 231 | 51 => 165 | 20 => 20 | 213 => 232 | 46 => 150 | 232 => 236 | 233 => 237 | n => n, fun | 17 => 2 | 18 => 4 | 19 => 5 | n => n⟩
theorem Tryz.laysM243 : Go.Proofs.LaysM.n243 Tryz.prog Tryz.laysM243_ren := {
  mixed := by kernel_rfl
  f129 := Tryz.func156.trans (congrArg some (by kernel_rfl))
  f243 := Tryz.func122.trans (congrArg some (by kernel_rfl))
  f246 := Tryz.func141.trans (congrArg some (by kernel_rfl))
  f283 := Tryz.func160.trans (congrArg some (by kernel_rfl))
  f284 := Tryz.func161.trans (congrArg some (by kernel_rfl))
  f285 := Tryz.func162.trans (congrArg some (by kernel_rfl))
  f286 := Tryz.func163.trans (congrArg some (by kernel_rfl))
  f317 := Tryz.func176.trans (congrArg some (by kernel_rfl))
  f318 := Tryz.func177.trans (congrArg some (by kernel_rfl))
  f319 := Tryz.func178.trans (congrArg some (by kernel_rfl))
  f320 := Tryz.func179.trans (congrArg some (by kernel_rfl))
  f337 := Tryz.func182.trans (congrArg some (by kernel_rfl))
  f338 := Tryz.func183.trans (congrArg some (by kernel_rfl))
  t0 := Tryz.underlying0
  a0 := Tryz.isAgg0
  z0 := Tryz.sizeOf0
  v0 := Tryz.zeroValue0
  t2 := Tryz.underlying2
  a2 := Tryz.isAgg2
  z2 := Tryz.sizeOf2
  v2 := Tryz.zeroValue2
  t3 := Tryz.underlying3
  a3 := Tryz.isAgg3
  z3 := Tryz.sizeOf3
  v3 := Tryz.zeroValue3
  t4 := Tryz.underlying4
  a4 := Tryz.isAgg4
  z4 := Tryz.sizeOf4
  v4 := Tryz.zeroValue4
  t5 := Tryz.underlying5
  a5 := Tryz.isAgg5
  z5 := Tryz.sizeOf5
  v5 := Tryz.zeroValue5
  t9 := Tryz.underlying9
  a9 := Tryz.isAgg9
  z9 := Tryz.sizeOf9
  v9 := Tryz.zeroValue9
  t20 := Tryz.underlying20
  a20 := Tryz.isAgg20
  z20 := Tryz.sizeOf20
  v20 := Tryz.zeroValue20
  t37 := Tryz.underlying38
  a37 := Tryz.isAgg38
  z37 := Tryz.sizeOf38
  v37 := Tryz.zeroValue38
  t46 := Tryz.underlying150
  a46 := Tryz.isAgg150
  z46 := Tryz.sizeOf150
  v46 := Tryz.zeroValue150
  t51 := Tryz.underlying165
  a51 := Tryz.isAgg165
  z51 := Tryz.sizeOf165
  v51 := Tryz.zeroValue165
  t53 := Tryz.underlying149
  a53 := Tryz.isAgg149
  z53 := Tryz.sizeOf149
  v53 := Tryz.zeroValue149
  t171 := Tryz.underlying210
  a171 := Tryz.isAgg210
  z171 := Tryz.sizeOf210
  v171 := Tryz.zeroValue210
  t173 := Tryz.underlying212
  a173 := Tryz.isAgg212
  z173 := Tryz.sizeOf212
  v173 := Tryz.zeroValue212
  t212 := Tryz.underlying231
  a212 := Tryz.isAgg231
  z212 := Tryz.sizeOf231
  v212 := Tryz.zeroValue231
  t213 := Tryz.underlying232
  a213 := Tryz.isAgg232
  z213 := Tryz.sizeOf232
  t232 := Tryz.underlying236
  a232 := Tryz.isAgg236
  z232 := Tryz.sizeOf236
  v232 := Tryz.zeroValue236
  t233 := Tryz.underlying237
  a233 := Tryz.isAgg237
  z233 := Tryz.sizeOf237
  v233 := Tryz.zeroValue237
  g17 := by kernel_rfl
  g18 := by kernel_rfl
  g19 := by kernel_rfl
  i0 := by kernel_rfl
  i2 := by kernel_rfl
  i3 := by kernel_rfl
  i4 := by kernel_rfl
  i5 := by kernel_rfl
  i9 := by kernel_rfl
  i20 := by kernel_rfl
  i37 := by kernel_rfl
  i46 := by kernel_rfl
  i51 := by kernel_rfl
  i53 := by kernel_rfl
  i171 := by kernel_rfl
  i173 := by kernel_rfl
  i212 := by kernel_rfl
  i232 := by kernel_rfl
  i233 := by kernel_rfl
  m17 := by kernel_rfl
  m18 := by kernel_rfl
  m19 := by kernel_rfl }
open Go.RowKit Go.Sort Go.Lib in
/-- internal/strconv.Itoa: "Itoa is equivalent to FormatInt(int64(i), 10).": i's decimal numeral, for every int. (LAID: no walk: one application.) -/
theorem Tryz.internal_strconv_Itoa (n : Int) (h0 : -9223372036854775808 ≤ n) (h1 : n ≤ 9223372036854775807) (w : World) (htab : Lib.TabIs Tryz.prog w "internal/strconv.uint64pow10" .u64 Lib.pow10Tab) :
    Calls Tryz.prog 122 #[.int .i64 n] w fun e w' => e = .returned (.string ⟨(Lib.itoa n).toArray⟩) ∧ ∃ k os, w' = grow (w.drewN k) os := Any.internal_strconv_Itoa Tryz.laysM243 n h0 h1 w htab
def Tryz.lays243_ren : Go.Shelf.Ren := ⟨fun | 243 => 122 | 246 => 141 | 283 => 160 | 284 => 161 | 285 => 162 | 286 => 163 | 129 => 156 | 317 => 176 | 318 => 177 | 319 => 178 | 320 => 179 | 337 => 182 | 338 => 183 | n => n, fun | 3 => 3 | 9 => 9 | 2 => 2 | 4 => 4 | 171 => 210 | 0 => 0 | 53 => 149 | 37 => 38 | 5 => 5 | 173 => 212 | 212 => 231 | 51 => 165 | 20 => 20 | 213 => 232 | 46 => 150 | 232 => 236 | 233 => 237 | n => n, fun | 17 => 2 | 18 => 4 | 19 => 5 | n => n⟩
theorem Tryz.lays243 : Go.Proofs.Lays.n243 Tryz.prog Tryz.lays243_ren := {
  mixed := by kernel_rfl
  f129 := Tryz.func156.trans (congrArg some (by kernel_rfl))
  f243 := Tryz.func122.trans (congrArg some (by kernel_rfl))
  f246 := Tryz.func141.trans (congrArg some (by kernel_rfl))
  f283 := Tryz.func160.trans (congrArg some (by kernel_rfl))
  f284 := Tryz.func161.trans (congrArg some (by kernel_rfl))
  f285 := Tryz.func162.trans (congrArg some (by kernel_rfl))
  f286 := Tryz.func163.trans (congrArg some (by kernel_rfl))
  f317 := Tryz.func176.trans (congrArg some (by kernel_rfl))
  f318 := Tryz.func177.trans (congrArg some (by kernel_rfl))
  f319 := Tryz.func178.trans (congrArg some (by kernel_rfl))
  f320 := Tryz.func179.trans (congrArg some (by kernel_rfl))
  f337 := Tryz.func182.trans (congrArg some (by kernel_rfl))
  f338 := Tryz.func183.trans (congrArg some (by kernel_rfl))
  t0 := Tryz.underlying0
  a0 := Tryz.isAgg0
  z0 := Tryz.sizeOf0
  v0 := Tryz.zeroValue0
  t2 := Tryz.underlying2
  a2 := Tryz.isAgg2
  z2 := Tryz.sizeOf2
  v2 := Tryz.zeroValue2
  t3 := Tryz.underlying3
  a3 := Tryz.isAgg3
  z3 := Tryz.sizeOf3
  v3 := Tryz.zeroValue3
  t4 := Tryz.underlying4
  a4 := Tryz.isAgg4
  z4 := Tryz.sizeOf4
  v4 := Tryz.zeroValue4
  t5 := Tryz.underlying5
  a5 := Tryz.isAgg5
  z5 := Tryz.sizeOf5
  v5 := Tryz.zeroValue5
  t9 := Tryz.underlying9
  a9 := Tryz.isAgg9
  z9 := Tryz.sizeOf9
  v9 := Tryz.zeroValue9
  t20 := Tryz.underlying20
  a20 := Tryz.isAgg20
  z20 := Tryz.sizeOf20
  v20 := Tryz.zeroValue20
  t37 := Tryz.underlying38
  a37 := Tryz.isAgg38
  z37 := Tryz.sizeOf38
  v37 := Tryz.zeroValue38
  t46 := Tryz.underlying150
  a46 := Tryz.isAgg150
  z46 := Tryz.sizeOf150
  v46 := Tryz.zeroValue150
  t51 := Tryz.underlying165
  a51 := Tryz.isAgg165
  z51 := Tryz.sizeOf165
  v51 := Tryz.zeroValue165
  t53 := Tryz.underlying149
  a53 := Tryz.isAgg149
  z53 := Tryz.sizeOf149
  v53 := Tryz.zeroValue149
  t171 := Tryz.underlying210
  a171 := Tryz.isAgg210
  z171 := Tryz.sizeOf210
  v171 := Tryz.zeroValue210
  t173 := Tryz.underlying212
  a173 := Tryz.isAgg212
  z173 := Tryz.sizeOf212
  v173 := Tryz.zeroValue212
  t212 := Tryz.underlying231
  a212 := Tryz.isAgg231
  z212 := Tryz.sizeOf231
  v212 := Tryz.zeroValue231
  t213 := Tryz.underlying232
  a213 := Tryz.isAgg232
  z213 := Tryz.sizeOf232
  t232 := Tryz.underlying236
  a232 := Tryz.isAgg236
  z232 := Tryz.sizeOf236
  v232 := Tryz.zeroValue236
  t233 := Tryz.underlying237
  a233 := Tryz.isAgg237
  z233 := Tryz.sizeOf237
  v233 := Tryz.zeroValue237
  g17 := by kernel_rfl
  g18 := by kernel_rfl
  g19 := by kernel_rfl }
open Go.RowKit Go.Sort Go.Lib in
/-- THE ROAD WITHOUT THE TABLE: 0 <= i < 100. (LAID: no walk: one application.) -/
theorem Tryz.internal_strconv_Itoa_small (i : Nat) (hi : i < 100) (w : World) :
    Calls Tryz.prog 122 #[.int .i64 i] w fun e w' => e = .returned (.string ⟨(Lib.decDigits i).toArray⟩) ∧ w' = w := Any.internal_strconv_Itoa_small Tryz.lays243 i hi w
def Tryz.laysM171_ren : Go.Shelf.Ren := ⟨fun | 171 => 97 | 243 => 122 | 246 => 141 | 283 => 160 | 284 => 161 | 285 => 162 | 286 => 163 | 129 => 156 | 317 => 176 | 318 => 177 | 319 => 178 | 320 => 179 | 337 => 182 | 338 => 183 | n => n, fun | 3 => 3 | 9 => 9 | 2 => 2 | 4 => 4 | 171 => 210 | 0 => 0 | 53 => 149 | 37 => 38 | 5 => 5 | 173 => 212 | 212 => 231 | 51 => 165 | 20 => 20 | 213 => 232 | 46 => 150 | 232 => 236 | 233 => 237 | n => n, fun | 17 => 2 | 18 => 4 | 19 => 5 | n => n⟩
theorem Tryz.laysM171 : Go.Proofs.LaysM.n171 Tryz.prog Tryz.laysM171_ren := {
  mixed := by kernel_rfl
  f129 := Tryz.func156.trans (congrArg some (by kernel_rfl))
  f171 := Tryz.func97.trans (congrArg some (by kernel_rfl))
  f243 := Tryz.func122.trans (congrArg some (by kernel_rfl))
  f246 := Tryz.func141.trans (congrArg some (by kernel_rfl))
  f283 := Tryz.func160.trans (congrArg some (by kernel_rfl))
  f284 := Tryz.func161.trans (congrArg some (by kernel_rfl))
  f285 := Tryz.func162.trans (congrArg some (by kernel_rfl))
  f286 := Tryz.func163.trans (congrArg some (by kernel_rfl))
  f317 := Tryz.func176.trans (congrArg some (by kernel_rfl))
  f318 := Tryz.func177.trans (congrArg some (by kernel_rfl))
  f319 := Tryz.func178.trans (congrArg some (by kernel_rfl))
  f320 := Tryz.func179.trans (congrArg some (by kernel_rfl))
  f337 := Tryz.func182.trans (congrArg some (by kernel_rfl))
  f338 := Tryz.func183.trans (congrArg some (by kernel_rfl))
  t0 := Tryz.underlying0
  a0 := Tryz.isAgg0
  z0 := Tryz.sizeOf0
  v0 := Tryz.zeroValue0
  t2 := Tryz.underlying2
  a2 := Tryz.isAgg2
  z2 := Tryz.sizeOf2
  v2 := Tryz.zeroValue2
  t3 := Tryz.underlying3
  a3 := Tryz.isAgg3
  z3 := Tryz.sizeOf3
  v3 := Tryz.zeroValue3
  t4 := Tryz.underlying4
  a4 := Tryz.isAgg4
  z4 := Tryz.sizeOf4
  v4 := Tryz.zeroValue4
  t5 := Tryz.underlying5
  a5 := Tryz.isAgg5
  z5 := Tryz.sizeOf5
  v5 := Tryz.zeroValue5
  t9 := Tryz.underlying9
  a9 := Tryz.isAgg9
  z9 := Tryz.sizeOf9
  v9 := Tryz.zeroValue9
  t20 := Tryz.underlying20
  a20 := Tryz.isAgg20
  z20 := Tryz.sizeOf20
  v20 := Tryz.zeroValue20
  t37 := Tryz.underlying38
  a37 := Tryz.isAgg38
  z37 := Tryz.sizeOf38
  v37 := Tryz.zeroValue38
  t46 := Tryz.underlying150
  a46 := Tryz.isAgg150
  z46 := Tryz.sizeOf150
  v46 := Tryz.zeroValue150
  t51 := Tryz.underlying165
  a51 := Tryz.isAgg165
  z51 := Tryz.sizeOf165
  v51 := Tryz.zeroValue165
  t53 := Tryz.underlying149
  a53 := Tryz.isAgg149
  z53 := Tryz.sizeOf149
  v53 := Tryz.zeroValue149
  t171 := Tryz.underlying210
  a171 := Tryz.isAgg210
  z171 := Tryz.sizeOf210
  v171 := Tryz.zeroValue210
  t173 := Tryz.underlying212
  a173 := Tryz.isAgg212
  z173 := Tryz.sizeOf212
  v173 := Tryz.zeroValue212
  t212 := Tryz.underlying231
  a212 := Tryz.isAgg231
  z212 := Tryz.sizeOf231
  v212 := Tryz.zeroValue231
  t213 := Tryz.underlying232
  a213 := Tryz.isAgg232
  z213 := Tryz.sizeOf232
  t232 := Tryz.underlying236
  a232 := Tryz.isAgg236
  z232 := Tryz.sizeOf236
  v232 := Tryz.zeroValue236
  t233 := Tryz.underlying237
  a233 := Tryz.isAgg237
  z233 := Tryz.sizeOf237
  v233 := Tryz.zeroValue237
  g17 := by kernel_rfl
  g18 := by kernel_rfl
  g19 := by kernel_rfl
  i0 := by kernel_rfl
  i2 := by kernel_rfl
  i3 := by kernel_rfl
  i4 := by kernel_rfl
  i5 := by kernel_rfl
  i9 := by kernel_rfl
  i20 := by kernel_rfl
  i37 := by kernel_rfl
  i46 := by kernel_rfl
  i51 := by kernel_rfl
  i53 := by kernel_rfl
  i171 := by kernel_rfl
  i173 := by kernel_rfl
  i212 := by kernel_rfl
  i232 := by kernel_rfl
  i233 := by kernel_rfl
  m17 := by kernel_rfl
  m18 := by kernel_rfl
  m19 := by kernel_rfl }
open Go.RowKit Go.Sort Go.Lib in
/-- strconv.Itoa: "Itoa is equivalent to FormatInt(int64(i), 10).": i's DECIMAL NUMERAL ('Lib.itoa': a '-' where i is negative, then the digits), FOR EVERY int. The world behind the call: the world before it, new blocks behind the heap (the library's 'var a [24]byte'), draws. (LAID: no walk: one application.) -/
theorem Tryz.strconv_Itoa (n : Int) (h0 : -9223372036854775808 ≤ n) (h1 : n ≤ 9223372036854775807) (w : World) (htab : Lib.TabIs Tryz.prog w "internal/strconv.uint64pow10" .u64 Lib.pow10Tab) :
    Calls Tryz.prog 97 #[.int .i64 n] w fun e w' => e = .returned (.string ⟨(Lib.itoa n).toArray⟩) ∧ ∃ k os, w' = grow (w.drewN k) os := Any.strconv_Itoa Tryz.laysM171 n h0 h1 w htab
def Tryz.lays171_ren : Go.Shelf.Ren := ⟨fun | 171 => 97 | 243 => 122 | 246 => 141 | 283 => 160 | 284 => 161 | 285 => 162 | 286 => 163 | 129 => 156 | 317 => 176 | 318 => 177 | 319 => 178 | 320 => 179 | 337 => 182 | 338 => 183 | n => n, fun | 3 => 3 | 9 => 9 | 2 => 2 | 4 => 4 | 171 => 210 | 0 => 0 | 53 => 149 | 37 => 38 | 5 => 5 | 173 => 212 | 212 => 231 | 51 => 165 | 20 => 20 | 213 => 232 | 46 => 150 | 232 => 236 | 233 => 237 | n => n, fun | 17 => 2 | 18 => 4 | 19 => 5 | n => n⟩
theorem Tryz.lays171 : Go.Proofs.Lays.n171 Tryz.prog Tryz.lays171_ren := {
  mixed := by kernel_rfl
  f129 := Tryz.func156.trans (congrArg some (by kernel_rfl))
  f171 := Tryz.func97.trans (congrArg some (by kernel_rfl))
  f243 := Tryz.func122.trans (congrArg some (by kernel_rfl))
  f246 := Tryz.func141.trans (congrArg some (by kernel_rfl))
  f283 := Tryz.func160.trans (congrArg some (by kernel_rfl))
  f284 := Tryz.func161.trans (congrArg some (by kernel_rfl))
  f285 := Tryz.func162.trans (congrArg some (by kernel_rfl))
  f286 := Tryz.func163.trans (congrArg some (by kernel_rfl))
  f317 := Tryz.func176.trans (congrArg some (by kernel_rfl))
  f318 := Tryz.func177.trans (congrArg some (by kernel_rfl))
  f319 := Tryz.func178.trans (congrArg some (by kernel_rfl))
  f320 := Tryz.func179.trans (congrArg some (by kernel_rfl))
  f337 := Tryz.func182.trans (congrArg some (by kernel_rfl))
  f338 := Tryz.func183.trans (congrArg some (by kernel_rfl))
  t0 := Tryz.underlying0
  a0 := Tryz.isAgg0
  z0 := Tryz.sizeOf0
  v0 := Tryz.zeroValue0
  t2 := Tryz.underlying2
  a2 := Tryz.isAgg2
  z2 := Tryz.sizeOf2
  v2 := Tryz.zeroValue2
  t3 := Tryz.underlying3
  a3 := Tryz.isAgg3
  z3 := Tryz.sizeOf3
  v3 := Tryz.zeroValue3
  t4 := Tryz.underlying4
  a4 := Tryz.isAgg4
  z4 := Tryz.sizeOf4
  v4 := Tryz.zeroValue4
  t5 := Tryz.underlying5
  a5 := Tryz.isAgg5
  z5 := Tryz.sizeOf5
  v5 := Tryz.zeroValue5
  t9 := Tryz.underlying9
  a9 := Tryz.isAgg9
  z9 := Tryz.sizeOf9
  v9 := Tryz.zeroValue9
  t20 := Tryz.underlying20
  a20 := Tryz.isAgg20
  z20 := Tryz.sizeOf20
  v20 := Tryz.zeroValue20
  t37 := Tryz.underlying38
  a37 := Tryz.isAgg38
  z37 := Tryz.sizeOf38
  v37 := Tryz.zeroValue38
  t46 := Tryz.underlying150
  a46 := Tryz.isAgg150
  z46 := Tryz.sizeOf150
  v46 := Tryz.zeroValue150
  t51 := Tryz.underlying165
  a51 := Tryz.isAgg165
  z51 := Tryz.sizeOf165
  v51 := Tryz.zeroValue165
  t53 := Tryz.underlying149
  a53 := Tryz.isAgg149
  z53 := Tryz.sizeOf149
  v53 := Tryz.zeroValue149
  t171 := Tryz.underlying210
  a171 := Tryz.isAgg210
  z171 := Tryz.sizeOf210
  v171 := Tryz.zeroValue210
  t173 := Tryz.underlying212
  a173 := Tryz.isAgg212
  z173 := Tryz.sizeOf212
  v173 := Tryz.zeroValue212
  t212 := Tryz.underlying231
  a212 := Tryz.isAgg231
  z212 := Tryz.sizeOf231
  v212 := Tryz.zeroValue231
  t213 := Tryz.underlying232
  a213 := Tryz.isAgg232
  z213 := Tryz.sizeOf232
  t232 := Tryz.underlying236
  a232 := Tryz.isAgg236
  z232 := Tryz.sizeOf236
  v232 := Tryz.zeroValue236
  t233 := Tryz.underlying237
  a233 := Tryz.isAgg237
  z233 := Tryz.sizeOf237
  v233 := Tryz.zeroValue237
  g17 := by kernel_rfl
  g18 := by kernel_rfl
  g19 := by kernel_rfl }
open Go.RowKit Go.Sort Go.Lib in
/-- THE ROAD WITHOUT THE TABLE: 0 <= i < 100: NO PREMISE ON THE WORLD, AND THE WORLD IS AS IT WAS: a row that keeps its argument in that range need list no table ('laid = []'). (LAID: no walk: one application.) -/
theorem Tryz.strconv_Itoa_small (i : Nat) (hi : i < 100) (w : World) :
    Calls Tryz.prog 97 #[.int .i64 i] w fun e w' => e = .returned (.string ⟨(Lib.decDigits i).toArray⟩) ∧ w' = w := Any.strconv_Itoa_small Tryz.lays171 i hi w
def Tryz.lays217_ren : Go.Shelf.Ren := ⟨fun | 217 => 181 | 266 => 184 | n => n, fun | 9 => 9 | 5 => 5 | 3 => 3 | n => n, fun | n => n⟩
theorem Tryz.lays217 : Go.Proofs.Lays.n217 Tryz.prog Tryz.lays217_ren := {
  mixed := by kernel_rfl
  f217 := Tryz.func181.trans (congrArg some (by kernel_rfl))
  f266 := Tryz.func184.trans (congrArg some (by kernel_rfl))
  t3 := Tryz.underlying3
  a3 := Tryz.isAgg3
  z3 := Tryz.sizeOf3
  v3 := Tryz.zeroValue3
  t5 := Tryz.underlying5
  a5 := Tryz.isAgg5
  z5 := Tryz.sizeOf5
  v5 := Tryz.zeroValue5
  t9 := Tryz.underlying9
  a9 := Tryz.isAgg9
  z9 := Tryz.sizeOf9
  v9 := Tryz.zeroValue9 }
open Go.RowKit Go.Lib in
/-- internal/stringslite.IndexByte (what strings.IndexByte calls): IT RETURNS 'Lib.indexByte s c'; the world is as it was. (LAID: no walk: one application.) -/
theorem Tryz.stringslite_IndexByte (s : ByteArray) (c : Int) (w : World) :
    Calls Tryz.prog 181 #[.string s, .int .u8 c] w fun e w' => e = .returned (.int .i64 (Lib.indexByte s.data.toList c.toNat.toUInt8)) ∧ w' = w := Any.stringslite_IndexByte Tryz.lays217 s c w
def Tryz.lays224_ren : Go.Shelf.Ren := ⟨fun | 224 => 174 | n => n, fun | 3 => 3 | n => n, fun | n => n⟩
theorem Tryz.lays224 : Go.Proofs.Lays.n224 Tryz.prog Tryz.lays224_ren := {
  mixed := by kernel_rfl
  f224 := Tryz.func174.trans (congrArg some (by kernel_rfl))
  t3 := Tryz.underlying3
  a3 := Tryz.isAgg3
  z3 := Tryz.sizeOf3
  v3 := Tryz.zeroValue3 }
open Go.RowKit Go.Lib in
/-- internal/bytealg.Cutover: "Cutover reports the number of failures of IndexByte we should tolerate before switching over to Index. n is the number of bytes processed so far.": on amd64: (n + 16) / 8. (LAID: no walk: one application.) -/
theorem Tryz.bytealg_Cutover (n : Int) (h0 : 0 ≤ n) (h1 : n < 4611686018427387904) (w : World) :
    Calls Tryz.prog 174 #[.int .i64 n] w fun e w' => e = .returned (.int .i64 ((n + 16) / 8)) ∧ w' = w := Any.bytealg_Cutover Tryz.lays224 n h0 h1 w
def Tryz.lays206_ren : Go.Shelf.Ren := ⟨fun | 206 => 139 | n => n, fun | 9 => 9 | 4 => 4 | 3 => 3 | n => n, fun | n => n⟩
theorem Tryz.lays206 : Go.Proofs.Lays.n206 Tryz.prog Tryz.lays206_ren := {
  mixed := by kernel_rfl
  f206 := Tryz.func139.trans (congrArg some (by kernel_rfl))
  t3 := Tryz.underlying3
  a3 := Tryz.isAgg3
  z3 := Tryz.sizeOf3
  v3 := Tryz.zeroValue3
  t4 := Tryz.underlying4
  a4 := Tryz.isAgg4
  z4 := Tryz.sizeOf4
  v4 := Tryz.zeroValue4
  t9 := Tryz.underlying9
  a9 := Tryz.isAgg9
  z9 := Tryz.sizeOf9
  v9 := Tryz.zeroValue9 }
open Go.RowKit Go.Lib in
/-- internal/stringslite.HasPrefix (what strings.HasPrefix calls). (LAID: no walk: one application.) -/
theorem Tryz.stringslite_HasPrefix (s p : ByteArray) (w : World) :
    Calls Tryz.prog 139 #[.string s, .string p] w fun e w' => e = .returned (.bool (Lib.hasPrefix s.data.toList p.data.toList)) ∧ w' = w := Any.stringslite_HasPrefix Tryz.lays206 s p w
def Tryz.lays99_ren : Go.Shelf.Ren := ⟨fun | 99 => 124 | 206 => 139 | n => n, fun | 9 => 9 | 4 => 4 | 3 => 3 | n => n, fun | n => n⟩
theorem Tryz.lays99 : Go.Proofs.Lays.n99 Tryz.prog Tryz.lays99_ren := {
  mixed := by kernel_rfl
  f99 := Tryz.func124.trans (congrArg some (by kernel_rfl))
  f206 := Tryz.func139.trans (congrArg some (by kernel_rfl))
  t3 := Tryz.underlying3
  a3 := Tryz.isAgg3
  z3 := Tryz.sizeOf3
  v3 := Tryz.zeroValue3
  t4 := Tryz.underlying4
  a4 := Tryz.isAgg4
  z4 := Tryz.sizeOf4
  v4 := Tryz.zeroValue4
  t9 := Tryz.underlying9
  a9 := Tryz.isAgg9
  z9 := Tryz.sizeOf9
  v9 := Tryz.zeroValue9 }
open Go.RowKit Go.Lib in
/-- strings.HasPrefix: "HasPrefix reports whether the string s begins with prefix.": IT RETURNS 'Lib.hasPrefix s prefix'; the world is as it was. (LAID: no walk: one application.) -/
theorem Tryz.strings_HasPrefix (s p : ByteArray) (w : World) :
    Calls Tryz.prog 124 #[.string s, .string p] w fun e w' => e = .returned (.bool (Lib.hasPrefix s.data.toList p.data.toList)) ∧ w' = w := Any.strings_HasPrefix Tryz.lays99 s p w
def Tryz.lays152_ren : Go.Shelf.Ren := ⟨fun | 152 => 158 | 137 => 172 | 119 => 173 | 224 => 174 | 225 => 175 | 217 => 181 | 266 => 184 | n => n, fun | 9 => 9 | 21 => 21 | 3 => 3 | 4 => 4 | 5 => 5 | 0 => 0 | 46 => 150 | n => n, fun | n => n⟩
theorem Tryz.lays152 : Go.Proofs.Lays.n152 Tryz.prog Tryz.lays152_ren := {
  mixed := by kernel_rfl
  f119 := Tryz.func173.trans (congrArg some (by kernel_rfl))
  f137 := Tryz.func172.trans (congrArg some (by kernel_rfl))
  f152 := Tryz.func158.trans (congrArg some (by kernel_rfl))
  f217 := Tryz.func181.trans (congrArg some (by kernel_rfl))
  f224 := Tryz.func174.trans (congrArg some (by kernel_rfl))
  f225 := Tryz.func175.trans (congrArg some (by kernel_rfl))
  f266 := Tryz.func184.trans (congrArg some (by kernel_rfl))
  t0 := Tryz.underlying0
  a0 := Tryz.isAgg0
  z0 := Tryz.sizeOf0
  v0 := Tryz.zeroValue0
  t3 := Tryz.underlying3
  a3 := Tryz.isAgg3
  z3 := Tryz.sizeOf3
  v3 := Tryz.zeroValue3
  t4 := Tryz.underlying4
  a4 := Tryz.isAgg4
  z4 := Tryz.sizeOf4
  v4 := Tryz.zeroValue4
  t5 := Tryz.underlying5
  a5 := Tryz.isAgg5
  z5 := Tryz.sizeOf5
  v5 := Tryz.zeroValue5
  t9 := Tryz.underlying9
  a9 := Tryz.isAgg9
  z9 := Tryz.sizeOf9
  v9 := Tryz.zeroValue9
  t21 := Tryz.underlying21
  a21 := Tryz.isAgg21
  z21 := Tryz.sizeOf21
  v21 := Tryz.zeroValue21
  t46 := Tryz.underlying150
  a46 := Tryz.isAgg150
  z46 := Tryz.sizeOf150
  v46 := Tryz.zeroValue150 }
open Go.RowKit Go.Lib in
theorem Tryz.strings_IndexRune_ascii (s : ByteArray) (r : Int) (w : World) (h0 : 0 ≤ r) (h1 : r < 128) :
    Calls Tryz.prog 158 #[.string s, .int .i32 r] w fun e w' => e = .returned (.int .i64 (Lib.indexByte s.data.toList r.toNat.toUInt8)) ∧ w' = w := Any.strings_IndexRune_ascii Tryz.lays152 s r w h0 h1
def Tryz.lays151_ren : Go.Shelf.Ren := ⟨fun | 151 => 135 | 152 => 158 | 137 => 172 | 119 => 173 | 224 => 174 | 225 => 175 | 217 => 181 | 266 => 184 | n => n, fun | 9 => 9 | 21 => 21 | 4 => 4 | 3 => 3 | 5 => 5 | 0 => 0 | 46 => 150 | n => n, fun | n => n⟩
theorem Tryz.lays151 : Go.Proofs.Lays.n151 Tryz.prog Tryz.lays151_ren := {
  mixed := by kernel_rfl
  f119 := Tryz.func173.trans (congrArg some (by kernel_rfl))
  f137 := Tryz.func172.trans (congrArg some (by kernel_rfl))
  f151 := Tryz.func135.trans (congrArg some (by kernel_rfl))
  f152 := Tryz.func158.trans (congrArg some (by kernel_rfl))
  f217 := Tryz.func181.trans (congrArg some (by kernel_rfl))
  f224 := Tryz.func174.trans (congrArg some (by kernel_rfl))
  f225 := Tryz.func175.trans (congrArg some (by kernel_rfl))
  f266 := Tryz.func184.trans (congrArg some (by kernel_rfl))
  t0 := Tryz.underlying0
  a0 := Tryz.isAgg0
  z0 := Tryz.sizeOf0
  v0 := Tryz.zeroValue0
  t3 := Tryz.underlying3
  a3 := Tryz.isAgg3
  z3 := Tryz.sizeOf3
  v3 := Tryz.zeroValue3
  t4 := Tryz.underlying4
  a4 := Tryz.isAgg4
  z4 := Tryz.sizeOf4
  v4 := Tryz.zeroValue4
  t5 := Tryz.underlying5
  a5 := Tryz.isAgg5
  z5 := Tryz.sizeOf5
  v5 := Tryz.zeroValue5
  t9 := Tryz.underlying9
  a9 := Tryz.isAgg9
  z9 := Tryz.sizeOf9
  v9 := Tryz.zeroValue9
  t21 := Tryz.underlying21
  a21 := Tryz.isAgg21
  z21 := Tryz.sizeOf21
  v21 := Tryz.zeroValue21
  t46 := Tryz.underlying150
  a46 := Tryz.isAgg150
  z46 := Tryz.sizeOf150
  v46 := Tryz.zeroValue150 }
open Go.RowKit Go.Lib in
theorem Tryz.strings_ContainsRune_ascii (s : ByteArray) (r : Int) (w : World) (h0 : 0 ≤ r) (h1 : r < 128) :
    Calls Tryz.prog 135 #[.string s, .int .i32 r] w fun e w' => e = .returned (.bool (decide (0 ≤ Lib.indexByte s.data.toList r.toNat.toUInt8))) ∧ w' = w := Any.strings_ContainsRune_ascii Tryz.lays151 s r w h0 h1
def Tryz.lays227_ren : Go.Shelf.Ren := ⟨fun | 227 => 108 | n => n, fun | 9 => 9 | 116 => 159 | 4 => 4 | 0 => 0 | 3 => 3 | 5 => 5 | n => n, fun | n => n⟩
theorem Tryz.lays227 : Go.Proofs.Lays.n227 Tryz.prog Tryz.lays227_ren := {
  mixed := by kernel_rfl
  f227 := Tryz.func108.trans (congrArg some (by kernel_rfl))
  t0 := Tryz.underlying0
  a0 := Tryz.isAgg0
  z0 := Tryz.sizeOf0
  v0 := Tryz.zeroValue0
  t3 := Tryz.underlying3
  a3 := Tryz.isAgg3
  z3 := Tryz.sizeOf3
  v3 := Tryz.zeroValue3
  t4 := Tryz.underlying4
  a4 := Tryz.isAgg4
  z4 := Tryz.sizeOf4
  v4 := Tryz.zeroValue4
  t5 := Tryz.underlying5
  a5 := Tryz.isAgg5
  z5 := Tryz.sizeOf5
  v5 := Tryz.zeroValue5
  t9 := Tryz.underlying9
  a9 := Tryz.isAgg9
  z9 := Tryz.sizeOf9
  v9 := Tryz.zeroValue9
  t116 := Tryz.underlying159
  a116 := Tryz.isAgg159
  z116 := Tryz.sizeOf159 }
open Go.RowKit Go.Lib in
theorem Tryz.strings_makeASCIISet (hv116 : ∀ w, (zeroValue 159).run Tryz.prog w = .ok (.agg (Array.replicate 256 (.bool false))) w) (chars : ByteArray) (w : World) (hs : chars.size < 4294967281) (hascii : ∀ (j : Nat) b, chars.data.toList[j]? = some b → b.toNat < 128) :
    Calls Tryz.prog 108 #[.string chars] w fun e w' => e = .returned (.tuple #[.agg (Lib.setCells chars.data.toList), .bool true]) ∧ w' = w.alloc (.cells (Lib.setCells chars.data.toList) 159) := Any.strings_makeASCIISet Tryz.lays227 hv116 (by kernel_rfl) chars w hs hascii
def Tryz.lays228_ren : Go.Shelf.Ren := ⟨fun | 228 => 133 | n => n, fun | 124 => 163 | 5 => 5 | 4 => 4 | 0 => 0 | 116 => 159 | n => n, fun | n => n⟩
theorem Tryz.lays228 : Go.Proofs.Lays.n228 Tryz.prog Tryz.lays228_ren := {
  mixed := by kernel_rfl
  f228 := Tryz.func133.trans (congrArg some (by kernel_rfl))
  t0 := Tryz.underlying0
  a0 := Tryz.isAgg0
  z0 := Tryz.sizeOf0
  v0 := Tryz.zeroValue0
  t4 := Tryz.underlying4
  a4 := Tryz.isAgg4
  z4 := Tryz.sizeOf4
  v4 := Tryz.zeroValue4
  t5 := Tryz.underlying5
  a5 := Tryz.isAgg5
  z5 := Tryz.sizeOf5
  v5 := Tryz.zeroValue5
  t116 := Tryz.underlying159
  a116 := Tryz.isAgg159
  z116 := Tryz.sizeOf159
  t124 := Tryz.underlying163
  a124 := Tryz.isAgg163
  z124 := Tryz.sizeOf163
  v124 := Tryz.zeroValue163 }
open Go.RowKit Go.Lib in
/-- '(as *asciiSet) contains(c)': 'as[c]': the set lies at block b, whole. (LAID: no walk: one application.) -/
theorem Tryz.asciiSet_contains (b : Nat) (x : UInt8) (v : Bool) (w : World) (hc : w.cell? ⟨b, x.toNat, none⟩ = some (.bool v)) :
    Calls Tryz.prog 133 #[.pointer (some ⟨b, 0, none⟩), .int .u8 x.toNat] w fun e w' => e = .returned (.bool v) ∧ w' = w := Any.asciiSet_contains Tryz.lays228 b x v w hc
def Tryz.lays264_ren : Go.Shelf.Ren := ⟨fun | 264 => 143 | n => n, fun | 53 => 149 | 46 => 150 | n => n, fun | n => n⟩
theorem Tryz.lays264 : Go.Proofs.Lays.n264 Tryz.prog Tryz.lays264_ren := {
  mixed := by kernel_rfl
  f264 := Tryz.func143.trans (congrArg some (by kernel_rfl))
  t46 := Tryz.underlying150
  a46 := Tryz.isAgg150
  z46 := Tryz.sizeOf150
  v46 := Tryz.zeroValue150
  t53 := Tryz.underlying149
  a53 := Tryz.isAgg149
  z53 := Tryz.sizeOf149
  v53 := Tryz.zeroValue149 }
open Go.RowKit Go.Lib in
theorem Tryz.bits_Mul64 (x y : Nat) (hx : x < 18446744073709551616) (hy : y < 18446744073709551616) (w : World) :
    Calls Tryz.prog 143 #[.int .u64 x, .int .u64 y] w fun e w' => e = .returned (.tuple #[.int .u64 ((x * y / 18446744073709551616 : Nat) : Int), .int .u64 ((x * y % 18446744073709551616 : Nat) : Int)]) ∧ w' = w := Any.bits_Mul64 Tryz.lays264 x y hx hy w
def Tryz.lays212_ren : Go.Shelf.Ren := ⟨fun | 212 => 123 | 263 => 142 | 264 => 143 | n => n, fun | 46 => 150 | 51 => 165 | 146 => 195 | 53 => 149 | 148 => 197 | n => n, fun | n => n⟩
theorem Tryz.lays212 : Go.Proofs.Lays.n212 Tryz.prog Tryz.lays212_ren := {
  mixed := by kernel_rfl
  f212 := Tryz.func123.trans (congrArg some (by kernel_rfl))
  f263 := Tryz.func142.trans (congrArg some (by kernel_rfl))
  f264 := Tryz.func143.trans (congrArg some (by kernel_rfl))
  t46 := Tryz.underlying150
  a46 := Tryz.isAgg150
  z46 := Tryz.sizeOf150
  v46 := Tryz.zeroValue150
  t51 := Tryz.underlying165
  a51 := Tryz.isAgg165
  z51 := Tryz.sizeOf165
  v51 := Tryz.zeroValue165
  t53 := Tryz.underlying149
  a53 := Tryz.isAgg149
  z53 := Tryz.sizeOf149
  v53 := Tryz.zeroValue149
  t146 := Tryz.underlying195
  a146 := Tryz.isAgg195
  z146 := Tryz.sizeOf195
  v146 := Tryz.zeroValue195
  t148 := Tryz.underlying197
  a148 := Tryz.isAgg197
  z148 := Tryz.sizeOf197
  v148 := Tryz.zeroValue197 }
open Go.RowKit Go.Lib in
/-- math/bits.Mul: "Mul returns the full-width product of x and y": on a machine of 64 bits: Mul64's. (LAID: no walk: one application.) -/
theorem Tryz.bits_Mul (x y : Nat) (hx : x < 18446744073709551616) (hy : y < 18446744073709551616) (w : World) :
    Calls Tryz.prog 123 #[.int .u64 x, .int .u64 y] w fun e w' => e = .returned (.tuple #[.int .u64 ((x * y / 18446744073709551616 : Nat) : Int), .int .u64 ((x * y % 18446744073709551616 : Nat) : Int)]) ∧ w' = w := Any.bits_Mul Tryz.lays212 x y hx hy w
def Tryz.lays260_ren : Go.Shelf.Ren := ⟨fun | 260 => 157 | n => n, fun | 9 => 9 | 21 => 21 | 3 => 3 | 4 => 4 | 5 => 5 | 119 => 223 | 0 => 0 | 46 => 150 | 139 => 226 | 138 => 225 | n => n, fun | 3 => 0 | 4 => 1 | n => n⟩
theorem Tryz.lays260 : Go.Proofs.Lays.n260 Tryz.prog Tryz.lays260_ren := {
  mixed := by kernel_rfl
  f260 := Tryz.func157.trans (congrArg some (by kernel_rfl))
  t0 := Tryz.underlying0
  a0 := Tryz.isAgg0
  z0 := Tryz.sizeOf0
  v0 := Tryz.zeroValue0
  t3 := Tryz.underlying3
  a3 := Tryz.isAgg3
  z3 := Tryz.sizeOf3
  v3 := Tryz.zeroValue3
  t4 := Tryz.underlying4
  a4 := Tryz.isAgg4
  z4 := Tryz.sizeOf4
  v4 := Tryz.zeroValue4
  t5 := Tryz.underlying5
  a5 := Tryz.isAgg5
  z5 := Tryz.sizeOf5
  v5 := Tryz.zeroValue5
  t9 := Tryz.underlying9
  a9 := Tryz.isAgg9
  z9 := Tryz.sizeOf9
  v9 := Tryz.zeroValue9
  t21 := Tryz.underlying21
  a21 := Tryz.isAgg21
  z21 := Tryz.sizeOf21
  v21 := Tryz.zeroValue21
  t46 := Tryz.underlying150
  a46 := Tryz.isAgg150
  z46 := Tryz.sizeOf150
  v46 := Tryz.zeroValue150
  t119 := Tryz.underlying223
  a119 := Tryz.isAgg223
  z119 := Tryz.sizeOf223
  t138 := Tryz.underlying225
  a138 := Tryz.isAgg225
  z138 := Tryz.sizeOf225
  v138 := Tryz.zeroValue225
  t139 := Tryz.underlying226
  a139 := Tryz.isAgg226
  z139 := Tryz.sizeOf226
  v139 := Tryz.zeroValue226
  g3 := by kernel_rfl
  g4 := by kernel_rfl }
open Go.RowKit Go.Lib in
theorem Tryz.utf8_decodeRuneInStringSlow (s : ByteArray) (w : World) (hT : Lib.Utf8Tabs 0 1 w) :
    Calls Tryz.prog 157 #[.string s] w fun e w' => e = .returned (.tuple #[.int .i32 (Lib.decodeGo s).1, .int .i64 (Lib.decodeGo s).2]) ∧ Below w.heap.size w w' := Any.utf8_decodeRuneInStringSlow Tryz.lays260 s w hT
def Tryz.laysSlM6_f102_ren : Go.Shelf.Ren := ⟨fun | 6 => 102 | 8 => 132 | 9 => 131 | 19 => 155 | 20 => 156 | 21 => 146 | 22 => 147 | 23 => 148 | 24 => 149 | 25 => 150 | 26 => 151 | 27 => 152 | 28 => 153 | 29 => 154 | 36 => 166 | 31 => 167 | 32 => 168 | 37 => 169 | 38 => 170 | 39 => 171 | 41 => 180 | n => n, fun | 27 => 23 | 29 => 9 | 3 => 3 | 32 => 150 | 26 => 23 | 0 => 0 | 44 => 165 | 46 => 149 | 4 => 4 | 36 => 202 | 35 => 201 | 41 => 94 | 5 => 5 | 9 => 9 | 53 => 217 | 57 => 221 | 63 => 233 | 64 => 234 | n => n, fun | n => n⟩
theorem Tryz.laysSlM6_f102 : Go.Proofs.SlLaysM.n6 Tryz.prog Tryz.laysSlM6_f102_ren := {
  mixed := by kernel_rfl
  f6 := ⟨Tryz.f102.name, by decide, Tryz.func102.trans (congrArg some (by kernel_rfl))⟩
  f8 := Tryz.func132.trans (congrArg some (by kernel_rfl))
  f9 := ⟨Tryz.f131.name, by decide, Tryz.func131.trans (congrArg some (by kernel_rfl))⟩
  f19 := Tryz.func155.trans (congrArg some (by kernel_rfl))
  f20 := Tryz.func156.trans (congrArg some (by kernel_rfl))
  f21 := ⟨Tryz.f146.name, by decide, Tryz.func146.trans (congrArg some (by kernel_rfl))⟩
  f22 := ⟨Tryz.f147.name, by decide, Tryz.func147.trans (congrArg some (by kernel_rfl))⟩
  f23 := ⟨Tryz.f148.name, by decide, Tryz.func148.trans (congrArg some (by kernel_rfl))⟩
  f24 := ⟨Tryz.f149.name, by decide, Tryz.func149.trans (congrArg some (by kernel_rfl))⟩
  f25 := ⟨Tryz.f150.name, by decide, Tryz.func150.trans (congrArg some (by kernel_rfl))⟩
  f26 := ⟨Tryz.f151.name, by decide, Tryz.func151.trans (congrArg some (by kernel_rfl))⟩
  f27 := ⟨Tryz.f152.name, by decide, Tryz.func152.trans (congrArg some (by kernel_rfl))⟩
  f28 := ⟨Tryz.f153.name, by decide, Tryz.func153.trans (congrArg some (by kernel_rfl))⟩
  f29 := ⟨Tryz.f154.name, by decide, Tryz.func154.trans (congrArg some (by kernel_rfl))⟩
  f31 := Tryz.func167.trans (congrArg some (by kernel_rfl))
  f32 := Tryz.func168.trans (congrArg some (by kernel_rfl))
  f36 := ⟨Tryz.f166.name, by decide, Tryz.func166.trans (congrArg some (by kernel_rfl))⟩
  f37 := ⟨Tryz.f169.name, by decide, Tryz.func169.trans (congrArg some (by kernel_rfl))⟩
  f38 := ⟨Tryz.f170.name, by decide, Tryz.func170.trans (congrArg some (by kernel_rfl))⟩
  f39 := ⟨Tryz.f171.name, by decide, Tryz.func171.trans (congrArg some (by kernel_rfl))⟩
  f41 := ⟨Tryz.f180.name, by decide, Tryz.func180.trans (congrArg some (by kernel_rfl))⟩
  t0 := Tryz.underlying0
  a0 := Tryz.isAgg0
  z0 := Tryz.sizeOf0
  v0 := Tryz.zeroValue0
  t3 := Tryz.underlying3
  a3 := Tryz.isAgg3
  z3 := Tryz.sizeOf3
  v3 := Tryz.zeroValue3
  t4 := Tryz.underlying4
  a4 := Tryz.isAgg4
  z4 := Tryz.sizeOf4
  v4 := Tryz.zeroValue4
  t5 := Tryz.underlying5
  a5 := Tryz.isAgg5
  z5 := Tryz.sizeOf5
  v5 := Tryz.zeroValue5
  t9 := Tryz.underlying9
  a9 := Tryz.isAgg9
  z9 := Tryz.sizeOf9
  v9 := Tryz.zeroValue9
  t26 := Tryz.underlying23
  a26 := Tryz.isAgg23
  z26 := Tryz.sizeOf23
  v26 := Tryz.zeroValue23
  t27 := Tryz.underlying23
  a27 := Tryz.isAgg23
  z27 := Tryz.sizeOf23
  v27 := Tryz.zeroValue23
  t29 := Tryz.underlying9
  a29 := Tryz.isAgg9
  z29 := Tryz.sizeOf9
  v29 := Tryz.zeroValue9
  t32 := Tryz.underlying150
  a32 := Tryz.isAgg150
  z32 := Tryz.sizeOf150
  v32 := Tryz.zeroValue150
  t35 := Tryz.underlying201
  a35 := Tryz.isAgg201
  z35 := Tryz.sizeOf201
  v35 := Tryz.zeroValue201
  t36 := Tryz.underlying202
  a36 := Tryz.isAgg202
  z36 := Tryz.sizeOf202
  v36 := Tryz.zeroValue202
  t41 := Tryz.underlying94
  a41 := Tryz.isAgg94
  z41 := Tryz.sizeOf94
  v41 := Tryz.zeroValue94
  t44 := Tryz.underlying165
  a44 := Tryz.isAgg165
  z44 := Tryz.sizeOf165
  v44 := Tryz.zeroValue165
  t46 := Tryz.underlying149
  a46 := Tryz.isAgg149
  z46 := Tryz.sizeOf149
  v46 := Tryz.zeroValue149
  t53 := Tryz.underlying217
  a53 := Tryz.isAgg217
  z53 := Tryz.sizeOf217
  v53 := Tryz.zeroValue217
  t57 := Tryz.underlying221
  a57 := Tryz.isAgg221
  z57 := Tryz.sizeOf221
  v57 := Tryz.zeroValue221
  t63 := Tryz.underlying233
  a63 := Tryz.isAgg233
  z63 := Tryz.sizeOf233
  v63 := Tryz.zeroValue233
  t64 := Tryz.underlying234
  a64 := Tryz.isAgg234
  z64 := Tryz.sizeOf234
  v64 := Tryz.zeroValue234 }
open Go.Sort Go.RowKit in
theorem Tryz.slices_Sort_string (blk off cap : Nat) (ss : List (List UInt8)) (w : World) (hH : Holds encStr w blk off ss.toArray) (hblk : blk < w.heap.size) (hsz : ss.length < 4611686018427387904) :
    Calls Tryz.prog 102 #[.slice (some ⟨blk, off, none⟩) ss.length cap] w fun e w' =>
      e = .returned (.tuple #[]) ∧ ∃ n os, w' = grow (putRow encStr (Sort.ahead w n) blk off (ss.mergeSort fun x y => decide (x ≤ y)).toArray) os := AnyM.slices_Sort_string Tryz.laysSlM6_f102 blk off cap ss w hH hblk hsz
open Go.RowKit Go.Sort in
/-- .. and plain. (LAID AT THE INSTANCE 'slices.Sort[[]string,string]': no walk: one application.) -/
theorem Tryz.slices_Sort_string_none (p : Option Addr) (cap : Nat) (w : World) :
    Calls Tryz.prog 102 #[.slice p 0 cap] w fun e w' => e = .returned (.tuple #[]) ∧ w' = w := AnyM.slices_Sort_string_none Tryz.laysSlM6_f102 p cap w
end Go.Proofs
