/-
  DERIVED: THE SHELF's CONTRACTS AT THIS DUMP, IN PLAIN WORDS (tools/lay-plain.mjs out of 'TrydShelf.lean', which tools/lay-shelf.mjs wrote): THE SAME DECLARATIONS UNDER THE SAME NAMES: 'import', 'namespace', 'open', 'def', 'theorem' AND NOTHING ELSE: no command of the shelf's: FOR A HAND-IN. Each laying: the table of numbers ('.._ren') and one theorem, a field a fact of the dump's own or the kernel's comparison; each contract: ONE APPLICATION.
-/
import Derived.Shelf.Strings.Builder1
import Derived.Shelf.Strings.Trim
import Derived.Shelf.Small.Utf8
import Derived.Shelf.Small.Strs
import Derived.Shelf.Small.Wraps
import Derived.Shelf.Strconv.Itoa0
import Derived.Shelf.Strconv.ParseIntEmpty
import Derived.Shelf.LaysM
import Derived.Shelf.Strconv.Clone
import Derived.Shelf.Strconv.Lower
import Derived.Shelf.Strconv.ParseUint10Empty
import Derived.Shelf.Strconv.ParseUintEmpty
import Derived.Shelf.Strings.Search1
import Derived.Shelf.Strings.Search2
import Derived.Shelf.Strings.Search3
import Derived.Shelf.Strings.Cut
import Derived.Shelf.Strings.Count
import Derived.Shelf.Strings.Shaped
import Derived.Shelf.Strings.Prefix
import Derived.Shelf.Strings.Split
import Derived.Shelf.Strings.SplitShaped
import Derived.Shelf.Strings.Runes
import Derived.Shelf.Strings.AsciiSet
import Derived.Shelf.Unicode.DecodeSlow
import Derived.Ground.SlgfProg
import Derived.Shelf.SlicesE.IndexFunc
import Derived.Test.YtadhhknhfipihaaDoorProg
namespace Go.Proofs
open Go.Shelf
def Tryd.lays169_ren : Go.Shelf.Ren := ⟨fun | 169 => 132 | n => n, fun | 70 => 145 | 9 => 9 | 0 => 0 | 72 => 147 | 37 => 96 | 127 => 109 | 3 => 3 | 5 => 5 | n => n, fun | n => n⟩
theorem Tryd.lays169 : Go.Proofs.Lays.n169 Tryd.prog Tryd.lays169_ren := {
  mixed := by kernel_rfl
  f169 := Tryd.func132.trans (congrArg some (by kernel_rfl))
  t0 := Tryd.underlying0
  a0 := Tryd.isAgg0
  z0 := Tryd.sizeOf0
  v0 := Tryd.zeroValue0
  t3 := Tryd.underlying3
  a3 := Tryd.isAgg3
  z3 := Tryd.sizeOf3
  v3 := Tryd.zeroValue3
  t9 := Tryd.underlying9
  a9 := Tryd.isAgg9
  z9 := Tryd.sizeOf9
  v9 := Tryd.zeroValue9
  t37 := Tryd.underlying96
  a37 := Tryd.isAgg96
  z37 := Tryd.sizeOf96
  v37 := Tryd.zeroValue96
  t70 := Tryd.underlying145
  a70 := Tryd.isAgg145
  z70 := Tryd.sizeOf145
  v70 := Tryd.zeroValue145
  t72 := Tryd.underlying147
  a72 := Tryd.isAgg147
  z72 := Tryd.sizeOf147
  v72 := Tryd.zeroValue147
  t127 := Tryd.underlying109
  a127 := Tryd.isAgg109
  z127 := Tryd.sizeOf109
  v127 := Tryd.zeroValue109 }
theorem Tryd.Builder_Extra_169 : Builder.Extra Tryd.prog Tryd.lays169_ren := {
  sizeBuilder := by kernel_rfl
  liesBuilder := by kernel_rfl
  t5 := Tryd.underlying5
  a5 := Tryd.isAgg5
  z5 := Tryd.sizeOf5
  v5 := Tryd.zeroValue5
  infoByte := by kernel_rfl
  cellsByte := by kernel_rfl
  sizeByte := by kernel_rfl
  neB5 := by decide }
open Go.RowKit in
/-- (*strings.Builder).String: "String returns the accumulated string.": OF A BUILDER THAT HOLDS AT LEAST ONE BYTE. ✋ THE MODEL FREEZES THOSE BYTES IN THE BUFFER (unsafe.String): a later write INTO them ends the model's run without an answer; a later append BEHIND them goes on. The statement's order of evaluation is drawn: one draw. (LAID: no walk: one application.) -/
theorem Tryd.Builder_String (B b : Nat) (l : List UInt8) (w : World) (h : Lib.IsBuilder 147 5 B b (Lib.byteCells l) w) (h0 : l ≠ []) :
    Calls Tryd.prog 132 #[.pointer (some ⟨b, 0, none⟩)] w fun e w' => e = .returned (.string ⟨l.toArray⟩) ∧ Below B w w' := Any.Builder_String Tryd.lays169 Tryd.Builder_Extra_169 B b l w h h0
open Go.RowKit in
/-- (*strings.Builder).String OF A BUILDER THAT HOLDS NO BYTE: the empty string. (Its buffer is nil, or a row of which it has taken nothing yet; where that row has NO capacity the model lays one new block for unsafe.SliceData's 'some address'.) One draw. (LAID: no walk: one application.) -/
theorem Tryd.Builder_String_empty (B b : Nat) (w : World) (h : Lib.IsBuilder 147 5 B b [] w) (hBw : B ≤ w.heap.size) :
    Calls Tryd.prog 132 #[.pointer (some ⟨b, 0, none⟩)] w fun e w' => e = .returned (.string ⟨#[]⟩) ∧ Below B w w' := Any.Builder_String_empty Tryd.lays169 Tryd.Builder_Extra_169 B b w h hBw
open Go.RowKit in
/-- (*strings.Builder).String: "String returns the accumulated string.": WHATEVER THE BUILDER HOLDS. (LAID: no walk: one application.) -/
theorem Tryd.Builder_String_any (B b : Nat) (l : List UInt8) (w : World) (h : Lib.IsBuilder 147 5 B b (Lib.byteCells l) w) (hBw : B ≤ w.heap.size) :
    Calls Tryd.prog 132 #[.pointer (some ⟨b, 0, none⟩)] w fun e w' => e = .returned (.string ⟨l.toArray⟩) ∧ Below B w w' := Any.Builder_String_any Tryd.lays169 Tryd.Builder_Extra_169 B b l w h hBw
def Tryd.lays231_ren : Go.Shelf.Ren := ⟨fun | 231 => 25 | n => n, fun | 9 => 9 | 5 => 5 | 3 => 3 | 4 => 4 | n => n, fun | n => n⟩
theorem Tryd.lays231 : Go.Proofs.Lays.n231 Tryd.prog Tryd.lays231_ren := {
  mixed := by kernel_rfl
  f231 := Tryd.func25.trans (congrArg some (by kernel_rfl))
  t3 := Tryd.underlying3
  a3 := Tryd.isAgg3
  z3 := Tryd.sizeOf3
  v3 := Tryd.zeroValue3
  t4 := Tryd.underlying4
  a4 := Tryd.isAgg4
  z4 := Tryd.sizeOf4
  v4 := Tryd.zeroValue4
  t5 := Tryd.underlying5
  a5 := Tryd.isAgg5
  z5 := Tryd.sizeOf5
  v5 := Tryd.zeroValue5
  t9 := Tryd.underlying9
  a9 := Tryd.isAgg9
  z9 := Tryd.sizeOf9
  v9 := Tryd.zeroValue9 }
open Go.RowKit in
/-- strings.trimLeftByte (no doc; what TrimLeft and Trim call at a cutset of one ASCII byte): the leading bytes that are c are cut off. The world is as it was. (LAID: no walk: one application.) -/
theorem Tryd.strings_trimLeftByte (s : ByteArray) (c : UInt8) (w : World) :
    Calls Tryd.prog 25 #[.string s, .int .u8 c.toNat] w fun e w' => e = .returned (.string ⟨(Lib.trimLeftB s.data.toList c).toArray⟩) ∧ w' = w := Any.strings_trimLeftByte Tryd.lays231 s c w
def Tryd.lays232_ren : Go.Shelf.Ren := ⟨fun | 232 => 26 | n => n, fun | 9 => 9 | 5 => 5 | 3 => 3 | 4 => 4 | n => n, fun | n => n⟩
theorem Tryd.lays232 : Go.Proofs.Lays.n232 Tryd.prog Tryd.lays232_ren := {
  mixed := by kernel_rfl
  f232 := Tryd.func26.trans (congrArg some (by kernel_rfl))
  t3 := Tryd.underlying3
  a3 := Tryd.isAgg3
  z3 := Tryd.sizeOf3
  v3 := Tryd.zeroValue3
  t4 := Tryd.underlying4
  a4 := Tryd.isAgg4
  z4 := Tryd.sizeOf4
  v4 := Tryd.zeroValue4
  t5 := Tryd.underlying5
  a5 := Tryd.isAgg5
  z5 := Tryd.sizeOf5
  v5 := Tryd.zeroValue5
  t9 := Tryd.underlying9
  a9 := Tryd.isAgg9
  z9 := Tryd.sizeOf9
  v9 := Tryd.zeroValue9 }
open Go.RowKit in
/-- strings.trimRightByte (no doc; what TrimRight and Trim call at a cutset of one ASCII byte): the trailing bytes that are c are cut off. The world is as it was. ('hs': a string's length is a number that an int holds.) (LAID: no walk: one application.) -/
theorem Tryd.strings_trimRightByte (s : ByteArray) (c : UInt8) (w : World) (hs : s.size ≤ 9223372036854775807) :
    Calls Tryd.prog 26 #[.string s, .int .u8 c.toNat] w fun e w' => e = .returned (.string ⟨(Lib.trimRightB s.data.toList c).toArray⟩) ∧ w' = w := Any.strings_trimRightByte Tryd.lays232 s c w hs
def Tryd.lays160_ren : Go.Shelf.Ren := ⟨fun | 160 => 13 | 232 => 26 | 231 => 25 | 227 => 27 | 234 => 29 | 233 => 28 | 236 => 31 | 235 => 30 | 228 => 47 | 271 => 50 | 151 => 49 | 197 => 48 | 120 => 63 | 152 => 62 | 260 => 61 | 137 => 51 | 119 => 73 | 224 => 66 | 225 => 65 | 217 => 64 | 266 => 74 | n => n, fun | 9 => 9 | 4 => 4 | 3 => 3 | 5 => 5 | 117 => 59 | 116 => 58 | 0 => 0 | 124 => 62 | 21 => 21 | 105 => 77 | 46 => 88 | 119 => 101 | 139 => 104 | 138 => 103 | n => n, fun | 3 => 5 | 4 => 6 | n => n⟩
theorem Tryd.lays160 : Go.Proofs.Lays.n160 Tryd.prog Tryd.lays160_ren := {
  mixed := by kernel_rfl
  f119 := Tryd.func73.trans (congrArg some (by kernel_rfl))
  f120 := Tryd.func63.trans (congrArg some (by kernel_rfl))
  f137 := Tryd.func51.trans (congrArg some (by kernel_rfl))
  f151 := Tryd.func49.trans (congrArg some (by kernel_rfl))
  f152 := Tryd.func62.trans (congrArg some (by kernel_rfl))
  f160 := Tryd.func13.trans (congrArg some (by kernel_rfl))
  f197 := Tryd.func48.trans (congrArg some (by kernel_rfl))
  f217 := Tryd.func64.trans (congrArg some (by kernel_rfl))
  f224 := Tryd.func66.trans (congrArg some (by kernel_rfl))
  f225 := Tryd.func65.trans (congrArg some (by kernel_rfl))
  f227 := Tryd.func27.trans (congrArg some (by kernel_rfl))
  f228 := Tryd.func47.trans (congrArg some (by kernel_rfl))
  f231 := Tryd.func25.trans (congrArg some (by kernel_rfl))
  f232 := Tryd.func26.trans (congrArg some (by kernel_rfl))
  f233 := Tryd.func28.trans (congrArg some (by kernel_rfl))
  f234 := Tryd.func29.trans (congrArg some (by kernel_rfl))
  f235 := Tryd.func30.trans (congrArg some (by kernel_rfl))
  f236 := Tryd.func31.trans (congrArg some (by kernel_rfl))
  f260 := Tryd.func61.trans (congrArg some (by kernel_rfl))
  f266 := Tryd.func74.trans (congrArg some (by kernel_rfl))
  f271 := Tryd.func50.trans (congrArg some (by kernel_rfl))
  t0 := Tryd.underlying0
  a0 := Tryd.isAgg0
  z0 := Tryd.sizeOf0
  v0 := Tryd.zeroValue0
  t3 := Tryd.underlying3
  a3 := Tryd.isAgg3
  z3 := Tryd.sizeOf3
  v3 := Tryd.zeroValue3
  t4 := Tryd.underlying4
  a4 := Tryd.isAgg4
  z4 := Tryd.sizeOf4
  v4 := Tryd.zeroValue4
  t5 := Tryd.underlying5
  a5 := Tryd.isAgg5
  z5 := Tryd.sizeOf5
  v5 := Tryd.zeroValue5
  t9 := Tryd.underlying9
  a9 := Tryd.isAgg9
  z9 := Tryd.sizeOf9
  v9 := Tryd.zeroValue9
  t21 := Tryd.underlying21
  a21 := Tryd.isAgg21
  z21 := Tryd.sizeOf21
  v21 := Tryd.zeroValue21
  t46 := Tryd.underlying88
  a46 := Tryd.isAgg88
  z46 := Tryd.sizeOf88
  v46 := Tryd.zeroValue88
  t105 := Tryd.underlying77
  a105 := Tryd.isAgg77
  z105 := Tryd.sizeOf77
  v105 := Tryd.zeroValue77
  t116 := Tryd.underlying58
  a116 := Tryd.isAgg58
  z116 := Tryd.sizeOf58
  t117 := Tryd.underlying59
  a117 := Tryd.isAgg59
  z117 := Tryd.sizeOf59
  v117 := Tryd.zeroValue59
  t119 := Tryd.underlying101
  a119 := Tryd.isAgg101
  z119 := Tryd.sizeOf101
  t124 := Tryd.underlying62
  a124 := Tryd.isAgg62
  z124 := Tryd.sizeOf62
  v124 := Tryd.zeroValue62
  t138 := Tryd.underlying103
  a138 := Tryd.isAgg103
  z138 := Tryd.sizeOf103
  v138 := Tryd.zeroValue103
  t139 := Tryd.underlying104
  a139 := Tryd.isAgg104
  z139 := Tryd.sizeOf104
  v139 := Tryd.zeroValue104
  g3 := by kernel_rfl
  g4 := by kernel_rfl }
open Go.RowKit in
/-- strings.Trim: "Trim returns a slice of the string s with all leading and trailing Unicode code points contained in cutset removed.": AT A cutset OF ONE ASCII BYTE. THE WORLD BEHIND IT: as it was, or (where s is not empty) with ONE DRAW MORE off the tape: the statement 'return trimLeftByte(trimRightByte(s, c), c)' draws its order of evaluation. (LAID: no walk: one application.) -/
theorem Tryd.strings_Trim_one (s : ByteArray) (c : UInt8) (hc : c.toNat < 128) (w : World) (hs : s.size ≤ 9223372036854775807) :
    Calls Tryd.prog 13 #[.string s, .string ⟨#[c]⟩] w fun e w' => e = .returned (.string ⟨(Lib.trimB s.data.toList c).toArray⟩) ∧ (w' = w ∨ w' = w.drew) := Any.strings_Trim_one Tryd.lays160 s c hc w hs
def Tryd.lays119_ren : Go.Shelf.Ren := ⟨fun | 119 => 73 | n => n, fun | 21 => 21 | 4 => 4 | n => n, fun | n => n⟩
theorem Tryd.lays119 : Go.Proofs.Lays.n119 Tryd.prog Tryd.lays119_ren := {
  mixed := by kernel_rfl
  f119 := Tryd.func73.trans (congrArg some (by kernel_rfl))
  t4 := Tryd.underlying4
  a4 := Tryd.isAgg4
  z4 := Tryd.sizeOf4
  v4 := Tryd.zeroValue4
  t21 := Tryd.underlying21
  a21 := Tryd.isAgg21
  z21 := Tryd.sizeOf21
  v21 := Tryd.zeroValue21 }
/-- utf8.ValidRune: "ValidRune reports whether r can be legally encoded as UTF-8. Code points that are out of range or a surrogate half are illegal.": IT RETURNS 'Lib.validRune r'; the world is as it was. (LAID: no walk: one application.) -/
theorem Tryd.utf8_ValidRune (r : Int) (w : World) :
    Calls Tryd.prog 73 #[.int .i32 r] w fun e w' => e = .returned (.bool (Lib.validRune r)) ∧ w' = w := Any.utf8_ValidRune Tryd.lays119 r w
def Tryd.lays120_ren : Go.Shelf.Ren := ⟨fun | 120 => 63 | n => n, fun | 5 => 5 | 4 => 4 | n => n, fun | n => n⟩
theorem Tryd.lays120 : Go.Proofs.Lays.n120 Tryd.prog Tryd.lays120_ren := {
  mixed := by kernel_rfl
  f120 := Tryd.func63.trans (congrArg some (by kernel_rfl))
  t4 := Tryd.underlying4
  a4 := Tryd.isAgg4
  z4 := Tryd.sizeOf4
  v4 := Tryd.zeroValue4
  t5 := Tryd.underlying5
  a5 := Tryd.isAgg5
  z5 := Tryd.sizeOf5
  v5 := Tryd.zeroValue5 }
/-- utf8.RuneStart: "RuneStart reports whether the byte could be the first byte of an encoded, possibly invalid rune. Second and subsequent bytes always have the top two bits set to 10.": IT RETURNS 'Lib.runeStart b'; the world is as it was. ('h0', 'h1': b is a byte: a caller has it of every byte that it was handed.) (LAID: no walk: one application.) -/
theorem Tryd.utf8_RuneStart (b : Int) (w : World) (h0 : 0 ≤ b) (h1 : b < 256) :
    Calls Tryd.prog 63 #[.int .u8 b] w fun e w' => e = .returned (.bool (Lib.runeStart b)) ∧ w' = w := Any.utf8_RuneStart Tryd.lays120 b w h0 h1
def Tryd.lays137_ren : Go.Shelf.Ren := ⟨fun | 137 => 51 | 217 => 64 | 266 => 74 | n => n, fun | 9 => 9 | 5 => 5 | 3 => 3 | n => n, fun | n => n⟩
theorem Tryd.lays137 : Go.Proofs.Lays.n137 Tryd.prog Tryd.lays137_ren := {
  mixed := by kernel_rfl
  f137 := Tryd.func51.trans (congrArg some (by kernel_rfl))
  f217 := Tryd.func64.trans (congrArg some (by kernel_rfl))
  f266 := Tryd.func74.trans (congrArg some (by kernel_rfl))
  t3 := Tryd.underlying3
  a3 := Tryd.isAgg3
  z3 := Tryd.sizeOf3
  v3 := Tryd.zeroValue3
  t5 := Tryd.underlying5
  a5 := Tryd.isAgg5
  z5 := Tryd.sizeOf5
  v5 := Tryd.zeroValue5
  t9 := Tryd.underlying9
  a9 := Tryd.isAgg9
  z9 := Tryd.sizeOf9
  v9 := Tryd.zeroValue9 }
open Go.RowKit in
/-- strings.IndexByte: "IndexByte returns the index of the first instance of c in s, or -1 if c is not present in s.": IT RETURNS 'Lib.indexByte s c'; the world is as it was. (LAID: no walk: one application.) -/
theorem Tryd.strings_IndexByte (s : ByteArray) (c : Int) (w : World) :
    Calls Tryd.prog 51 #[.string s, .int .u8 c] w fun e w' => e = .returned (.int .i64 (Lib.indexByte s.data.toList c.toNat.toUInt8)) ∧ w' = w := Any.strings_IndexByte Tryd.lays137 s c w
def Tryd.lays210_ren : Go.Shelf.Ren := ⟨fun | 210 => 38 | 206 => 52 | n => n, fun | 9 => 9 | 4 => 4 | 3 => 3 | n => n, fun | n => n⟩
theorem Tryd.lays210 : Go.Proofs.Lays.n210 Tryd.prog Tryd.lays210_ren := {
  mixed := by kernel_rfl
  f206 := Tryd.func52.trans (congrArg some (by kernel_rfl))
  f210 := Tryd.func38.trans (congrArg some (by kernel_rfl))
  t3 := Tryd.underlying3
  a3 := Tryd.isAgg3
  z3 := Tryd.sizeOf3
  v3 := Tryd.zeroValue3
  t4 := Tryd.underlying4
  a4 := Tryd.isAgg4
  z4 := Tryd.sizeOf4
  v4 := Tryd.zeroValue4
  t9 := Tryd.underlying9
  a9 := Tryd.isAgg9
  z9 := Tryd.sizeOf9
  v9 := Tryd.zeroValue9 }
open Go.RowKit in
/-- internal/stringslite.CutPrefix (what strings.CutPrefix calls). (LAID: no walk: one application.) -/
theorem Tryd.stringslite_CutPrefix (s p : ByteArray) (w : World) :
    Calls Tryd.prog 38 #[.string s, .string p] w fun e w' => e = .returned (.tuple #[.string ⟨(Lib.trimPrefix s.data.toList p.data.toList).toArray⟩, .bool (Lib.hasPrefix s.data.toList p.data.toList)]) ∧ w' = w := Any.stringslite_CutPrefix Tryd.lays210 s p w
def Tryd.lays103_ren : Go.Shelf.Ren := ⟨fun | 103 => 18 | 210 => 38 | 206 => 52 | n => n, fun | 9 => 9 | 4 => 4 | 24 => 46 | 3 => 3 | n => n, fun | n => n⟩
theorem Tryd.lays103 : Go.Proofs.Lays.n103 Tryd.prog Tryd.lays103_ren := {
  mixed := by kernel_rfl
  f103 := Tryd.func18.trans (congrArg some (by kernel_rfl))
  f206 := Tryd.func52.trans (congrArg some (by kernel_rfl))
  f210 := Tryd.func38.trans (congrArg some (by kernel_rfl))
  t3 := Tryd.underlying3
  a3 := Tryd.isAgg3
  z3 := Tryd.sizeOf3
  v3 := Tryd.zeroValue3
  t4 := Tryd.underlying4
  a4 := Tryd.isAgg4
  z4 := Tryd.sizeOf4
  v4 := Tryd.zeroValue4
  t9 := Tryd.underlying9
  a9 := Tryd.isAgg9
  z9 := Tryd.sizeOf9
  v9 := Tryd.zeroValue9
  t24 := Tryd.underlying46
  a24 := Tryd.isAgg46
  z24 := Tryd.sizeOf46
  v24 := Tryd.zeroValue46 }
open Go.RowKit in
/-- strings.CutPrefix: "CutPrefix returns s without the provided leading prefix string and reports whether it found the prefix. If s doesn't start with prefix, CutPrefix returns s, false. If prefix is the empty string, CutPrefix returns s, true.": IT RETURNS '(Lib.trimPrefix s p, Lib.hasPrefix s p)'; the world is as it was. (LAID: no walk: one application.) -/
theorem Tryd.strings_CutPrefix (s p : ByteArray) (w : World) :
    Calls Tryd.prog 18 #[.string s, .string p] w fun e w' => e = .returned (.tuple #[.string ⟨(Lib.trimPrefix s.data.toList p.data.toList).toArray⟩, .bool (Lib.hasPrefix s.data.toList p.data.toList)]) ∧ w' = w := Any.strings_CutPrefix Tryd.lays103 s p w
def Tryd.lays129_ren : Go.Shelf.Ren := ⟨fun | 129 => 83 | n => n, fun | 53 => 85 | 3 => 3 | 4 => 4 | 46 => 88 | 5 => 5 | 9 => 9 | n => n, fun | n => n⟩
theorem Tryd.lays129 : Go.Proofs.Lays.n129 Tryd.prog Tryd.lays129_ren := {
  mixed := by kernel_rfl
  f129 := Tryd.func83.trans (congrArg some (by kernel_rfl))
  t3 := Tryd.underlying3
  a3 := Tryd.isAgg3
  z3 := Tryd.sizeOf3
  v3 := Tryd.zeroValue3
  t4 := Tryd.underlying4
  a4 := Tryd.isAgg4
  z4 := Tryd.sizeOf4
  v4 := Tryd.zeroValue4
  t5 := Tryd.underlying5
  a5 := Tryd.isAgg5
  z5 := Tryd.sizeOf5
  v5 := Tryd.zeroValue5
  t9 := Tryd.underlying9
  a9 := Tryd.isAgg9
  z9 := Tryd.sizeOf9
  v9 := Tryd.zeroValue9
  t46 := Tryd.underlying88
  a46 := Tryd.isAgg88
  z46 := Tryd.sizeOf88
  v46 := Tryd.zeroValue88
  t53 := Tryd.underlying85
  a53 := Tryd.isAgg85
  z53 := Tryd.sizeOf85
  v53 := Tryd.zeroValue85 }
/-- bits.Len64: "Len64 returns the minimum number of bits required to represent x; the result is 0 for x == 0.": IT RETURNS 'Lib.bitLen x'; the world is as it was. ('h0', 'h1': x is a uint64.) (LAID: no walk: one application.) -/
theorem Tryd.bits_Len64 (x : Int) (w : World) (h0 : 0 ≤ x) (h1 : x ≤ 18446744073709551615) :
    Calls Tryd.prog 83 #[.int .u64 x] w fun e w' => e = .returned (.int .i64 (Lib.bitLen x.toNat)) ∧ w' = w := Any.bits_Len64 Tryd.lays129 x w h0 h1
def Tryd.lays247_ren : Go.Shelf.Ren := ⟨fun | 247 => 40 | 287 => 54 | 321 => 68 | 322 => 69 | n => n, fun | 9 => 9 | 3 => 3 | 2 => 2 | 75 => 51 | 4 => 4 | 167 => 84 | 5 => 5 | 53 => 85 | 175 => 86 | 46 => 88 | 37 => 96 | 0 => 0 | 21 => 21 | 80 => 127 | n => n, fun | n => n⟩
theorem Tryd.lays247 : Go.Proofs.Lays.n247 Tryd.prog Tryd.lays247_ren := {
  mixed := by kernel_rfl
  f247 := Tryd.func40.trans (congrArg some (by kernel_rfl))
  f287 := Tryd.func54.trans (congrArg some (by kernel_rfl))
  f321 := Tryd.func68.trans (congrArg some (by kernel_rfl))
  f322 := Tryd.func69.trans (congrArg some (by kernel_rfl))
  t0 := Tryd.underlying0
  a0 := Tryd.isAgg0
  z0 := Tryd.sizeOf0
  v0 := Tryd.zeroValue0
  t2 := Tryd.underlying2
  a2 := Tryd.isAgg2
  z2 := Tryd.sizeOf2
  v2 := Tryd.zeroValue2
  t3 := Tryd.underlying3
  a3 := Tryd.isAgg3
  z3 := Tryd.sizeOf3
  v3 := Tryd.zeroValue3
  t4 := Tryd.underlying4
  a4 := Tryd.isAgg4
  z4 := Tryd.sizeOf4
  v4 := Tryd.zeroValue4
  t5 := Tryd.underlying5
  a5 := Tryd.isAgg5
  z5 := Tryd.sizeOf5
  v5 := Tryd.zeroValue5
  t9 := Tryd.underlying9
  a9 := Tryd.isAgg9
  z9 := Tryd.sizeOf9
  v9 := Tryd.zeroValue9
  t21 := Tryd.underlying21
  a21 := Tryd.isAgg21
  z21 := Tryd.sizeOf21
  v21 := Tryd.zeroValue21
  t37 := Tryd.underlying96
  a37 := Tryd.isAgg96
  z37 := Tryd.sizeOf96
  v37 := Tryd.zeroValue96
  t46 := Tryd.underlying88
  a46 := Tryd.isAgg88
  z46 := Tryd.sizeOf88
  v46 := Tryd.zeroValue88
  t53 := Tryd.underlying85
  a53 := Tryd.isAgg85
  z53 := Tryd.sizeOf85
  v53 := Tryd.zeroValue85
  t75 := Tryd.underlying51
  a75 := Tryd.isAgg51
  z75 := Tryd.sizeOf51
  v75 := Tryd.zeroValue51
  t167 := Tryd.underlying84
  a167 := Tryd.isAgg84
  z167 := Tryd.sizeOf84
  v167 := Tryd.zeroValue84
  t175 := Tryd.underlying86
  a175 := Tryd.isAgg86
  z175 := Tryd.sizeOf86
  v175 := Tryd.zeroValue86 }
open Go.RowKit in
/-- internal/strconv.ParseInt at "": 'if s == "" { return 0, ErrSyntax }'. The world is as it was. (LAID: no walk: one application.) -/
theorem Tryd.internal_strconv_ParseInt_empty (base bits : Int) (w : World) :
    Calls Tryd.prog 40 #[.string ⟨#[]⟩, .int .i64 base, .int .i64 bits] w fun e w' => e = .returned (.tuple #[.int .i64 0, (.iface 84 (.int .i64 2))]) ∧ w' = w := Any.internal_strconv_ParseInt_empty Tryd.lays247 base bits w
def Tryd.laysM316_ren : Go.Shelf.Ren := ⟨fun | 316 => 70 | n => n, fun | 9 => 9 | 3 => 3 | 4 => 4 | 37 => 96 | 0 => 0 | 127 => 109 | 5 => 5 | n => n, fun | n => n⟩
theorem Tryd.laysM316 : Go.Proofs.LaysM.n316 Tryd.prog Tryd.laysM316_ren := {
  mixed := by kernel_rfl
  f316 := Tryd.func70.trans (congrArg some (by kernel_rfl))
  t0 := Tryd.underlying0
  a0 := Tryd.isAgg0
  z0 := Tryd.sizeOf0
  v0 := Tryd.zeroValue0
  t3 := Tryd.underlying3
  a3 := Tryd.isAgg3
  z3 := Tryd.sizeOf3
  v3 := Tryd.zeroValue3
  t4 := Tryd.underlying4
  a4 := Tryd.isAgg4
  z4 := Tryd.sizeOf4
  v4 := Tryd.zeroValue4
  t9 := Tryd.underlying9
  a9 := Tryd.isAgg9
  z9 := Tryd.sizeOf9
  v9 := Tryd.zeroValue9
  t37 := Tryd.underlying96
  a37 := Tryd.isAgg96
  z37 := Tryd.sizeOf96
  v37 := Tryd.zeroValue96
  t127 := Tryd.underlying109
  a127 := Tryd.isAgg109
  z127 := Tryd.sizeOf109
  v127 := Tryd.zeroValue109
  t5 := Tryd.underlying5
  a5 := Tryd.isAgg5
  z5 := Tryd.sizeOf5
  v5 := Tryd.zeroValue5
  i0 := by kernel_rfl
  i3 := by kernel_rfl
  i4 := by kernel_rfl
  i5 := by kernel_rfl
  i9 := by kernel_rfl
  i37 := by kernel_rfl
  i127 := by kernel_rfl }
open Go.RowKit in
/-- internal/stringslite.Clone (what strings.Clone calls): "Clone returns a fresh copy of s.": THE SAME BYTES. Of what was there nothing has turned (a new row is laid, and frozen, where s is not empty). (LAID: no walk: one application.) -/
theorem Tryd.stringslite_Clone (s : ByteArray) (w : World) (hlim : s.size ≤ 281474976710656) :
    Calls Tryd.prog 70 #[.string s] w fun e w' => e = .returned (.string s) ∧ Below w.heap.size w w' := Any.stringslite_Clone Tryd.laysM316 s w hlim
def Tryd.lays321_ren : Go.Shelf.Ren := ⟨fun | 321 => 68 | n => n, fun | 5 => 5 | n => n, fun | n => n⟩
theorem Tryd.lays321 : Go.Proofs.Lays.n321 Tryd.prog Tryd.lays321_ren := {
  mixed := by kernel_rfl
  f321 := Tryd.func68.trans (congrArg some (by kernel_rfl))
  t5 := Tryd.underlying5
  a5 := Tryd.isAgg5
  z5 := Tryd.sizeOf5
  v5 := Tryd.zeroValue5 }
open Go.RowKit in
/-- internal/strconv.lower: 'c | ('x' - 'X')': the bit 32 set. The world is as it was. (LAID: no walk: one application.) -/
theorem Tryd.internal_strconv_lower (c : Int) (w : World) :
    Calls Tryd.prog 68 #[.int .u8 c] w fun e w' => e = .returned (.int .u8 (bits .or .u8 c 32)) ∧ w' = w := Any.internal_strconv_lower Tryd.lays321 c w
def Tryd.lays287_ren : Go.Shelf.Ren := ⟨fun | 287 => 54 | 321 => 68 | 322 => 69 | n => n, fun | 9 => 9 | 3 => 3 | 53 => 85 | 75 => 51 | 4 => 4 | 167 => 84 | 5 => 5 | 46 => 88 | 37 => 96 | 0 => 0 | 21 => 21 | 80 => 127 | n => n, fun | n => n⟩
theorem Tryd.lays287 : Go.Proofs.Lays.n287 Tryd.prog Tryd.lays287_ren := {
  mixed := by kernel_rfl
  f287 := Tryd.func54.trans (congrArg some (by kernel_rfl))
  f321 := Tryd.func68.trans (congrArg some (by kernel_rfl))
  f322 := Tryd.func69.trans (congrArg some (by kernel_rfl))
  t0 := Tryd.underlying0
  a0 := Tryd.isAgg0
  z0 := Tryd.sizeOf0
  v0 := Tryd.zeroValue0
  t3 := Tryd.underlying3
  a3 := Tryd.isAgg3
  z3 := Tryd.sizeOf3
  v3 := Tryd.zeroValue3
  t4 := Tryd.underlying4
  a4 := Tryd.isAgg4
  z4 := Tryd.sizeOf4
  v4 := Tryd.zeroValue4
  t5 := Tryd.underlying5
  a5 := Tryd.isAgg5
  z5 := Tryd.sizeOf5
  v5 := Tryd.zeroValue5
  t9 := Tryd.underlying9
  a9 := Tryd.isAgg9
  z9 := Tryd.sizeOf9
  v9 := Tryd.zeroValue9
  t21 := Tryd.underlying21
  a21 := Tryd.isAgg21
  z21 := Tryd.sizeOf21
  v21 := Tryd.zeroValue21
  t37 := Tryd.underlying96
  a37 := Tryd.isAgg96
  z37 := Tryd.sizeOf96
  v37 := Tryd.zeroValue96
  t46 := Tryd.underlying88
  a46 := Tryd.isAgg88
  z46 := Tryd.sizeOf88
  v46 := Tryd.zeroValue88
  t53 := Tryd.underlying85
  a53 := Tryd.isAgg85
  z53 := Tryd.sizeOf85
  v53 := Tryd.zeroValue85
  t75 := Tryd.underlying51
  a75 := Tryd.isAgg51
  z75 := Tryd.sizeOf51
  v75 := Tryd.zeroValue51
  t167 := Tryd.underlying84
  a167 := Tryd.isAgg84
  z167 := Tryd.sizeOf84
  v167 := Tryd.zeroValue84 }
open Go.RowKit in
/-- internal/strconv.ParseUint("", 10, 0): (0, ErrSyntax). The world is as it was. (LAID: no walk: one application.) -/
theorem Tryd.internal_strconv_ParseUint_10_empty (w : World) :
    Calls Tryd.prog 54 #[.string ⟨#[]⟩, .int .i64 10, .int .i64 0] w fun e w' => e = .returned (Lib.uintTuple 84 .syntax) ∧ w' = w := Any.internal_strconv_ParseUint_10_empty Tryd.lays287 w
open Go.RowKit in
/-- internal/strconv.ParseUint("", base, bitSize): (0, ErrSyntax): the first test of the text. The world is as it was. (LAID: no walk: one application.) -/
theorem Tryd.internal_strconv_ParseUint_empty (base bits : Int) (w : World) :
    Calls Tryd.prog 54 #[.string ⟨#[]⟩, .int .i64 base, .int .i64 bits] w fun e w' => e = .returned (.tuple #[.int .u64 0, .iface 84 (.int .i64 2)]) ∧ w' = w := Any.internal_strconv_ParseUint_empty Tryd.lays287 base bits w
def Tryd.lays217_ren : Go.Shelf.Ren := ⟨fun | 217 => 64 | 266 => 74 | n => n, fun | 9 => 9 | 5 => 5 | 3 => 3 | n => n, fun | n => n⟩
theorem Tryd.lays217 : Go.Proofs.Lays.n217 Tryd.prog Tryd.lays217_ren := {
  mixed := by kernel_rfl
  f217 := Tryd.func64.trans (congrArg some (by kernel_rfl))
  f266 := Tryd.func74.trans (congrArg some (by kernel_rfl))
  t3 := Tryd.underlying3
  a3 := Tryd.isAgg3
  z3 := Tryd.sizeOf3
  v3 := Tryd.zeroValue3
  t5 := Tryd.underlying5
  a5 := Tryd.isAgg5
  z5 := Tryd.sizeOf5
  v5 := Tryd.zeroValue5
  t9 := Tryd.underlying9
  a9 := Tryd.isAgg9
  z9 := Tryd.sizeOf9
  v9 := Tryd.zeroValue9 }
open Go.RowKit Go.Lib in
/-- internal/stringslite.IndexByte (what strings.IndexByte calls): IT RETURNS 'Lib.indexByte s c'; the world is as it was. (LAID: no walk: one application.) -/
theorem Tryd.stringslite_IndexByte (s : ByteArray) (c : Int) (w : World) :
    Calls Tryd.prog 64 #[.string s, .int .u8 c] w fun e w' => e = .returned (.int .i64 (Lib.indexByte s.data.toList c.toNat.toUInt8)) ∧ w' = w := Any.stringslite_IndexByte Tryd.lays217 s c w
def Tryd.lays224_ren : Go.Shelf.Ren := ⟨fun | 224 => 66 | n => n, fun | 3 => 3 | n => n, fun | n => n⟩
theorem Tryd.lays224 : Go.Proofs.Lays.n224 Tryd.prog Tryd.lays224_ren := {
  mixed := by kernel_rfl
  f224 := Tryd.func66.trans (congrArg some (by kernel_rfl))
  t3 := Tryd.underlying3
  a3 := Tryd.isAgg3
  z3 := Tryd.sizeOf3
  v3 := Tryd.zeroValue3 }
open Go.RowKit Go.Lib in
/-- internal/bytealg.Cutover: "Cutover reports the number of failures of IndexByte we should tolerate before switching over to Index. n is the number of bytes processed so far.": on amd64: (n + 16) / 8. (LAID: no walk: one application.) -/
theorem Tryd.bytealg_Cutover (n : Int) (h0 : 0 ≤ n) (h1 : n < 4611686018427387904) (w : World) :
    Calls Tryd.prog 66 #[.int .i64 n] w fun e w' => e = .returned (.int .i64 ((n + 16) / 8)) ∧ w' = w := Any.bytealg_Cutover Tryd.lays224 n h0 h1 w
def Tryd.lays314_ren : Go.Shelf.Ren := ⟨fun | 314 => 75 | n => n, fun | 9 => 9 | 51 => 106 | 3 => 3 | 4 => 4 | 5 => 5 | 46 => 88 | n => n, fun | n => n⟩
theorem Tryd.lays314 : Go.Proofs.Lays.n314 Tryd.prog Tryd.lays314_ren := {
  mixed := by kernel_rfl
  f314 := Tryd.func75.trans (congrArg some (by kernel_rfl))
  t3 := Tryd.underlying3
  a3 := Tryd.isAgg3
  z3 := Tryd.sizeOf3
  v3 := Tryd.zeroValue3
  t4 := Tryd.underlying4
  a4 := Tryd.isAgg4
  z4 := Tryd.sizeOf4
  v4 := Tryd.zeroValue4
  t5 := Tryd.underlying5
  a5 := Tryd.isAgg5
  z5 := Tryd.sizeOf5
  v5 := Tryd.zeroValue5
  t9 := Tryd.underlying9
  a9 := Tryd.isAgg9
  z9 := Tryd.sizeOf9
  v9 := Tryd.zeroValue9
  t46 := Tryd.underlying88
  a46 := Tryd.isAgg88
  z46 := Tryd.sizeOf88
  v46 := Tryd.zeroValue88
  t51 := Tryd.underlying106
  a51 := Tryd.isAgg106
  z51 := Tryd.sizeOf106
  v51 := Tryd.zeroValue106 }
open Go.RowKit Go.Lib in
/-- hashStr: "returns the hash and the appropriate multiplicative factor for use in Rabin-Karp algorithm": THE HASH OF ALL OF sep, AND 16777619 ^ len(sep), both in uint32. (LAID: no walk: one application.) -/
theorem Tryd.bytealg_hashStr (sep : ByteArray) (hs : sep.size < 4294967281) (w : World) :
    Calls Tryd.prog 75 #[.string sep] w fun e w' => e = .returned (.tuple #[.int .u32 (RK.H sep.data.toList % 4294967296), .int .u32 (16777619 ^ sep.size % 4294967296)]) ∧ w' = w := Any.bytealg_hashStr Tryd.lays314 sep hs w
def Tryd.lays267_ren : Go.Shelf.Ren := ⟨fun | 267 => 67 | 314 => 75 | n => n, fun | 9 => 9 | 3 => 3 | 146 => 107 | 51 => 106 | 4 => 4 | 5 => 5 | 46 => 88 | n => n, fun | n => n⟩
theorem Tryd.lays267 : Go.Proofs.Lays.n267 Tryd.prog Tryd.lays267_ren := {
  mixed := by kernel_rfl
  f267 := Tryd.func67.trans (congrArg some (by kernel_rfl))
  f314 := Tryd.func75.trans (congrArg some (by kernel_rfl))
  t3 := Tryd.underlying3
  a3 := Tryd.isAgg3
  z3 := Tryd.sizeOf3
  v3 := Tryd.zeroValue3
  t4 := Tryd.underlying4
  a4 := Tryd.isAgg4
  z4 := Tryd.sizeOf4
  v4 := Tryd.zeroValue4
  t5 := Tryd.underlying5
  a5 := Tryd.isAgg5
  z5 := Tryd.sizeOf5
  v5 := Tryd.zeroValue5
  t9 := Tryd.underlying9
  a9 := Tryd.isAgg9
  z9 := Tryd.sizeOf9
  v9 := Tryd.zeroValue9
  t46 := Tryd.underlying88
  a46 := Tryd.isAgg88
  z46 := Tryd.sizeOf88
  v46 := Tryd.zeroValue88
  t51 := Tryd.underlying106
  a51 := Tryd.isAgg106
  z51 := Tryd.sizeOf106
  v51 := Tryd.zeroValue106
  t146 := Tryd.underlying107
  a146 := Tryd.isAgg107
  z146 := Tryd.sizeOf107
  v146 := Tryd.zeroValue107 }
open Go.RowKit Go.Lib in
theorem Tryd.bytealg_IndexRabinKarp (s sep : ByteArray) (h1 : 1 ≤ sep.size) (h2 : sep.size ≤ s.size) (hs : s.size < 4294967281) (w : World) :
    Calls Tryd.prog 67 #[.string s, .string sep] w fun e w' => e = .returned (.int .i64 (Lib.index s.data.toList sep.data.toList)) ∧ w' = w := Any.bytealg_IndexRabinKarp Tryd.lays267 s sep h1 h2 hs w
def Tryd.lays219_ren : Go.Shelf.Ren := ⟨fun | 219 => 53 | 217 => 64 | 225 => 65 | 224 => 66 | 267 => 67 | 266 => 74 | 314 => 75 | n => n, fun | 9 => 9 | 3 => 3 | 4 => 4 | 5 => 5 | 46 => 88 | 146 => 107 | 51 => 106 | n => n, fun | 1 => 2 | n => n⟩
theorem Tryd.lays219 : Go.Proofs.Lays.n219 Tryd.prog Tryd.lays219_ren := {
  mixed := by kernel_rfl
  f217 := Tryd.func64.trans (congrArg some (by kernel_rfl))
  f219 := Tryd.func53.trans (congrArg some (by kernel_rfl))
  f224 := Tryd.func66.trans (congrArg some (by kernel_rfl))
  f225 := Tryd.func65.trans (congrArg some (by kernel_rfl))
  f266 := Tryd.func74.trans (congrArg some (by kernel_rfl))
  f267 := Tryd.func67.trans (congrArg some (by kernel_rfl))
  f314 := Tryd.func75.trans (congrArg some (by kernel_rfl))
  t3 := Tryd.underlying3
  a3 := Tryd.isAgg3
  z3 := Tryd.sizeOf3
  v3 := Tryd.zeroValue3
  t4 := Tryd.underlying4
  a4 := Tryd.isAgg4
  z4 := Tryd.sizeOf4
  v4 := Tryd.zeroValue4
  t5 := Tryd.underlying5
  a5 := Tryd.isAgg5
  z5 := Tryd.sizeOf5
  v5 := Tryd.zeroValue5
  t9 := Tryd.underlying9
  a9 := Tryd.isAgg9
  z9 := Tryd.sizeOf9
  v9 := Tryd.zeroValue9
  t46 := Tryd.underlying88
  a46 := Tryd.isAgg88
  z46 := Tryd.sizeOf88
  v46 := Tryd.zeroValue88
  t51 := Tryd.underlying106
  a51 := Tryd.isAgg106
  z51 := Tryd.sizeOf106
  v51 := Tryd.zeroValue106
  t146 := Tryd.underlying107
  a146 := Tryd.isAgg107
  z146 := Tryd.sizeOf107
  v146 := Tryd.zeroValue107
  g1 := by kernel_rfl }
open Go.RowKit Go.Lib in
/-- internal/stringslite.Index (what strings.Index calls) AT A substr OF ONE BYTE c: IT RETURNS 'Lib.indexByte s c'; the world is as it was. (LAID: no walk: one application.) -/
theorem Tryd.stringslite_Index_one (s : ByteArray) (c : UInt8) (w : World) :
    Calls Tryd.prog 53 #[.string s, .string ⟨#[c]⟩] w fun e w' => e = .returned (.int .i64 (Lib.indexByte s.data.toList c)) ∧ w' = w := Any.stringslite_Index_one Tryd.lays219 s c w
open Go.RowKit Go.Lib in
/-- internal/stringslite.Index (what strings.Index calls) AT A substr OF WHATEVER LENGTH: IT RETURNS 'Lib.index s substr'; the world is as it was. 'm': what internal/bytealg.MaxLen holds: whatever. (LAID: no walk: one application.) -/
theorem Tryd.stringslite_Index (s sub : ByteArray) (m : Int) (w : World) (hs : s.size < 4294967281) (hm : w.cell? ⟨2, 0, none⟩ = some (.int .i64 m)) :
    Calls Tryd.prog 53 #[.string s, .string sub] w fun e w' => e = .returned (.int .i64 (Lib.index s.data.toList sub.data.toList)) ∧ w' = w := Any.stringslite_Index Tryd.lays219 s sub m w hs hm
def Tryd.lays143_ren : Go.Shelf.Ren := ⟨fun | 143 => 45 | 219 => 53 | 217 => 64 | 225 => 65 | 224 => 66 | 267 => 67 | 266 => 74 | 314 => 75 | n => n, fun | 9 => 9 | 3 => 3 | 4 => 4 | 5 => 5 | 46 => 88 | 146 => 107 | 51 => 106 | n => n, fun | 1 => 2 | n => n⟩
theorem Tryd.lays143 : Go.Proofs.Lays.n143 Tryd.prog Tryd.lays143_ren := {
  mixed := by kernel_rfl
  f143 := Tryd.func45.trans (congrArg some (by kernel_rfl))
  f217 := Tryd.func64.trans (congrArg some (by kernel_rfl))
  f219 := Tryd.func53.trans (congrArg some (by kernel_rfl))
  f224 := Tryd.func66.trans (congrArg some (by kernel_rfl))
  f225 := Tryd.func65.trans (congrArg some (by kernel_rfl))
  f266 := Tryd.func74.trans (congrArg some (by kernel_rfl))
  f267 := Tryd.func67.trans (congrArg some (by kernel_rfl))
  f314 := Tryd.func75.trans (congrArg some (by kernel_rfl))
  t3 := Tryd.underlying3
  a3 := Tryd.isAgg3
  z3 := Tryd.sizeOf3
  v3 := Tryd.zeroValue3
  t4 := Tryd.underlying4
  a4 := Tryd.isAgg4
  z4 := Tryd.sizeOf4
  v4 := Tryd.zeroValue4
  t5 := Tryd.underlying5
  a5 := Tryd.isAgg5
  z5 := Tryd.sizeOf5
  v5 := Tryd.zeroValue5
  t9 := Tryd.underlying9
  a9 := Tryd.isAgg9
  z9 := Tryd.sizeOf9
  v9 := Tryd.zeroValue9
  t46 := Tryd.underlying88
  a46 := Tryd.isAgg88
  z46 := Tryd.sizeOf88
  v46 := Tryd.zeroValue88
  t51 := Tryd.underlying106
  a51 := Tryd.isAgg106
  z51 := Tryd.sizeOf106
  v51 := Tryd.zeroValue106
  t146 := Tryd.underlying107
  a146 := Tryd.isAgg107
  z146 := Tryd.sizeOf107
  v146 := Tryd.zeroValue107
  g1 := by kernel_rfl }
open Go.RowKit Go.Lib in
/-- strings.Index: "Index returns the index of the first instance of substr in s, or -1 if substr is not present in s.": AT A substr OF ONE BYTE c: IT RETURNS 'Lib.indexByte s c'; the world is as it was. (LAID: no walk: one application.) -/
theorem Tryd.strings_Index_one (s : ByteArray) (c : UInt8) (w : World) :
    Calls Tryd.prog 45 #[.string s, .string ⟨#[c]⟩] w fun e w' => e = .returned (.int .i64 (Lib.indexByte s.data.toList c)) ∧ w' = w := Any.strings_Index_one Tryd.lays143 s c w
open Go.RowKit Go.Lib in
/-- strings.Index: "Index returns the index of the first instance of substr in s, or -1 if substr is not present in s.": IT RETURNS 'Lib.index s substr'; the world is as it was. (LAID: no walk: one application.) -/
theorem Tryd.strings_Index (s sub : ByteArray) (m : Int) (w : World) (hs : s.size < 4294967281) (hm : w.cell? ⟨2, 0, none⟩ = some (.int .i64 m)) :
    Calls Tryd.prog 45 #[.string s, .string sub] w fun e w' => e = .returned (.int .i64 (Lib.index s.data.toList sub.data.toList)) ∧ w' = w := Any.strings_Index Tryd.lays143 s sub m w hs hm
def Tryd.lays220_ren : Go.Shelf.Ren := ⟨fun | 220 => 39 | 219 => 53 | 217 => 64 | 225 => 65 | 224 => 66 | 267 => 67 | 266 => 74 | 314 => 75 | n => n, fun | 9 => 9 | 4 => 4 | 3 => 3 | 5 => 5 | 46 => 88 | 146 => 107 | 51 => 106 | n => n, fun | 1 => 2 | n => n⟩
theorem Tryd.lays220 : Go.Proofs.Lays.n220 Tryd.prog Tryd.lays220_ren := {
  mixed := by kernel_rfl
  f217 := Tryd.func64.trans (congrArg some (by kernel_rfl))
  f219 := Tryd.func53.trans (congrArg some (by kernel_rfl))
  f220 := Tryd.func39.trans (congrArg some (by kernel_rfl))
  f224 := Tryd.func66.trans (congrArg some (by kernel_rfl))
  f225 := Tryd.func65.trans (congrArg some (by kernel_rfl))
  f266 := Tryd.func74.trans (congrArg some (by kernel_rfl))
  f267 := Tryd.func67.trans (congrArg some (by kernel_rfl))
  f314 := Tryd.func75.trans (congrArg some (by kernel_rfl))
  t3 := Tryd.underlying3
  a3 := Tryd.isAgg3
  z3 := Tryd.sizeOf3
  v3 := Tryd.zeroValue3
  t4 := Tryd.underlying4
  a4 := Tryd.isAgg4
  z4 := Tryd.sizeOf4
  v4 := Tryd.zeroValue4
  t5 := Tryd.underlying5
  a5 := Tryd.isAgg5
  z5 := Tryd.sizeOf5
  v5 := Tryd.zeroValue5
  t9 := Tryd.underlying9
  a9 := Tryd.isAgg9
  z9 := Tryd.sizeOf9
  v9 := Tryd.zeroValue9
  t46 := Tryd.underlying88
  a46 := Tryd.isAgg88
  z46 := Tryd.sizeOf88
  v46 := Tryd.zeroValue88
  t51 := Tryd.underlying106
  a51 := Tryd.isAgg106
  z51 := Tryd.sizeOf106
  v51 := Tryd.zeroValue106
  t146 := Tryd.underlying107
  a146 := Tryd.isAgg107
  z146 := Tryd.sizeOf107
  v146 := Tryd.zeroValue107
  g1 := by kernel_rfl }
open Go.RowKit Go.Lib in
/-- internal/stringslite.Cut (what strings.Cut calls): IT RETURNS 'Lib.cut s sep'; the world is as it was but for the count of draws. (LAID: no walk: one application.) -/
theorem Tryd.stringslite_Cut (s sep : ByteArray) (m : Int) (w : World) (hs : s.size < 4294967281) (hm : w.cell? ⟨2, 0, none⟩ = some (.int .i64 m)) :
    Calls Tryd.prog 39 #[.string s, .string sep] w fun e w' => e = .returned (.tuple #[.string ⟨(Lib.cut s.data.toList sep.data.toList).1.toArray⟩, .string ⟨(Lib.cut s.data.toList sep.data.toList).2.1.toArray⟩, .bool (Lib.cut s.data.toList sep.data.toList).2.2]) ∧ ∃ n, w' = w.drewN n := Any.stringslite_Cut Tryd.lays220 s sep m w hs hm
def Tryd.lays145_ren : Go.Shelf.Ren := ⟨fun | 145 => 19 | 220 => 39 | 219 => 53 | 217 => 64 | 225 => 65 | 224 => 66 | 267 => 67 | 266 => 74 | 314 => 75 | n => n, fun | 9 => 9 | 4 => 4 | 59 => 48 | 3 => 3 | 5 => 5 | 46 => 88 | 146 => 107 | 51 => 106 | n => n, fun | 1 => 2 | n => n⟩
theorem Tryd.lays145 : Go.Proofs.Lays.n145 Tryd.prog Tryd.lays145_ren := {
  mixed := by kernel_rfl
  f145 := Tryd.func19.trans (congrArg some (by kernel_rfl))
  f217 := Tryd.func64.trans (congrArg some (by kernel_rfl))
  f219 := Tryd.func53.trans (congrArg some (by kernel_rfl))
  f220 := Tryd.func39.trans (congrArg some (by kernel_rfl))
  f224 := Tryd.func66.trans (congrArg some (by kernel_rfl))
  f225 := Tryd.func65.trans (congrArg some (by kernel_rfl))
  f266 := Tryd.func74.trans (congrArg some (by kernel_rfl))
  f267 := Tryd.func67.trans (congrArg some (by kernel_rfl))
  f314 := Tryd.func75.trans (congrArg some (by kernel_rfl))
  t3 := Tryd.underlying3
  a3 := Tryd.isAgg3
  z3 := Tryd.sizeOf3
  v3 := Tryd.zeroValue3
  t4 := Tryd.underlying4
  a4 := Tryd.isAgg4
  z4 := Tryd.sizeOf4
  v4 := Tryd.zeroValue4
  t5 := Tryd.underlying5
  a5 := Tryd.isAgg5
  z5 := Tryd.sizeOf5
  v5 := Tryd.zeroValue5
  t9 := Tryd.underlying9
  a9 := Tryd.isAgg9
  z9 := Tryd.sizeOf9
  v9 := Tryd.zeroValue9
  t46 := Tryd.underlying88
  a46 := Tryd.isAgg88
  z46 := Tryd.sizeOf88
  v46 := Tryd.zeroValue88
  t51 := Tryd.underlying106
  a51 := Tryd.isAgg106
  z51 := Tryd.sizeOf106
  v51 := Tryd.zeroValue106
  t59 := Tryd.underlying48
  a59 := Tryd.isAgg48
  z59 := Tryd.sizeOf48
  v59 := Tryd.zeroValue48
  t146 := Tryd.underlying107
  a146 := Tryd.isAgg107
  z146 := Tryd.sizeOf107
  v146 := Tryd.zeroValue107
  g1 := by kernel_rfl }
open Go.RowKit Go.Lib in
/-- strings.Cut: "Cut slices s around the first instance of sep, returning the text before and after sep. The found result reports whether sep appears in s. If sep does not appear in s, cut returns s, "", false.": IT RETURNS 'Lib.cut s sep'; the world is as it was but for the count of draws. (LAID: no walk: one application.) -/
theorem Tryd.strings_Cut (s sep : ByteArray) (m : Int) (w : World) (hs : s.size < 4294967281) (hm : w.cell? ⟨2, 0, none⟩ = some (.int .i64 m)) :
    Calls Tryd.prog 19 #[.string s, .string sep] w fun e w' => e = .returned (.tuple #[.string ⟨(Lib.cut s.data.toList sep.data.toList).1.toArray⟩, .string ⟨(Lib.cut s.data.toList sep.data.toList).2.1.toArray⟩, .bool (Lib.cut s.data.toList sep.data.toList).2.2]) ∧ ∃ n, w' = w.drewN n := Any.strings_Cut Tryd.lays145 s sep m w hs hm
def Tryd.lays138_ren : Go.Shelf.Ren := ⟨fun | 138 => 44 | 195 => 59 | 218 => 60 | 143 => 45 | 219 => 53 | 217 => 64 | 225 => 65 | 224 => 66 | 267 => 67 | 266 => 74 | 314 => 75 | n => n, fun | 9 => 9 | 3 => 3 | 4 => 4 | 5 => 5 | 0 => 0 | 46 => 88 | 146 => 107 | 51 => 106 | n => n, fun | 1 => 2 | n => n⟩
theorem Tryd.lays138 : Go.Proofs.Lays.n138 Tryd.prog Tryd.lays138_ren := {
  mixed := by kernel_rfl
  f138 := Tryd.func44.trans (congrArg some (by kernel_rfl))
  f143 := Tryd.func45.trans (congrArg some (by kernel_rfl))
  f195 := Tryd.func59.trans (congrArg some (by kernel_rfl))
  f217 := Tryd.func64.trans (congrArg some (by kernel_rfl))
  f218 := Tryd.func60.trans (congrArg some (by kernel_rfl))
  f219 := Tryd.func53.trans (congrArg some (by kernel_rfl))
  f224 := Tryd.func66.trans (congrArg some (by kernel_rfl))
  f225 := Tryd.func65.trans (congrArg some (by kernel_rfl))
  f266 := Tryd.func74.trans (congrArg some (by kernel_rfl))
  f267 := Tryd.func67.trans (congrArg some (by kernel_rfl))
  f314 := Tryd.func75.trans (congrArg some (by kernel_rfl))
  t0 := Tryd.underlying0
  a0 := Tryd.isAgg0
  z0 := Tryd.sizeOf0
  v0 := Tryd.zeroValue0
  t3 := Tryd.underlying3
  a3 := Tryd.isAgg3
  z3 := Tryd.sizeOf3
  v3 := Tryd.zeroValue3
  t4 := Tryd.underlying4
  a4 := Tryd.isAgg4
  z4 := Tryd.sizeOf4
  v4 := Tryd.zeroValue4
  t5 := Tryd.underlying5
  a5 := Tryd.isAgg5
  z5 := Tryd.sizeOf5
  v5 := Tryd.zeroValue5
  t9 := Tryd.underlying9
  a9 := Tryd.isAgg9
  z9 := Tryd.sizeOf9
  v9 := Tryd.zeroValue9
  t46 := Tryd.underlying88
  a46 := Tryd.isAgg88
  z46 := Tryd.sizeOf88
  v46 := Tryd.zeroValue88
  t51 := Tryd.underlying106
  a51 := Tryd.isAgg106
  z51 := Tryd.sizeOf106
  v51 := Tryd.zeroValue106
  t146 := Tryd.underlying107
  a146 := Tryd.isAgg107
  z146 := Tryd.sizeOf107
  v146 := Tryd.zeroValue107
  g1 := by kernel_rfl }
open Go.RowKit Go.Lib in
/-- strings.Count AT A substr OF ONE BYTE ('hp'): "Count counts the number of non-overlapping instances of substr in s.": IT RETURNS 'Lib.countByte s (that byte)'; the world is as it was. ✋ NO CONTRACT HERE YET at an empty substr (utf8.RuneCountInString) or at a longer one (a loop over strings.Index). (LAID: no walk: one application.) -/
theorem Tryd.strings_Count_one (s : ByteArray) (c : UInt8) (w : World) :
    Calls Tryd.prog 44 #[.string s, .string ⟨#[c]⟩] w fun e w' => e = .returned (.int .i64 (Lib.countByte s.data.toList c)) ∧ w' = w := Any.strings_Count_one Tryd.lays138 s c w
open Go.RowKit Go.Lib in
/-- strings.Count AT A substr OF TWO BYTES OR MORE: "Count counts the number of non-overlapping instances of substr in s.": IT RETURNS 'Lib.count s substr'; the world is as it was. (LAID: no walk: one application.) -/
theorem Tryd.strings_Count (s sub : ByteArray) (m : Int) (w : World) (hs : s.size < 4294967281) (hm : w.cell? ⟨2, 0, none⟩ = some (.int .i64 m)) (h2 : 2 ≤ sub.size) :
    Calls Tryd.prog 44 #[.string s, .string sub] w fun e w' => e = .returned (.int .i64 (Lib.countB s sub)) ∧ w' = w := Any.strings_Count Tryd.lays138 s sub m w hs hm h2
def Tryd.laysM219_ren : Go.Shelf.Ren := ⟨fun | 219 => 53 | 217 => 64 | 225 => 65 | 224 => 66 | 267 => 67 | 266 => 74 | 314 => 75 | n => n, fun | 9 => 9 | 3 => 3 | 4 => 4 | 5 => 5 | 46 => 88 | 146 => 107 | 51 => 106 | n => n, fun | 1 => 2 | n => n⟩
theorem Tryd.laysM219 : Go.Proofs.LaysM.n219 Tryd.prog Tryd.laysM219_ren := {
  mixed := by kernel_rfl
  f217 := Tryd.func64.trans (congrArg some (by kernel_rfl))
  f219 := Tryd.func53.trans (congrArg some (by kernel_rfl))
  f224 := Tryd.func66.trans (congrArg some (by kernel_rfl))
  f225 := Tryd.func65.trans (congrArg some (by kernel_rfl))
  f266 := Tryd.func74.trans (congrArg some (by kernel_rfl))
  f267 := Tryd.func67.trans (congrArg some (by kernel_rfl))
  f314 := Tryd.func75.trans (congrArg some (by kernel_rfl))
  t3 := Tryd.underlying3
  a3 := Tryd.isAgg3
  z3 := Tryd.sizeOf3
  v3 := Tryd.zeroValue3
  t4 := Tryd.underlying4
  a4 := Tryd.isAgg4
  z4 := Tryd.sizeOf4
  v4 := Tryd.zeroValue4
  t5 := Tryd.underlying5
  a5 := Tryd.isAgg5
  z5 := Tryd.sizeOf5
  v5 := Tryd.zeroValue5
  t9 := Tryd.underlying9
  a9 := Tryd.isAgg9
  z9 := Tryd.sizeOf9
  v9 := Tryd.zeroValue9
  t46 := Tryd.underlying88
  a46 := Tryd.isAgg88
  z46 := Tryd.sizeOf88
  v46 := Tryd.zeroValue88
  t51 := Tryd.underlying106
  a51 := Tryd.isAgg106
  z51 := Tryd.sizeOf106
  v51 := Tryd.zeroValue106
  t146 := Tryd.underlying107
  a146 := Tryd.isAgg107
  z146 := Tryd.sizeOf107
  v146 := Tryd.zeroValue107
  g1 := by kernel_rfl
  i3 := by kernel_rfl
  i4 := by kernel_rfl
  i5 := by kernel_rfl
  i9 := by kernel_rfl
  i46 := by kernel_rfl
  i51 := by kernel_rfl
  i146 := by kernel_rfl
  m1 := by kernel_rfl
  s1_3 := fun w h => Go.Proofs.cell_of_shapedOpen_int (zero := #[.int .i64 0]) (t := 3) h (of_decide_eq_true (by kernel_rfl)) (by kernel_rfl) rfl (by kernel_rfl) (by kernel_rfl) Tryd.underlying3 }
open Go.RowKit Go.Lib in
theorem Tryd.stringslite_Index_shaped (s sub : ByteArray) (w : World) (h : w.ShapedOpen Tryd.prog) (hs : s.size < 4294967281) :
    Calls Tryd.prog 53 #[.string s, .string sub] w fun e w' => e = .returned (.int .i64 (Lib.index s.data.toList sub.data.toList)) ∧ w' = w := Any.stringslite_Index_shaped Tryd.laysM219 s sub w h hs
def Tryd.laysM143_ren : Go.Shelf.Ren := ⟨fun | 143 => 45 | 219 => 53 | 217 => 64 | 225 => 65 | 224 => 66 | 267 => 67 | 266 => 74 | 314 => 75 | n => n, fun | 9 => 9 | 3 => 3 | 4 => 4 | 5 => 5 | 46 => 88 | 146 => 107 | 51 => 106 | n => n, fun | 1 => 2 | n => n⟩
theorem Tryd.laysM143 : Go.Proofs.LaysM.n143 Tryd.prog Tryd.laysM143_ren := {
  mixed := by kernel_rfl
  f143 := Tryd.func45.trans (congrArg some (by kernel_rfl))
  f217 := Tryd.func64.trans (congrArg some (by kernel_rfl))
  f219 := Tryd.func53.trans (congrArg some (by kernel_rfl))
  f224 := Tryd.func66.trans (congrArg some (by kernel_rfl))
  f225 := Tryd.func65.trans (congrArg some (by kernel_rfl))
  f266 := Tryd.func74.trans (congrArg some (by kernel_rfl))
  f267 := Tryd.func67.trans (congrArg some (by kernel_rfl))
  f314 := Tryd.func75.trans (congrArg some (by kernel_rfl))
  t3 := Tryd.underlying3
  a3 := Tryd.isAgg3
  z3 := Tryd.sizeOf3
  v3 := Tryd.zeroValue3
  t4 := Tryd.underlying4
  a4 := Tryd.isAgg4
  z4 := Tryd.sizeOf4
  v4 := Tryd.zeroValue4
  t5 := Tryd.underlying5
  a5 := Tryd.isAgg5
  z5 := Tryd.sizeOf5
  v5 := Tryd.zeroValue5
  t9 := Tryd.underlying9
  a9 := Tryd.isAgg9
  z9 := Tryd.sizeOf9
  v9 := Tryd.zeroValue9
  t46 := Tryd.underlying88
  a46 := Tryd.isAgg88
  z46 := Tryd.sizeOf88
  v46 := Tryd.zeroValue88
  t51 := Tryd.underlying106
  a51 := Tryd.isAgg106
  z51 := Tryd.sizeOf106
  v51 := Tryd.zeroValue106
  t146 := Tryd.underlying107
  a146 := Tryd.isAgg107
  z146 := Tryd.sizeOf107
  v146 := Tryd.zeroValue107
  g1 := by kernel_rfl
  i3 := by kernel_rfl
  i4 := by kernel_rfl
  i5 := by kernel_rfl
  i9 := by kernel_rfl
  i46 := by kernel_rfl
  i51 := by kernel_rfl
  i146 := by kernel_rfl
  m1 := by kernel_rfl
  s1_3 := fun w h => Go.Proofs.cell_of_shapedOpen_int (zero := #[.int .i64 0]) (t := 3) h (of_decide_eq_true (by kernel_rfl)) (by kernel_rfl) rfl (by kernel_rfl) (by kernel_rfl) Tryd.underlying3 }
open Go.RowKit Go.Lib in
theorem Tryd.strings_Index_shaped (s sub : ByteArray) (w : World) (h : w.ShapedOpen Tryd.prog) (hs : s.size < 4294967281) :
    Calls Tryd.prog 45 #[.string s, .string sub] w fun e w' => e = .returned (.int .i64 (Lib.index s.data.toList sub.data.toList)) ∧ w' = w := Any.strings_Index_shaped Tryd.laysM143 s sub w h hs
def Tryd.laysM220_ren : Go.Shelf.Ren := ⟨fun | 220 => 39 | 219 => 53 | 217 => 64 | 225 => 65 | 224 => 66 | 267 => 67 | 266 => 74 | 314 => 75 | n => n, fun | 9 => 9 | 4 => 4 | 3 => 3 | 5 => 5 | 46 => 88 | 146 => 107 | 51 => 106 | n => n, fun | 1 => 2 | n => n⟩
theorem Tryd.laysM220 : Go.Proofs.LaysM.n220 Tryd.prog Tryd.laysM220_ren := {
  mixed := by kernel_rfl
  f217 := Tryd.func64.trans (congrArg some (by kernel_rfl))
  f219 := Tryd.func53.trans (congrArg some (by kernel_rfl))
  f220 := Tryd.func39.trans (congrArg some (by kernel_rfl))
  f224 := Tryd.func66.trans (congrArg some (by kernel_rfl))
  f225 := Tryd.func65.trans (congrArg some (by kernel_rfl))
  f266 := Tryd.func74.trans (congrArg some (by kernel_rfl))
  f267 := Tryd.func67.trans (congrArg some (by kernel_rfl))
  f314 := Tryd.func75.trans (congrArg some (by kernel_rfl))
  t3 := Tryd.underlying3
  a3 := Tryd.isAgg3
  z3 := Tryd.sizeOf3
  v3 := Tryd.zeroValue3
  t4 := Tryd.underlying4
  a4 := Tryd.isAgg4
  z4 := Tryd.sizeOf4
  v4 := Tryd.zeroValue4
  t5 := Tryd.underlying5
  a5 := Tryd.isAgg5
  z5 := Tryd.sizeOf5
  v5 := Tryd.zeroValue5
  t9 := Tryd.underlying9
  a9 := Tryd.isAgg9
  z9 := Tryd.sizeOf9
  v9 := Tryd.zeroValue9
  t46 := Tryd.underlying88
  a46 := Tryd.isAgg88
  z46 := Tryd.sizeOf88
  v46 := Tryd.zeroValue88
  t51 := Tryd.underlying106
  a51 := Tryd.isAgg106
  z51 := Tryd.sizeOf106
  v51 := Tryd.zeroValue106
  t146 := Tryd.underlying107
  a146 := Tryd.isAgg107
  z146 := Tryd.sizeOf107
  v146 := Tryd.zeroValue107
  g1 := by kernel_rfl
  i3 := by kernel_rfl
  i4 := by kernel_rfl
  i5 := by kernel_rfl
  i9 := by kernel_rfl
  i46 := by kernel_rfl
  i51 := by kernel_rfl
  i146 := by kernel_rfl
  m1 := by kernel_rfl
  s1_3 := fun w h => Go.Proofs.cell_of_shapedOpen_int (zero := #[.int .i64 0]) (t := 3) h (of_decide_eq_true (by kernel_rfl)) (by kernel_rfl) rfl (by kernel_rfl) (by kernel_rfl) Tryd.underlying3 }
open Go.RowKit Go.Lib in
theorem Tryd.stringslite_Cut_shaped (s sep : ByteArray) (w : World) (h : w.ShapedOpen Tryd.prog) (hs : s.size < 4294967281) :
    Calls Tryd.prog 39 #[.string s, .string sep] w fun e w' => e = .returned (.tuple #[.string ⟨(Lib.cut s.data.toList sep.data.toList).1.toArray⟩, .string ⟨(Lib.cut s.data.toList sep.data.toList).2.1.toArray⟩, .bool (Lib.cut s.data.toList sep.data.toList).2.2]) ∧ ∃ n, w' = w.drewN n := Any.stringslite_Cut_shaped Tryd.laysM220 s sep w h hs
def Tryd.laysM145_ren : Go.Shelf.Ren := ⟨fun | 145 => 19 | 220 => 39 | 219 => 53 | 217 => 64 | 225 => 65 | 224 => 66 | 267 => 67 | 266 => 74 | 314 => 75 | n => n, fun | 9 => 9 | 4 => 4 | 59 => 48 | 3 => 3 | 5 => 5 | 46 => 88 | 146 => 107 | 51 => 106 | n => n, fun | 1 => 2 | n => n⟩
theorem Tryd.laysM145 : Go.Proofs.LaysM.n145 Tryd.prog Tryd.laysM145_ren := {
  mixed := by kernel_rfl
  f145 := Tryd.func19.trans (congrArg some (by kernel_rfl))
  f217 := Tryd.func64.trans (congrArg some (by kernel_rfl))
  f219 := Tryd.func53.trans (congrArg some (by kernel_rfl))
  f220 := Tryd.func39.trans (congrArg some (by kernel_rfl))
  f224 := Tryd.func66.trans (congrArg some (by kernel_rfl))
  f225 := Tryd.func65.trans (congrArg some (by kernel_rfl))
  f266 := Tryd.func74.trans (congrArg some (by kernel_rfl))
  f267 := Tryd.func67.trans (congrArg some (by kernel_rfl))
  f314 := Tryd.func75.trans (congrArg some (by kernel_rfl))
  t3 := Tryd.underlying3
  a3 := Tryd.isAgg3
  z3 := Tryd.sizeOf3
  v3 := Tryd.zeroValue3
  t4 := Tryd.underlying4
  a4 := Tryd.isAgg4
  z4 := Tryd.sizeOf4
  v4 := Tryd.zeroValue4
  t5 := Tryd.underlying5
  a5 := Tryd.isAgg5
  z5 := Tryd.sizeOf5
  v5 := Tryd.zeroValue5
  t9 := Tryd.underlying9
  a9 := Tryd.isAgg9
  z9 := Tryd.sizeOf9
  v9 := Tryd.zeroValue9
  t46 := Tryd.underlying88
  a46 := Tryd.isAgg88
  z46 := Tryd.sizeOf88
  v46 := Tryd.zeroValue88
  t51 := Tryd.underlying106
  a51 := Tryd.isAgg106
  z51 := Tryd.sizeOf106
  v51 := Tryd.zeroValue106
  t59 := Tryd.underlying48
  a59 := Tryd.isAgg48
  z59 := Tryd.sizeOf48
  v59 := Tryd.zeroValue48
  t146 := Tryd.underlying107
  a146 := Tryd.isAgg107
  z146 := Tryd.sizeOf107
  v146 := Tryd.zeroValue107
  g1 := by kernel_rfl
  i3 := by kernel_rfl
  i4 := by kernel_rfl
  i5 := by kernel_rfl
  i9 := by kernel_rfl
  i46 := by kernel_rfl
  i51 := by kernel_rfl
  i59 := by kernel_rfl
  i146 := by kernel_rfl
  m1 := by kernel_rfl
  s1_3 := fun w h => Go.Proofs.cell_of_shapedOpen_int (zero := #[.int .i64 0]) (t := 3) h (of_decide_eq_true (by kernel_rfl)) (by kernel_rfl) rfl (by kernel_rfl) (by kernel_rfl) Tryd.underlying3 }
open Go.RowKit Go.Lib in
theorem Tryd.strings_Cut_shaped (s sep : ByteArray) (w : World) (h : w.ShapedOpen Tryd.prog) (hs : s.size < 4294967281) :
    Calls Tryd.prog 19 #[.string s, .string sep] w fun e w' => e = .returned (.tuple #[.string ⟨(Lib.cut s.data.toList sep.data.toList).1.toArray⟩, .string ⟨(Lib.cut s.data.toList sep.data.toList).2.1.toArray⟩, .bool (Lib.cut s.data.toList sep.data.toList).2.2]) ∧ ∃ n, w' = w.drewN n := Any.strings_Cut_shaped Tryd.laysM145 s sep w h hs
def Tryd.laysM138_ren : Go.Shelf.Ren := ⟨fun | 138 => 44 | 195 => 59 | 218 => 60 | 143 => 45 | 219 => 53 | 217 => 64 | 225 => 65 | 224 => 66 | 267 => 67 | 266 => 74 | 314 => 75 | n => n, fun | 9 => 9 | 3 => 3 | 4 => 4 | 5 => 5 | 0 => 0 | 46 => 88 | 146 => 107 | 51 => 106 | n => n, fun | 1 => 2 | n => n⟩
theorem Tryd.laysM138 : Go.Proofs.LaysM.n138 Tryd.prog Tryd.laysM138_ren := {
  mixed := by kernel_rfl
  f138 := Tryd.func44.trans (congrArg some (by kernel_rfl))
  f143 := Tryd.func45.trans (congrArg some (by kernel_rfl))
  f195 := Tryd.func59.trans (congrArg some (by kernel_rfl))
  f217 := Tryd.func64.trans (congrArg some (by kernel_rfl))
  f218 := Tryd.func60.trans (congrArg some (by kernel_rfl))
  f219 := Tryd.func53.trans (congrArg some (by kernel_rfl))
  f224 := Tryd.func66.trans (congrArg some (by kernel_rfl))
  f225 := Tryd.func65.trans (congrArg some (by kernel_rfl))
  f266 := Tryd.func74.trans (congrArg some (by kernel_rfl))
  f267 := Tryd.func67.trans (congrArg some (by kernel_rfl))
  f314 := Tryd.func75.trans (congrArg some (by kernel_rfl))
  t0 := Tryd.underlying0
  a0 := Tryd.isAgg0
  z0 := Tryd.sizeOf0
  v0 := Tryd.zeroValue0
  t3 := Tryd.underlying3
  a3 := Tryd.isAgg3
  z3 := Tryd.sizeOf3
  v3 := Tryd.zeroValue3
  t4 := Tryd.underlying4
  a4 := Tryd.isAgg4
  z4 := Tryd.sizeOf4
  v4 := Tryd.zeroValue4
  t5 := Tryd.underlying5
  a5 := Tryd.isAgg5
  z5 := Tryd.sizeOf5
  v5 := Tryd.zeroValue5
  t9 := Tryd.underlying9
  a9 := Tryd.isAgg9
  z9 := Tryd.sizeOf9
  v9 := Tryd.zeroValue9
  t46 := Tryd.underlying88
  a46 := Tryd.isAgg88
  z46 := Tryd.sizeOf88
  v46 := Tryd.zeroValue88
  t51 := Tryd.underlying106
  a51 := Tryd.isAgg106
  z51 := Tryd.sizeOf106
  v51 := Tryd.zeroValue106
  t146 := Tryd.underlying107
  a146 := Tryd.isAgg107
  z146 := Tryd.sizeOf107
  v146 := Tryd.zeroValue107
  g1 := by kernel_rfl
  i0 := by kernel_rfl
  i3 := by kernel_rfl
  i4 := by kernel_rfl
  i5 := by kernel_rfl
  i9 := by kernel_rfl
  i46 := by kernel_rfl
  i51 := by kernel_rfl
  i146 := by kernel_rfl
  m1 := by kernel_rfl
  s1_3 := fun w h => Go.Proofs.cell_of_shapedOpen_int (zero := #[.int .i64 0]) (t := 3) h (of_decide_eq_true (by kernel_rfl)) (by kernel_rfl) rfl (by kernel_rfl) (by kernel_rfl) Tryd.underlying3 }
open Go.RowKit Go.Lib in
theorem Tryd.strings_Count_shaped (s sub : ByteArray) (w : World) (h : w.ShapedOpen Tryd.prog) (hs : s.size < 4294967281) (h2 : 2 ≤ sub.size) :
    Calls Tryd.prog 44 #[.string s, .string sub] w fun e w' => e = .returned (.int .i64 (Lib.countB s sub)) ∧ w' = w := Any.strings_Count_shaped Tryd.laysM138 s sub w h hs h2
def Tryd.lays206_ren : Go.Shelf.Ren := ⟨fun | 206 => 52 | n => n, fun | 9 => 9 | 4 => 4 | 3 => 3 | n => n, fun | n => n⟩
theorem Tryd.lays206 : Go.Proofs.Lays.n206 Tryd.prog Tryd.lays206_ren := {
  mixed := by kernel_rfl
  f206 := Tryd.func52.trans (congrArg some (by kernel_rfl))
  t3 := Tryd.underlying3
  a3 := Tryd.isAgg3
  z3 := Tryd.sizeOf3
  v3 := Tryd.zeroValue3
  t4 := Tryd.underlying4
  a4 := Tryd.isAgg4
  z4 := Tryd.sizeOf4
  v4 := Tryd.zeroValue4
  t9 := Tryd.underlying9
  a9 := Tryd.isAgg9
  z9 := Tryd.sizeOf9
  v9 := Tryd.zeroValue9 }
open Go.RowKit Go.Lib in
/-- internal/stringslite.HasPrefix (what strings.HasPrefix calls). (LAID: no walk: one application.) -/
theorem Tryd.stringslite_HasPrefix (s p : ByteArray) (w : World) :
    Calls Tryd.prog 52 #[.string s, .string p] w fun e w' => e = .returned (.bool (Lib.hasPrefix s.data.toList p.data.toList)) ∧ w' = w := Any.stringslite_HasPrefix Tryd.lays206 s p w
def Tryd.lays207_ren : Go.Shelf.Ren := ⟨fun | 207 => 46 | n => n, fun | 9 => 9 | 4 => 4 | 3 => 3 | n => n, fun | n => n⟩
theorem Tryd.lays207 : Go.Proofs.Lays.n207 Tryd.prog Tryd.lays207_ren := {
  mixed := by kernel_rfl
  f207 := Tryd.func46.trans (congrArg some (by kernel_rfl))
  t3 := Tryd.underlying3
  a3 := Tryd.isAgg3
  z3 := Tryd.sizeOf3
  v3 := Tryd.zeroValue3
  t4 := Tryd.underlying4
  a4 := Tryd.isAgg4
  z4 := Tryd.sizeOf4
  v4 := Tryd.zeroValue4
  t9 := Tryd.underlying9
  a9 := Tryd.isAgg9
  z9 := Tryd.sizeOf9
  v9 := Tryd.zeroValue9 }
open Go.RowKit Go.Lib in
/-- internal/stringslite.HasSuffix (what strings.HasSuffix calls). (LAID: no walk: one application.) -/
theorem Tryd.stringslite_HasSuffix (s p : ByteArray) (w : World) (hs : s.size ≤ 9223372036854775807) :
    Calls Tryd.prog 46 #[.string s, .string p] w fun e w' => e = .returned (.bool (Lib.hasSuffix s.data.toList p.data.toList)) ∧ w' = w := Any.stringslite_HasSuffix Tryd.lays207 s p w hs
def Tryd.lays208_ren : Go.Shelf.Ren := ⟨fun | 208 => 122 | 206 => 52 | n => n, fun | 9 => 9 | 4 => 4 | 3 => 3 | n => n, fun | n => n⟩
theorem Tryd.lays208 : Go.Proofs.Lays.n208 Tryd.prog Tryd.lays208_ren := {
  mixed := by kernel_rfl
  f206 := Tryd.func52.trans (congrArg some (by kernel_rfl))
  f208 := Tryd.func122.trans (congrArg some (by kernel_rfl))
  t3 := Tryd.underlying3
  a3 := Tryd.isAgg3
  z3 := Tryd.sizeOf3
  v3 := Tryd.zeroValue3
  t4 := Tryd.underlying4
  a4 := Tryd.isAgg4
  z4 := Tryd.sizeOf4
  v4 := Tryd.zeroValue4
  t9 := Tryd.underlying9
  a9 := Tryd.isAgg9
  z9 := Tryd.sizeOf9
  v9 := Tryd.zeroValue9 }
open Go.RowKit Go.Lib in
/-- internal/stringslite.TrimPrefix (what strings.TrimPrefix calls). (LAID: no walk: one application.) -/
theorem Tryd.stringslite_TrimPrefix (s p : ByteArray) (w : World) :
    Calls Tryd.prog 122 #[.string s, .string p] w fun e w' => e = .returned (.string ⟨(Lib.trimPrefix s.data.toList p.data.toList).toArray⟩) ∧ w' = w := Any.stringslite_TrimPrefix Tryd.lays208 s p w
def Tryd.lays101_ren : Go.Shelf.Ren := ⟨fun | 101 => 120 | 208 => 122 | 206 => 52 | n => n, fun | 9 => 9 | 4 => 4 | 3 => 3 | n => n, fun | n => n⟩
theorem Tryd.lays101 : Go.Proofs.Lays.n101 Tryd.prog Tryd.lays101_ren := {
  mixed := by kernel_rfl
  f101 := Tryd.func120.trans (congrArg some (by kernel_rfl))
  f206 := Tryd.func52.trans (congrArg some (by kernel_rfl))
  f208 := Tryd.func122.trans (congrArg some (by kernel_rfl))
  t3 := Tryd.underlying3
  a3 := Tryd.isAgg3
  z3 := Tryd.sizeOf3
  v3 := Tryd.zeroValue3
  t4 := Tryd.underlying4
  a4 := Tryd.isAgg4
  z4 := Tryd.sizeOf4
  v4 := Tryd.zeroValue4
  t9 := Tryd.underlying9
  a9 := Tryd.isAgg9
  z9 := Tryd.sizeOf9
  v9 := Tryd.zeroValue9 }
open Go.RowKit Go.Lib in
/-- strings.TrimPrefix: "TrimPrefix returns s without the provided leading prefix string. If s doesn't start with prefix, s is returned unchanged.": IT RETURNS 'Lib.trimPrefix s prefix'; the world is as it was. (LAID: no walk: one application.) -/
theorem Tryd.strings_TrimPrefix (s p : ByteArray) (w : World) :
    Calls Tryd.prog 120 #[.string s, .string p] w fun e w' => e = .returned (.string ⟨(Lib.trimPrefix s.data.toList p.data.toList).toArray⟩) ∧ w' = w := Any.strings_TrimPrefix Tryd.lays101 s p w
def Tryd.lays209_ren : Go.Shelf.Ren := ⟨fun | 209 => 24 | 207 => 46 | n => n, fun | 9 => 9 | 4 => 4 | 3 => 3 | n => n, fun | n => n⟩
theorem Tryd.lays209 : Go.Proofs.Lays.n209 Tryd.prog Tryd.lays209_ren := {
  mixed := by kernel_rfl
  f207 := Tryd.func46.trans (congrArg some (by kernel_rfl))
  f209 := Tryd.func24.trans (congrArg some (by kernel_rfl))
  t3 := Tryd.underlying3
  a3 := Tryd.isAgg3
  z3 := Tryd.sizeOf3
  v3 := Tryd.zeroValue3
  t4 := Tryd.underlying4
  a4 := Tryd.isAgg4
  z4 := Tryd.sizeOf4
  v4 := Tryd.zeroValue4
  t9 := Tryd.underlying9
  a9 := Tryd.isAgg9
  z9 := Tryd.sizeOf9
  v9 := Tryd.zeroValue9 }
open Go.RowKit Go.Lib in
/-- internal/stringslite.TrimSuffix (what strings.TrimSuffix calls). (LAID: no walk: one application.) -/
theorem Tryd.stringslite_TrimSuffix (s p : ByteArray) (w : World) (hs : s.size ≤ 9223372036854775807) :
    Calls Tryd.prog 24 #[.string s, .string p] w fun e w' => e = .returned (.string ⟨(Lib.trimSuffix s.data.toList p.data.toList).toArray⟩) ∧ w' = w := Any.stringslite_TrimSuffix Tryd.lays209 s p w hs
def Tryd.lays102_ren : Go.Shelf.Ren := ⟨fun | 102 => 12 | 209 => 24 | 207 => 46 | n => n, fun | 9 => 9 | 4 => 4 | 3 => 3 | n => n, fun | n => n⟩
theorem Tryd.lays102 : Go.Proofs.Lays.n102 Tryd.prog Tryd.lays102_ren := {
  mixed := by kernel_rfl
  f102 := Tryd.func12.trans (congrArg some (by kernel_rfl))
  f207 := Tryd.func46.trans (congrArg some (by kernel_rfl))
  f209 := Tryd.func24.trans (congrArg some (by kernel_rfl))
  t3 := Tryd.underlying3
  a3 := Tryd.isAgg3
  z3 := Tryd.sizeOf3
  v3 := Tryd.zeroValue3
  t4 := Tryd.underlying4
  a4 := Tryd.isAgg4
  z4 := Tryd.sizeOf4
  v4 := Tryd.zeroValue4
  t9 := Tryd.underlying9
  a9 := Tryd.isAgg9
  z9 := Tryd.sizeOf9
  v9 := Tryd.zeroValue9 }
open Go.RowKit Go.Lib in
/-- strings.TrimSuffix: "TrimSuffix returns s without the provided trailing suffix string. If s doesn't end with suffix, s is returned unchanged.": IT RETURNS 'Lib.trimSuffix s suffix'; the world is as it was. (LAID: no walk: one application.) -/
theorem Tryd.strings_TrimSuffix (s p : ByteArray) (w : World) (hs : s.size ≤ 9223372036854775807) :
    Calls Tryd.prog 12 #[.string s, .string p] w fun e w' => e = .returned (.string ⟨(Lib.trimSuffix s.data.toList p.data.toList).toArray⟩) ∧ w' = w := Any.strings_TrimSuffix Tryd.lays102 s p w hs
open Go.RowKit Go.Lib in
/-- strings.Count at whatever sep that is not empty: the two roads under one statement. (LAID: no walk: one application.) -/
theorem Tryd.strings_Count_any (s sep : ByteArray) (m : Int) (w : World) (hs : s.size < 4294967281) (hm : w.cell? ⟨2, 0, none⟩ = some (.int .i64 m)) (h1 : 1 ≤ sep.size) :
    Calls Tryd.prog 44 #[.string s, .string sep] w fun e w' => e = .returned (.int .i64 (Lib.countB s sep)) ∧ w' = w := Any.strings_Count_any Tryd.lays138 s sep m w hs hm h1
def Tryd.lays221_ren : Go.Shelf.Ren := ⟨fun | 221 => 23 | 268 => 43 | 138 => 44 | 143 => 45 | 195 => 59 | 197 => 48 | 218 => 60 | 219 => 53 | 260 => 61 | 217 => 64 | 225 => 65 | 224 => 66 | 267 => 67 | 266 => 74 | 314 => 75 | n => n, fun | 9 => 9 | 3 => 3 | 31 => 22 | 4 => 4 | 0 => 0 | 105 => 77 | 21 => 21 | 5 => 5 | 46 => 88 | 119 => 101 | 139 => 104 | 138 => 103 | 146 => 107 | 51 => 106 | n => n, fun | 1 => 2 | 3 => 5 | 4 => 6 | n => n⟩
theorem Tryd.lays221 : Go.Proofs.Lays.n221 Tryd.prog Tryd.lays221_ren := {
  mixed := by kernel_rfl
  f138 := Tryd.func44.trans (congrArg some (by kernel_rfl))
  f143 := Tryd.func45.trans (congrArg some (by kernel_rfl))
  f195 := Tryd.func59.trans (congrArg some (by kernel_rfl))
  f197 := Tryd.func48.trans (congrArg some (by kernel_rfl))
  f217 := Tryd.func64.trans (congrArg some (by kernel_rfl))
  f218 := Tryd.func60.trans (congrArg some (by kernel_rfl))
  f219 := Tryd.func53.trans (congrArg some (by kernel_rfl))
  f221 := Tryd.func23.trans (congrArg some (by kernel_rfl))
  f224 := Tryd.func66.trans (congrArg some (by kernel_rfl))
  f225 := Tryd.func65.trans (congrArg some (by kernel_rfl))
  f260 := Tryd.func61.trans (congrArg some (by kernel_rfl))
  f266 := Tryd.func74.trans (congrArg some (by kernel_rfl))
  f267 := Tryd.func67.trans (congrArg some (by kernel_rfl))
  f268 := Tryd.func43.trans (congrArg some (by kernel_rfl))
  f314 := Tryd.func75.trans (congrArg some (by kernel_rfl))
  t0 := Tryd.underlying0
  a0 := Tryd.isAgg0
  z0 := Tryd.sizeOf0
  v0 := Tryd.zeroValue0
  t3 := Tryd.underlying3
  a3 := Tryd.isAgg3
  z3 := Tryd.sizeOf3
  v3 := Tryd.zeroValue3
  t4 := Tryd.underlying4
  a4 := Tryd.isAgg4
  z4 := Tryd.sizeOf4
  v4 := Tryd.zeroValue4
  t5 := Tryd.underlying5
  a5 := Tryd.isAgg5
  z5 := Tryd.sizeOf5
  v5 := Tryd.zeroValue5
  t9 := Tryd.underlying9
  a9 := Tryd.isAgg9
  z9 := Tryd.sizeOf9
  v9 := Tryd.zeroValue9
  t21 := Tryd.underlying21
  a21 := Tryd.isAgg21
  z21 := Tryd.sizeOf21
  v21 := Tryd.zeroValue21
  t31 := Tryd.underlying22
  a31 := Tryd.isAgg22
  z31 := Tryd.sizeOf22
  v31 := Tryd.zeroValue22
  t46 := Tryd.underlying88
  a46 := Tryd.isAgg88
  z46 := Tryd.sizeOf88
  v46 := Tryd.zeroValue88
  t51 := Tryd.underlying106
  a51 := Tryd.isAgg106
  z51 := Tryd.sizeOf106
  v51 := Tryd.zeroValue106
  t105 := Tryd.underlying77
  a105 := Tryd.isAgg77
  z105 := Tryd.sizeOf77
  v105 := Tryd.zeroValue77
  t119 := Tryd.underlying101
  a119 := Tryd.isAgg101
  z119 := Tryd.sizeOf101
  t138 := Tryd.underlying103
  a138 := Tryd.isAgg103
  z138 := Tryd.sizeOf103
  v138 := Tryd.zeroValue103
  t139 := Tryd.underlying104
  a139 := Tryd.isAgg104
  z139 := Tryd.sizeOf104
  v139 := Tryd.zeroValue104
  t146 := Tryd.underlying107
  a146 := Tryd.isAgg107
  z146 := Tryd.sizeOf107
  v146 := Tryd.zeroValue107
  g1 := by kernel_rfl
  g3 := by kernel_rfl
  g4 := by kernel_rfl }
open Go.RowKit Go.Lib in
theorem Tryd.strings_genSplit (s sep : ByteArray) (sv : Nat) (n : Int) (N : Nat) (m : Int) (w : World) (hs : s.size < 4294967281) (hm : w.cell? ⟨2, 0, none⟩ = some (.int .i64 m)) (h1 : 1 ≤ sep.size) (hsv : sv ≤ sep.size) (hn0 : n ≠ 0) (hn63 : n ≤ 9223372036854775807) (hN : (N : Int) = min (if n < 0 then (Lib.countB s sep : Int) + 1 else n) ((s.size : Int) + 1)) :
    Calls Tryd.prog 23 #[.string s, .string sep, .int .i64 sv, .int .i64 n] w fun e w' =>
      e = .returned (.slice (some ⟨w.heap.size, 0, none⟩) (Lib.splitB sep sv (N - 1) s).length N) ∧ w' = w.alloc (.cells (Lib.cellsOf (Lib.splitB sep sv (N - 1) s) N) 9) := Any.strings_genSplit Tryd.lays221 (by kernel_rfl) s sep sv n N m w hs hm h1 hsv hn0 hn63 hN
def Tryd.lays146_ren : Go.Shelf.Ren := ⟨fun | 146 => 11 | 221 => 23 | 268 => 43 | 138 => 44 | 143 => 45 | 195 => 59 | 197 => 48 | 218 => 60 | 219 => 53 | 260 => 61 | 217 => 64 | 225 => 65 | 224 => 66 | 267 => 67 | 266 => 74 | 314 => 75 | n => n, fun | 9 => 9 | 31 => 22 | 3 => 3 | 4 => 4 | 0 => 0 | 105 => 77 | 21 => 21 | 5 => 5 | 46 => 88 | 119 => 101 | 139 => 104 | 138 => 103 | 146 => 107 | 51 => 106 | n => n, fun | 1 => 2 | 3 => 5 | 4 => 6 | n => n⟩
theorem Tryd.lays146 : Go.Proofs.Lays.n146 Tryd.prog Tryd.lays146_ren := {
  mixed := by kernel_rfl
  f138 := Tryd.func44.trans (congrArg some (by kernel_rfl))
  f143 := Tryd.func45.trans (congrArg some (by kernel_rfl))
  f146 := Tryd.func11.trans (congrArg some (by kernel_rfl))
  f195 := Tryd.func59.trans (congrArg some (by kernel_rfl))
  f197 := Tryd.func48.trans (congrArg some (by kernel_rfl))
  f217 := Tryd.func64.trans (congrArg some (by kernel_rfl))
  f218 := Tryd.func60.trans (congrArg some (by kernel_rfl))
  f219 := Tryd.func53.trans (congrArg some (by kernel_rfl))
  f221 := Tryd.func23.trans (congrArg some (by kernel_rfl))
  f224 := Tryd.func66.trans (congrArg some (by kernel_rfl))
  f225 := Tryd.func65.trans (congrArg some (by kernel_rfl))
  f260 := Tryd.func61.trans (congrArg some (by kernel_rfl))
  f266 := Tryd.func74.trans (congrArg some (by kernel_rfl))
  f267 := Tryd.func67.trans (congrArg some (by kernel_rfl))
  f268 := Tryd.func43.trans (congrArg some (by kernel_rfl))
  f314 := Tryd.func75.trans (congrArg some (by kernel_rfl))
  t0 := Tryd.underlying0
  a0 := Tryd.isAgg0
  z0 := Tryd.sizeOf0
  v0 := Tryd.zeroValue0
  t3 := Tryd.underlying3
  a3 := Tryd.isAgg3
  z3 := Tryd.sizeOf3
  v3 := Tryd.zeroValue3
  t4 := Tryd.underlying4
  a4 := Tryd.isAgg4
  z4 := Tryd.sizeOf4
  v4 := Tryd.zeroValue4
  t5 := Tryd.underlying5
  a5 := Tryd.isAgg5
  z5 := Tryd.sizeOf5
  v5 := Tryd.zeroValue5
  t9 := Tryd.underlying9
  a9 := Tryd.isAgg9
  z9 := Tryd.sizeOf9
  v9 := Tryd.zeroValue9
  t21 := Tryd.underlying21
  a21 := Tryd.isAgg21
  z21 := Tryd.sizeOf21
  v21 := Tryd.zeroValue21
  t31 := Tryd.underlying22
  a31 := Tryd.isAgg22
  z31 := Tryd.sizeOf22
  v31 := Tryd.zeroValue22
  t46 := Tryd.underlying88
  a46 := Tryd.isAgg88
  z46 := Tryd.sizeOf88
  v46 := Tryd.zeroValue88
  t51 := Tryd.underlying106
  a51 := Tryd.isAgg106
  z51 := Tryd.sizeOf106
  v51 := Tryd.zeroValue106
  t105 := Tryd.underlying77
  a105 := Tryd.isAgg77
  z105 := Tryd.sizeOf77
  v105 := Tryd.zeroValue77
  t119 := Tryd.underlying101
  a119 := Tryd.isAgg101
  z119 := Tryd.sizeOf101
  t138 := Tryd.underlying103
  a138 := Tryd.isAgg103
  z138 := Tryd.sizeOf103
  v138 := Tryd.zeroValue103
  t139 := Tryd.underlying104
  a139 := Tryd.isAgg104
  z139 := Tryd.sizeOf104
  v139 := Tryd.zeroValue104
  t146 := Tryd.underlying107
  a146 := Tryd.isAgg107
  z146 := Tryd.sizeOf107
  v146 := Tryd.zeroValue107
  g1 := by kernel_rfl
  g3 := by kernel_rfl
  g4 := by kernel_rfl }
open Go.RowKit Go.Lib in
/-- strings.Split. (LAID: no walk: one application.) -/
theorem Tryd.strings_Split (s sep : ByteArray) (m : Int) (w : World) (hs : s.size < 4294967281) (hm : w.cell? ⟨2, 0, none⟩ = some (.int .i64 m)) (h1 : 1 ≤ sep.size) :
    Calls Tryd.prog 11 #[.string s, .string sep] w fun e w' =>
      e = .returned (.slice (some ⟨w.heap.size, 0, none⟩) (Lib.countB s sep + 1) (Lib.countB s sep + 1)) ∧ w' = w.alloc (.cells ((Lib.splitB sep 0 (Lib.countB s sep) s).map Value.string).toArray 9) := Any.strings_Split Tryd.lays146 (by kernel_rfl) s sep m w hs hm h1
def Tryd.laysM146_ren : Go.Shelf.Ren := ⟨fun | 146 => 11 | 221 => 23 | 268 => 43 | 138 => 44 | 143 => 45 | 195 => 59 | 197 => 48 | 218 => 60 | 219 => 53 | 260 => 61 | 217 => 64 | 225 => 65 | 224 => 66 | 267 => 67 | 266 => 74 | 314 => 75 | n => n, fun | 9 => 9 | 31 => 22 | 3 => 3 | 4 => 4 | 0 => 0 | 105 => 77 | 21 => 21 | 5 => 5 | 46 => 88 | 119 => 101 | 139 => 104 | 138 => 103 | 146 => 107 | 51 => 106 | n => n, fun | 1 => 2 | 3 => 5 | 4 => 6 | n => n⟩
theorem Tryd.laysM146 : Go.Proofs.LaysM.n146 Tryd.prog Tryd.laysM146_ren := {
  mixed := by kernel_rfl
  f138 := Tryd.func44.trans (congrArg some (by kernel_rfl))
  f143 := Tryd.func45.trans (congrArg some (by kernel_rfl))
  f146 := Tryd.func11.trans (congrArg some (by kernel_rfl))
  f195 := Tryd.func59.trans (congrArg some (by kernel_rfl))
  f197 := Tryd.func48.trans (congrArg some (by kernel_rfl))
  f217 := Tryd.func64.trans (congrArg some (by kernel_rfl))
  f218 := Tryd.func60.trans (congrArg some (by kernel_rfl))
  f219 := Tryd.func53.trans (congrArg some (by kernel_rfl))
  f221 := Tryd.func23.trans (congrArg some (by kernel_rfl))
  f224 := Tryd.func66.trans (congrArg some (by kernel_rfl))
  f225 := Tryd.func65.trans (congrArg some (by kernel_rfl))
  f260 := Tryd.func61.trans (congrArg some (by kernel_rfl))
  f266 := Tryd.func74.trans (congrArg some (by kernel_rfl))
  f267 := Tryd.func67.trans (congrArg some (by kernel_rfl))
  f268 := Tryd.func43.trans (congrArg some (by kernel_rfl))
  f314 := Tryd.func75.trans (congrArg some (by kernel_rfl))
  t0 := Tryd.underlying0
  a0 := Tryd.isAgg0
  z0 := Tryd.sizeOf0
  v0 := Tryd.zeroValue0
  t3 := Tryd.underlying3
  a3 := Tryd.isAgg3
  z3 := Tryd.sizeOf3
  v3 := Tryd.zeroValue3
  t4 := Tryd.underlying4
  a4 := Tryd.isAgg4
  z4 := Tryd.sizeOf4
  v4 := Tryd.zeroValue4
  t5 := Tryd.underlying5
  a5 := Tryd.isAgg5
  z5 := Tryd.sizeOf5
  v5 := Tryd.zeroValue5
  t9 := Tryd.underlying9
  a9 := Tryd.isAgg9
  z9 := Tryd.sizeOf9
  v9 := Tryd.zeroValue9
  t21 := Tryd.underlying21
  a21 := Tryd.isAgg21
  z21 := Tryd.sizeOf21
  v21 := Tryd.zeroValue21
  t31 := Tryd.underlying22
  a31 := Tryd.isAgg22
  z31 := Tryd.sizeOf22
  v31 := Tryd.zeroValue22
  t46 := Tryd.underlying88
  a46 := Tryd.isAgg88
  z46 := Tryd.sizeOf88
  v46 := Tryd.zeroValue88
  t51 := Tryd.underlying106
  a51 := Tryd.isAgg106
  z51 := Tryd.sizeOf106
  v51 := Tryd.zeroValue106
  t105 := Tryd.underlying77
  a105 := Tryd.isAgg77
  z105 := Tryd.sizeOf77
  v105 := Tryd.zeroValue77
  t119 := Tryd.underlying101
  a119 := Tryd.isAgg101
  z119 := Tryd.sizeOf101
  t138 := Tryd.underlying103
  a138 := Tryd.isAgg103
  z138 := Tryd.sizeOf103
  v138 := Tryd.zeroValue103
  t139 := Tryd.underlying104
  a139 := Tryd.isAgg104
  z139 := Tryd.sizeOf104
  v139 := Tryd.zeroValue104
  t146 := Tryd.underlying107
  a146 := Tryd.isAgg107
  z146 := Tryd.sizeOf107
  v146 := Tryd.zeroValue107
  g1 := by kernel_rfl
  g3 := by kernel_rfl
  g4 := by kernel_rfl
  i0 := by kernel_rfl
  i3 := by kernel_rfl
  i4 := by kernel_rfl
  i5 := by kernel_rfl
  i9 := by kernel_rfl
  i21 := by kernel_rfl
  i31 := by kernel_rfl
  i46 := by kernel_rfl
  i51 := by kernel_rfl
  i105 := by kernel_rfl
  i138 := by kernel_rfl
  i139 := by kernel_rfl
  i146 := by kernel_rfl
  m1 := by kernel_rfl
  s1_3 := fun w h => Go.Proofs.cell_of_shapedOpen_int (zero := #[.int .i64 0]) (t := 3) h (of_decide_eq_true (by kernel_rfl)) (by kernel_rfl) rfl (by kernel_rfl) (by kernel_rfl) Tryd.underlying3
  m3 := by kernel_rfl
  m4 := by kernel_rfl }
open Go.RowKit Go.Lib in
/-- strings.Split, sep not empty. (LAID: no walk: one application.) -/
theorem Tryd.strings_Split_shaped (s sep : ByteArray) (w : World) (h : w.ShapedOpen Tryd.prog) (hs : s.size < 4294967281) (h1 : 1 ≤ sep.size) :
    Calls Tryd.prog 11 #[.string s, .string sep] w fun e w' =>
      e = .returned (.slice (some ⟨w.heap.size, 0, none⟩) (Lib.countB s sep + 1) (Lib.countB s sep + 1)) ∧ w' = w.alloc (.cells ((Lib.splitB sep 0 (Lib.countB s sep) s).map Value.string).toArray 9) := Any.strings_Split_shaped Tryd.laysM146 s sep w h hs h1
def Tryd.lays152_ren : Go.Shelf.Ren := ⟨fun | 152 => 62 | 137 => 51 | 119 => 73 | 224 => 66 | 225 => 65 | 217 => 64 | 266 => 74 | n => n, fun | 9 => 9 | 21 => 21 | 3 => 3 | 4 => 4 | 5 => 5 | 0 => 0 | 46 => 88 | n => n, fun | n => n⟩
theorem Tryd.lays152 : Go.Proofs.Lays.n152 Tryd.prog Tryd.lays152_ren := {
  mixed := by kernel_rfl
  f119 := Tryd.func73.trans (congrArg some (by kernel_rfl))
  f137 := Tryd.func51.trans (congrArg some (by kernel_rfl))
  f152 := Tryd.func62.trans (congrArg some (by kernel_rfl))
  f217 := Tryd.func64.trans (congrArg some (by kernel_rfl))
  f224 := Tryd.func66.trans (congrArg some (by kernel_rfl))
  f225 := Tryd.func65.trans (congrArg some (by kernel_rfl))
  f266 := Tryd.func74.trans (congrArg some (by kernel_rfl))
  t0 := Tryd.underlying0
  a0 := Tryd.isAgg0
  z0 := Tryd.sizeOf0
  v0 := Tryd.zeroValue0
  t3 := Tryd.underlying3
  a3 := Tryd.isAgg3
  z3 := Tryd.sizeOf3
  v3 := Tryd.zeroValue3
  t4 := Tryd.underlying4
  a4 := Tryd.isAgg4
  z4 := Tryd.sizeOf4
  v4 := Tryd.zeroValue4
  t5 := Tryd.underlying5
  a5 := Tryd.isAgg5
  z5 := Tryd.sizeOf5
  v5 := Tryd.zeroValue5
  t9 := Tryd.underlying9
  a9 := Tryd.isAgg9
  z9 := Tryd.sizeOf9
  v9 := Tryd.zeroValue9
  t21 := Tryd.underlying21
  a21 := Tryd.isAgg21
  z21 := Tryd.sizeOf21
  v21 := Tryd.zeroValue21
  t46 := Tryd.underlying88
  a46 := Tryd.isAgg88
  z46 := Tryd.sizeOf88
  v46 := Tryd.zeroValue88 }
open Go.RowKit Go.Lib in
theorem Tryd.strings_IndexRune_ascii (s : ByteArray) (r : Int) (w : World) (h0 : 0 ≤ r) (h1 : r < 128) :
    Calls Tryd.prog 62 #[.string s, .int .i32 r] w fun e w' => e = .returned (.int .i64 (Lib.indexByte s.data.toList r.toNat.toUInt8)) ∧ w' = w := Any.strings_IndexRune_ascii Tryd.lays152 s r w h0 h1
def Tryd.lays151_ren : Go.Shelf.Ren := ⟨fun | 151 => 49 | 152 => 62 | 137 => 51 | 119 => 73 | 224 => 66 | 225 => 65 | 217 => 64 | 266 => 74 | n => n, fun | 9 => 9 | 21 => 21 | 4 => 4 | 3 => 3 | 5 => 5 | 0 => 0 | 46 => 88 | n => n, fun | n => n⟩
theorem Tryd.lays151 : Go.Proofs.Lays.n151 Tryd.prog Tryd.lays151_ren := {
  mixed := by kernel_rfl
  f119 := Tryd.func73.trans (congrArg some (by kernel_rfl))
  f137 := Tryd.func51.trans (congrArg some (by kernel_rfl))
  f151 := Tryd.func49.trans (congrArg some (by kernel_rfl))
  f152 := Tryd.func62.trans (congrArg some (by kernel_rfl))
  f217 := Tryd.func64.trans (congrArg some (by kernel_rfl))
  f224 := Tryd.func66.trans (congrArg some (by kernel_rfl))
  f225 := Tryd.func65.trans (congrArg some (by kernel_rfl))
  f266 := Tryd.func74.trans (congrArg some (by kernel_rfl))
  t0 := Tryd.underlying0
  a0 := Tryd.isAgg0
  z0 := Tryd.sizeOf0
  v0 := Tryd.zeroValue0
  t3 := Tryd.underlying3
  a3 := Tryd.isAgg3
  z3 := Tryd.sizeOf3
  v3 := Tryd.zeroValue3
  t4 := Tryd.underlying4
  a4 := Tryd.isAgg4
  z4 := Tryd.sizeOf4
  v4 := Tryd.zeroValue4
  t5 := Tryd.underlying5
  a5 := Tryd.isAgg5
  z5 := Tryd.sizeOf5
  v5 := Tryd.zeroValue5
  t9 := Tryd.underlying9
  a9 := Tryd.isAgg9
  z9 := Tryd.sizeOf9
  v9 := Tryd.zeroValue9
  t21 := Tryd.underlying21
  a21 := Tryd.isAgg21
  z21 := Tryd.sizeOf21
  v21 := Tryd.zeroValue21
  t46 := Tryd.underlying88
  a46 := Tryd.isAgg88
  z46 := Tryd.sizeOf88
  v46 := Tryd.zeroValue88 }
open Go.RowKit Go.Lib in
theorem Tryd.strings_ContainsRune_ascii (s : ByteArray) (r : Int) (w : World) (h0 : 0 ≤ r) (h1 : r < 128) :
    Calls Tryd.prog 49 #[.string s, .int .i32 r] w fun e w' => e = .returned (.bool (decide (0 ≤ Lib.indexByte s.data.toList r.toNat.toUInt8))) ∧ w' = w := Any.strings_ContainsRune_ascii Tryd.lays151 s r w h0 h1
def Tryd.lays227_ren : Go.Shelf.Ren := ⟨fun | 227 => 27 | n => n, fun | 9 => 9 | 116 => 58 | 4 => 4 | 0 => 0 | 3 => 3 | 5 => 5 | n => n, fun | n => n⟩
theorem Tryd.lays227 : Go.Proofs.Lays.n227 Tryd.prog Tryd.lays227_ren := {
  mixed := by kernel_rfl
  f227 := Tryd.func27.trans (congrArg some (by kernel_rfl))
  t0 := Tryd.underlying0
  a0 := Tryd.isAgg0
  z0 := Tryd.sizeOf0
  v0 := Tryd.zeroValue0
  t3 := Tryd.underlying3
  a3 := Tryd.isAgg3
  z3 := Tryd.sizeOf3
  v3 := Tryd.zeroValue3
  t4 := Tryd.underlying4
  a4 := Tryd.isAgg4
  z4 := Tryd.sizeOf4
  v4 := Tryd.zeroValue4
  t5 := Tryd.underlying5
  a5 := Tryd.isAgg5
  z5 := Tryd.sizeOf5
  v5 := Tryd.zeroValue5
  t9 := Tryd.underlying9
  a9 := Tryd.isAgg9
  z9 := Tryd.sizeOf9
  v9 := Tryd.zeroValue9
  t116 := Tryd.underlying58
  a116 := Tryd.isAgg58
  z116 := Tryd.sizeOf58 }
open Go.RowKit Go.Lib in
theorem Tryd.strings_makeASCIISet (hv116 : ∀ w, (zeroValue 58).run Tryd.prog w = .ok (.agg (Array.replicate 256 (.bool false))) w) (chars : ByteArray) (w : World) (hs : chars.size < 4294967281) (hascii : ∀ (j : Nat) b, chars.data.toList[j]? = some b → b.toNat < 128) :
    Calls Tryd.prog 27 #[.string chars] w fun e w' => e = .returned (.tuple #[.agg (Lib.setCells chars.data.toList), .bool true]) ∧ w' = w.alloc (.cells (Lib.setCells chars.data.toList) 58) := Any.strings_makeASCIISet Tryd.lays227 hv116 (by kernel_rfl) chars w hs hascii
def Tryd.lays228_ren : Go.Shelf.Ren := ⟨fun | 228 => 47 | n => n, fun | 124 => 62 | 5 => 5 | 4 => 4 | 0 => 0 | 116 => 58 | n => n, fun | n => n⟩
theorem Tryd.lays228 : Go.Proofs.Lays.n228 Tryd.prog Tryd.lays228_ren := {
  mixed := by kernel_rfl
  f228 := Tryd.func47.trans (congrArg some (by kernel_rfl))
  t0 := Tryd.underlying0
  a0 := Tryd.isAgg0
  z0 := Tryd.sizeOf0
  v0 := Tryd.zeroValue0
  t4 := Tryd.underlying4
  a4 := Tryd.isAgg4
  z4 := Tryd.sizeOf4
  v4 := Tryd.zeroValue4
  t5 := Tryd.underlying5
  a5 := Tryd.isAgg5
  z5 := Tryd.sizeOf5
  v5 := Tryd.zeroValue5
  t116 := Tryd.underlying58
  a116 := Tryd.isAgg58
  z116 := Tryd.sizeOf58
  t124 := Tryd.underlying62
  a124 := Tryd.isAgg62
  z124 := Tryd.sizeOf62
  v124 := Tryd.zeroValue62 }
open Go.RowKit Go.Lib in
/-- '(as *asciiSet) contains(c)': 'as[c]': the set lies at block b, whole. (LAID: no walk: one application.) -/
theorem Tryd.asciiSet_contains (b : Nat) (x : UInt8) (v : Bool) (w : World) (hc : w.cell? ⟨b, x.toNat, none⟩ = some (.bool v)) :
    Calls Tryd.prog 47 #[.pointer (some ⟨b, 0, none⟩), .int .u8 x.toNat] w fun e w' => e = .returned (.bool v) ∧ w' = w := Any.asciiSet_contains Tryd.lays228 b x v w hc
def Tryd.lays260_ren : Go.Shelf.Ren := ⟨fun | 260 => 61 | n => n, fun | 9 => 9 | 21 => 21 | 3 => 3 | 4 => 4 | 5 => 5 | 119 => 101 | 0 => 0 | 46 => 88 | 139 => 104 | 138 => 103 | n => n, fun | 3 => 5 | 4 => 6 | n => n⟩
theorem Tryd.lays260 : Go.Proofs.Lays.n260 Tryd.prog Tryd.lays260_ren := {
  mixed := by kernel_rfl
  f260 := Tryd.func61.trans (congrArg some (by kernel_rfl))
  t0 := Tryd.underlying0
  a0 := Tryd.isAgg0
  z0 := Tryd.sizeOf0
  v0 := Tryd.zeroValue0
  t3 := Tryd.underlying3
  a3 := Tryd.isAgg3
  z3 := Tryd.sizeOf3
  v3 := Tryd.zeroValue3
  t4 := Tryd.underlying4
  a4 := Tryd.isAgg4
  z4 := Tryd.sizeOf4
  v4 := Tryd.zeroValue4
  t5 := Tryd.underlying5
  a5 := Tryd.isAgg5
  z5 := Tryd.sizeOf5
  v5 := Tryd.zeroValue5
  t9 := Tryd.underlying9
  a9 := Tryd.isAgg9
  z9 := Tryd.sizeOf9
  v9 := Tryd.zeroValue9
  t21 := Tryd.underlying21
  a21 := Tryd.isAgg21
  z21 := Tryd.sizeOf21
  v21 := Tryd.zeroValue21
  t46 := Tryd.underlying88
  a46 := Tryd.isAgg88
  z46 := Tryd.sizeOf88
  v46 := Tryd.zeroValue88
  t119 := Tryd.underlying101
  a119 := Tryd.isAgg101
  z119 := Tryd.sizeOf101
  t138 := Tryd.underlying103
  a138 := Tryd.isAgg103
  z138 := Tryd.sizeOf103
  v138 := Tryd.zeroValue103
  t139 := Tryd.underlying104
  a139 := Tryd.isAgg104
  z139 := Tryd.sizeOf104
  v139 := Tryd.zeroValue104
  g3 := by kernel_rfl
  g4 := by kernel_rfl }
open Go.RowKit Go.Lib in
theorem Tryd.utf8_decodeRuneInStringSlow (s : ByteArray) (w : World) (hT : Lib.Utf8Tabs 5 6 w) :
    Calls Tryd.prog 61 #[.string s] w fun e w' => e = .returned (.tuple #[.int .i32 (Lib.decodeGo s).1, .int .i64 (Lib.decodeGo s).2]) ∧ Below w.heap.size w w' := Any.utf8_decodeRuneInStringSlow Tryd.lays260 s w hT
def Tryd.laysSlH6_f121_ren : Go.Shelf.Ren := ⟨fun | 6 => 121 | n => n, fun | 22 => 22 | 23 => 9 | 25 => 25 | 3 => 3 | 0 => 0 | 4 => 4 | n => n, fun | n => n⟩
theorem Tryd.laysSlH6_f121 : Go.Proofs.SlLaysH.n6 Tryd.prog Tryd.laysSlH6_f121_ren := {
  mixed := by kernel_rfl
  f6 := ⟨Tryd.f121.name, by decide, Tryd.func121.trans (congrArg some (by kernel_rfl))⟩
  t0 := Tryd.underlying0
  a0 := Tryd.isAgg0
  z0 := Tryd.sizeOf0
  v0 := Tryd.zeroValue0
  t3 := Tryd.underlying3
  a3 := Tryd.isAgg3
  z3 := Tryd.sizeOf3
  v3 := Tryd.zeroValue3
  t4 := Tryd.underlying4
  a4 := Tryd.isAgg4
  z4 := Tryd.sizeOf4
  v4 := Tryd.zeroValue4
  t22 := Tryd.underlying22
  a22 := Tryd.isAgg22
  z22 := Tryd.sizeOf22
  v22 := Tryd.zeroValue22
  a23 := Tryd.isAgg9
  z23 := Tryd.sizeOf9
  t25 := Tryd.underlying25
  a25 := Tryd.isAgg25
  z25 := Tryd.sizeOf25
  v25 := Tryd.zeroValue25 }
open Go.RowKit Go.Lib in
/-- slices.IndexFunc: "IndexFunc returns the first index i satisfying f(s[i]), or -1 if none do." (LAID AT THE INSTANCE 'slices.IndexFunc[[]string,string]': no walk: one application.) -/
theorem Tryd.slices_IndexFunc {α : Type} [Inhabited α] (enc : α → Value) (p : α → Bool) (g : Nat) (lb : Array Value) (eg : ∀ args w, (callFunc g args).run Tryd.prog w = .ok (.enter g args) w) (b off n c : Nat) (zs : List α) (w : World) (hp : PredAt Tryd.prog g lb enc p w) (hz : n ≤ zs.length) (hbig : n ≤ 9223372036854775807) (hc : ∀ j, j < zs.length → w.cell? ⟨b, off + j, none⟩ = some (enc zs[j]!)) :
    Calls Tryd.prog 121 #[.slice (some ⟨b, off, none⟩) n c, .func (.func g) #[] lb] w fun e w' => e = .returned (.int .i64 (Lib.idxBy (fun _ y => p y) (zs.take n) default)) ∧ ∃ q, w' = w.drewN q := AnyE.slices_IndexFunc Tryd.laysSlH6_f121 enc p g lb eg b off n c zs w hp hz hbig hc
open Go.RowKit Go.Lib in
/-- The same at a slice of length 0, a nil one too: the predicate is not called: nothing is asked of it. (LAID AT THE INSTANCE 'slices.IndexFunc[[]string,string]': no walk: one application.) -/
theorem Tryd.slices_IndexFunc_empty {α : Type} [Inhabited α] (a : Option Addr) (c : Nat) (fv : Value) (w : World) :
    Calls Tryd.prog 121 #[.slice a 0 c, fv] w fun e w' => e = .returned (.int .i64 (-1)) ∧ w' = w := AnyE.slices_IndexFunc_empty Tryd.laysSlH6_f121 a c fv w
def Tryd.laysSlH8_f117_ren : Go.Shelf.Ren := ⟨fun | 8 => 117 | 6 => 121 | n => n, fun | 22 => 22 | 23 => 9 | 25 => 25 | 4 => 4 | 3 => 3 | 0 => 0 | n => n, fun | n => n⟩
theorem Tryd.laysSlH8_f117 : Go.Proofs.SlLaysH.n8 Tryd.prog Tryd.laysSlH8_f117_ren := {
  mixed := by kernel_rfl
  f6 := ⟨Tryd.f121.name, by decide, Tryd.func121.trans (congrArg some (by kernel_rfl))⟩
  f8 := ⟨Tryd.f117.name, by decide, Tryd.func117.trans (congrArg some (by kernel_rfl))⟩
  t0 := Tryd.underlying0
  a0 := Tryd.isAgg0
  z0 := Tryd.sizeOf0
  v0 := Tryd.zeroValue0
  t3 := Tryd.underlying3
  a3 := Tryd.isAgg3
  z3 := Tryd.sizeOf3
  v3 := Tryd.zeroValue3
  t4 := Tryd.underlying4
  a4 := Tryd.isAgg4
  z4 := Tryd.sizeOf4
  v4 := Tryd.zeroValue4
  t22 := Tryd.underlying22
  a22 := Tryd.isAgg22
  z22 := Tryd.sizeOf22
  v22 := Tryd.zeroValue22
  a23 := Tryd.isAgg9
  z23 := Tryd.sizeOf9
  t25 := Tryd.underlying25
  a25 := Tryd.isAgg25
  z25 := Tryd.sizeOf25
  v25 := Tryd.zeroValue25 }
open Go.RowKit Go.Lib in
/-- slices.ContainsFunc: "ContainsFunc reports whether at least one element e of s satisfies f(e).": ITS CALLEE slices.IndexFunc IS MET BY ITS OWN CONTRACT. (LAID AT THE INSTANCE 'slices.ContainsFunc[[]string,string]': no walk: one application.) -/
theorem Tryd.slices_ContainsFunc {α : Type} [Inhabited α] (enc : α → Value) (p : α → Bool) (g : Nat) (lb : Array Value) (eg : ∀ args w, (callFunc g args).run Tryd.prog w = .ok (.enter g args) w) (b off n c : Nat) (zs : List α) (w : World) (hp : PredAt Tryd.prog g lb enc p w) (hz : n ≤ zs.length) (hbig : n ≤ 9223372036854775807) (hc : ∀ j, j < zs.length → w.cell? ⟨b, off + j, none⟩ = some (enc zs[j]!)) :
    Calls Tryd.prog 117 #[.slice (some ⟨b, off, none⟩) n c, .func (.func g) #[] lb] w fun e w' => e = .returned (.bool ((zs.take n).any p)) ∧ ∃ q, w' = w.drewN q := AnyE.slices_ContainsFunc Tryd.laysSlH8_f117 enc p g lb eg b off n c zs w hp hz hbig hc
open Go.RowKit Go.Lib in
/-- The same at a slice of length 0, a nil one too. (LAID AT THE INSTANCE 'slices.ContainsFunc[[]string,string]': no walk: one application.) -/
theorem Tryd.slices_ContainsFunc_empty {α : Type} [Inhabited α] (a : Option Addr) (c : Nat) (fv : Value) (w : World) :
    Calls Tryd.prog 117 #[.slice a 0 c, fv] w fun e w' => e = .returned (.bool false) ∧ w' = w := AnyE.slices_ContainsFunc_empty Tryd.laysSlH8_f117 a c fv w
end Go.Proofs
