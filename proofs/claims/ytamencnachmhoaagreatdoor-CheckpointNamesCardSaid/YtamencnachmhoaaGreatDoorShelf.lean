/-
  DERIVED: THE SHELF's CONTRACTS AT THIS DUMP, IN PLAIN WORDS (tools/lay-plain.mjs out of 'TryzShelf.lean', which tools/lay-shelf.mjs wrote): THE SAME DECLARATIONS UNDER THE SAME NAMES: 'import', 'namespace', 'open', 'def', 'theorem' AND NOTHING ELSE: no command of the shelf's: FOR A HAND-IN. Each laying: the table of numbers ('.._ren') and one theorem, a field a fact of the dump's own or the kernel's comparison; each contract: ONE APPLICATION.
-/
import Derived.Shelf.Strings.Builder1
import Derived.Shelf.Strings.Builder2
import Derived.Shelf.Strings.Trim
import Derived.Shelf.Small.Utf8
import Derived.Shelf.Small.Bits
import Derived.Shelf.Small.Strs
import Derived.Shelf.Small.Wraps
import Derived.Shelf.Strconv.Itoa0
import Derived.Shelf.Strconv.Itoa1
import Derived.Shelf.LaysM
import Derived.Shelf.Strconv.Itoa2
import Derived.Shelf.Strconv.Itoa3
import Derived.Shelf.Strconv.Clone
import Derived.Shelf.Strconv.Lower
import Derived.Shelf.Strconv.ParseUint10Empty
import Derived.Shelf.Strconv.ParseUintEmpty
import Derived.Shelf.Strings.Search1
import Derived.Shelf.Strings.Prefix
import Derived.Shelf.Strings.Runes
import Derived.Shelf.Strings.AsciiSet
import Derived.Shelf.Bits.Mul64
import Derived.Shelf.Unicode.DecodeSlow
import Derived.Ground.SlgfProg
import Derived.Shelf.SlicesE.IndexFunc
import Derived.Ground.SlgmProg
import Derived.Shelf.SortM.Plain
import Derived.Shelf.SortM.SortNone
import Derived.Test.YtamencnachmhoaaGreatDoorProg
namespace Go.Proofs
open Go.Shelf
def Tryz.lays170_ren : Go.Shelf.Ren := ⟨fun | 170 => 91 | n => n, fun | 70 => 147 | 3 => 3 | 0 => 0 | 72 => 149 | 37 => 22 | 5 => 5 | n => n, fun | n => n⟩
theorem Tryz.lays170 : Go.Proofs.Lays.n170 Tryz.prog Tryz.lays170_ren := {
  mixed := by kernel_rfl
  f170 := Tryz.func91.trans (congrArg some (by kernel_rfl))
  t0 := Tryz.underlying0
  a0 := Tryz.isAgg0
  z0 := Tryz.sizeOf0
  v0 := Tryz.zeroValue0
  t3 := Tryz.underlying3
  a3 := Tryz.isAgg3
  z3 := Tryz.sizeOf3
  v3 := Tryz.zeroValue3
  t37 := Tryz.underlying22
  a37 := Tryz.isAgg22
  z37 := Tryz.sizeOf22
  v37 := Tryz.zeroValue22
  t70 := Tryz.underlying147
  a70 := Tryz.isAgg147
  z70 := Tryz.sizeOf147
  v70 := Tryz.zeroValue147
  t72 := Tryz.underlying149
  a72 := Tryz.isAgg149
  z72 := Tryz.sizeOf149
  v72 := Tryz.zeroValue149 }
open Go.RowKit in
/-- (*strings.Builder).Len: "Len returns the number of accumulated bytes; b.Len() == len(b.String()).": the world is as it was. (LAID: no walk: one application.) -/
theorem Tryz.Builder_Len (B b : Nat) (bs : List Value) (w : World) (h : Lib.IsBuilder 149 5 B b bs w) :
    Calls Tryz.prog 91 #[.pointer (some ⟨b, 0, none⟩)] w fun e w' => e = .returned (.int .i64 bs.length) ∧ w' = w := Any.Builder_Len Tryz.lays170 B b bs w h
def Tryz.lays169_ren : Go.Shelf.Ren := ⟨fun | 169 => 92 | n => n, fun | 70 => 147 | 9 => 9 | 0 => 0 | 72 => 149 | 37 => 22 | 127 => 214 | 3 => 3 | 5 => 5 | n => n, fun | n => n⟩
theorem Tryz.lays169 : Go.Proofs.Lays.n169 Tryz.prog Tryz.lays169_ren := {
  mixed := by kernel_rfl
  f169 := Tryz.func92.trans (congrArg some (by kernel_rfl))
  t0 := Tryz.underlying0
  a0 := Tryz.isAgg0
  z0 := Tryz.sizeOf0
  v0 := Tryz.zeroValue0
  t3 := Tryz.underlying3
  a3 := Tryz.isAgg3
  z3 := Tryz.sizeOf3
  v3 := Tryz.zeroValue3
  t9 := Tryz.underlying9
  a9 := Tryz.isAgg9
  z9 := Tryz.sizeOf9
  v9 := Tryz.zeroValue9
  t37 := Tryz.underlying22
  a37 := Tryz.isAgg22
  z37 := Tryz.sizeOf22
  v37 := Tryz.zeroValue22
  t70 := Tryz.underlying147
  a70 := Tryz.isAgg147
  z70 := Tryz.sizeOf147
  v70 := Tryz.zeroValue147
  t72 := Tryz.underlying149
  a72 := Tryz.isAgg149
  z72 := Tryz.sizeOf149
  v72 := Tryz.zeroValue149
  t127 := Tryz.underlying214
  a127 := Tryz.isAgg214
  z127 := Tryz.sizeOf214
  v127 := Tryz.zeroValue214 }
theorem Tryz.Builder_Extra_169 : Builder.Extra Tryz.prog Tryz.lays169_ren := {
  sizeBuilder := by kernel_rfl
  liesBuilder := by kernel_rfl
  t5 := Tryz.underlying5
  a5 := Tryz.isAgg5
  z5 := Tryz.sizeOf5
  v5 := Tryz.zeroValue5
  infoByte := by kernel_rfl
  cellsByte := by kernel_rfl
  sizeByte := by kernel_rfl
  neB5 := by decide }
open Go.RowKit in
/-- (*strings.Builder).String: "String returns the accumulated string.": OF A BUILDER THAT HOLDS AT LEAST ONE BYTE. ✋ THE MODEL FREEZES THOSE BYTES IN THE BUFFER (unsafe.String): a later write INTO them ends the model's run without an answer; a later append BEHIND them goes on. The statement's order of evaluation is drawn: one draw. (LAID: no walk: one application.) -/
theorem Tryz.Builder_String (B b : Nat) (l : List UInt8) (w : World) (h : Lib.IsBuilder 149 5 B b (Lib.byteCells l) w) (h0 : l ≠ []) :
    Calls Tryz.prog 92 #[.pointer (some ⟨b, 0, none⟩)] w fun e w' => e = .returned (.string ⟨l.toArray⟩) ∧ Below B w w' := Any.Builder_String Tryz.lays169 Tryz.Builder_Extra_169 B b l w h h0
open Go.RowKit in
/-- (*strings.Builder).String OF A BUILDER THAT HOLDS NO BYTE: the empty string. (Its buffer is nil, or a row of which it has taken nothing yet; where that row has NO capacity the model lays one new block for unsafe.SliceData's 'some address'.) One draw. (LAID: no walk: one application.) -/
theorem Tryz.Builder_String_empty (B b : Nat) (w : World) (h : Lib.IsBuilder 149 5 B b [] w) (hBw : B ≤ w.heap.size) :
    Calls Tryz.prog 92 #[.pointer (some ⟨b, 0, none⟩)] w fun e w' => e = .returned (.string ⟨#[]⟩) ∧ Below B w w' := Any.Builder_String_empty Tryz.lays169 Tryz.Builder_Extra_169 B b w h hBw
open Go.RowKit in
/-- (*strings.Builder).String: "String returns the accumulated string.": WHATEVER THE BUILDER HOLDS. (LAID: no walk: one application.) -/
theorem Tryz.Builder_String_any (B b : Nat) (l : List UInt8) (w : World) (h : Lib.IsBuilder 149 5 B b (Lib.byteCells l) w) (hBw : B ≤ w.heap.size) :
    Calls Tryz.prog 92 #[.pointer (some ⟨b, 0, none⟩)] w fun e w' => e = .returned (.string ⟨l.toArray⟩) ∧ Below B w w' := Any.Builder_String_any Tryz.lays169 Tryz.Builder_Extra_169 B b l w h hBw
def Tryz.lays241_ren : Go.Shelf.Ren := ⟨fun | 241 => 158 | 277 => 189 | n => n, fun | 70 => 147 | 3 => 3 | 0 => 0 | 72 => 149 | 37 => 22 | 5 => 5 | n => n, fun | n => n⟩
theorem Tryz.lays241 : Go.Proofs.Lays.n241 Tryz.prog Tryz.lays241_ren := {
  mixed := by kernel_rfl
  f241 := Tryz.func158.trans (congrArg some (by kernel_rfl))
  f277 := Tryz.func189.trans (congrArg some (by kernel_rfl))
  t0 := Tryz.underlying0
  a0 := Tryz.isAgg0
  z0 := Tryz.sizeOf0
  v0 := Tryz.zeroValue0
  t3 := Tryz.underlying3
  a3 := Tryz.isAgg3
  z3 := Tryz.sizeOf3
  v3 := Tryz.zeroValue3
  t37 := Tryz.underlying22
  a37 := Tryz.isAgg22
  z37 := Tryz.sizeOf22
  v37 := Tryz.zeroValue22
  t70 := Tryz.underlying147
  a70 := Tryz.isAgg147
  z70 := Tryz.sizeOf147
  v70 := Tryz.zeroValue147
  t72 := Tryz.underlying149
  a72 := Tryz.isAgg149
  z72 := Tryz.sizeOf149
  v72 := Tryz.zeroValue149 }
theorem Tryz.Builder_Extra_241 : Builder.Extra Tryz.prog Tryz.lays241_ren := {
  sizeBuilder := by kernel_rfl
  liesBuilder := by kernel_rfl
  t5 := Tryz.underlying5
  a5 := Tryz.isAgg5
  z5 := Tryz.sizeOf5
  v5 := Tryz.zeroValue5
  infoByte := by kernel_rfl
  cellsByte := by kernel_rfl
  sizeByte := by kernel_rfl
  neB5 := by decide }
open Go.RowKit in
/-- (*strings.Builder).grow (no doc but "grow copies the buffer to a new, larger buffer so that there are at least n bytes of capacity beyond len(b.buf)."): AT A BUILDER WITHOUT A BUFFER: a new row of whatever bytes for its buffer, none of them its own yet. Three draws. (LAID: no walk: one application.) -/
theorem Tryz.Builder_grow_fresh (B b n : Nat) (w : World) (hB : B ≤ b) (hbk : w.heap[b]? = some (.cells #[.pointer (some ⟨b, 0, none⟩), .slice none 0 0] 149 (0, 0))) (hBw : B ≤ w.heap.size) (hn : n ≤ 281474976710656) :
    Calls Tryz.prog 158 #[.pointer (some ⟨b, 0, none⟩), .int .i64 n] w fun e w' => e = .returned (.tuple #[]) ∧ (Lib.BuilderAt 149 5 B b (.pointer (some ⟨b, 0, none⟩)) [] w' ∧ Below B w w') := Any.Builder_grow_fresh Tryz.lays241 Tryz.Builder_Extra_241 B b n w hB hbk hBw hn
def Tryz.lays165_ren : Go.Shelf.Ren := ⟨fun | 165 => 89 | 240 => 157 | 241 => 158 | 276 => 188 | 277 => 189 | n => n, fun | 70 => 147 | 3 => 3 | 0 => 0 | 4 => 4 | 9 => 9 | 20 => 20 | 72 => 149 | 37 => 22 | 164 => 245 | 5 => 5 | n => n, fun | n => n⟩
theorem Tryz.lays165 : Go.Proofs.Lays.n165 Tryz.prog Tryz.lays165_ren := {
  mixed := by kernel_rfl
  f165 := Tryz.func89.trans (congrArg some (by kernel_rfl))
  f240 := Tryz.func157.trans (congrArg some (by kernel_rfl))
  f241 := Tryz.func158.trans (congrArg some (by kernel_rfl))
  f276 := Tryz.func188.trans (congrArg some (by kernel_rfl))
  f277 := Tryz.func189.trans (congrArg some (by kernel_rfl))
  t0 := Tryz.underlying0
  a0 := Tryz.isAgg0
  z0 := Tryz.sizeOf0
  v0 := Tryz.zeroValue0
  t3 := Tryz.underlying3
  a3 := Tryz.isAgg3
  z3 := Tryz.sizeOf3
  v3 := Tryz.zeroValue3
  t4 := Tryz.underlying4
  a4 := Tryz.isAgg4
  z4 := Tryz.sizeOf4
  v4 := Tryz.zeroValue4
  t9 := Tryz.underlying9
  a9 := Tryz.isAgg9
  z9 := Tryz.sizeOf9
  v9 := Tryz.zeroValue9
  t20 := Tryz.underlying20
  a20 := Tryz.isAgg20
  z20 := Tryz.sizeOf20
  v20 := Tryz.zeroValue20
  t37 := Tryz.underlying22
  a37 := Tryz.isAgg22
  z37 := Tryz.sizeOf22
  v37 := Tryz.zeroValue22
  t70 := Tryz.underlying147
  a70 := Tryz.isAgg147
  z70 := Tryz.sizeOf147
  v70 := Tryz.zeroValue147
  t72 := Tryz.underlying149
  a72 := Tryz.isAgg149
  z72 := Tryz.sizeOf149
  v72 := Tryz.zeroValue149
  t164 := Tryz.underlying245
  a164 := Tryz.isAgg245
  z164 := Tryz.sizeOf245
  v164 := Tryz.zeroValue245 }
theorem Tryz.Builder_Extra_165 : Builder.Extra Tryz.prog Tryz.lays165_ren := {
  sizeBuilder := by kernel_rfl
  liesBuilder := by kernel_rfl
  t5 := Tryz.underlying5
  a5 := Tryz.isAgg5
  z5 := Tryz.sizeOf5
  v5 := Tryz.zeroValue5
  infoByte := by kernel_rfl
  cellsByte := by kernel_rfl
  sizeByte := by kernel_rfl
  neB5 := by decide }
open Go.RowKit in
/-- (*strings.Builder).Grow AT A BUILDER THAT HAS NOT BEEN WRITTEN ('var b strings.Builder; b.Grow(n)'): "Grow grows b's capacity, if necessary, to guarantee space for another n bytes.": it holds no byte behind it as before it. (LAID: no walk: one application.) -/
theorem Tryz.Builder_Grow_fresh (B b n : Nat) (w : World) (hB : B ≤ b) (hbk : w.heap[b]? = some (.cells #[.pointer none, .slice none 0 0] 149 (0, 0))) (hBw : B ≤ w.heap.size) (hn : n ≤ 281474976710656) :
    Calls Tryz.prog 89 #[.pointer (some ⟨b, 0, none⟩), .int .i64 n] w fun e w' => e = .returned (.tuple #[]) ∧ (Lib.BuilderAt 149 5 B b (.pointer (some ⟨b, 0, none⟩)) [] w' ∧ Below B w w') := Any.Builder_Grow_fresh Tryz.lays165 Tryz.Builder_Extra_165 B b n w hB hbk hBw hn
def Tryz.lays231_ren : Go.Shelf.Ren := ⟨fun | 231 => 146 | n => n, fun | 9 => 9 | 5 => 5 | 3 => 3 | 4 => 4 | n => n, fun | n => n⟩
theorem Tryz.lays231 : Go.Proofs.Lays.n231 Tryz.prog Tryz.lays231_ren := {
  mixed := by kernel_rfl
  f231 := Tryz.func146.trans (congrArg some (by kernel_rfl))
  t3 := Tryz.underlying3
  a3 := Tryz.isAgg3
  z3 := Tryz.sizeOf3
  v3 := Tryz.zeroValue3
  t4 := Tryz.underlying4
  a4 := Tryz.isAgg4
  z4 := Tryz.sizeOf4
  v4 := Tryz.zeroValue4
  t5 := Tryz.underlying5
  a5 := Tryz.isAgg5
  z5 := Tryz.sizeOf5
  v5 := Tryz.zeroValue5
  t9 := Tryz.underlying9
  a9 := Tryz.isAgg9
  z9 := Tryz.sizeOf9
  v9 := Tryz.zeroValue9 }
open Go.RowKit in
/-- strings.trimLeftByte (no doc; what TrimLeft and Trim call at a cutset of one ASCII byte): the leading bytes that are c are cut off. The world is as it was. (LAID: no walk: one application.) -/
theorem Tryz.strings_trimLeftByte (s : ByteArray) (c : UInt8) (w : World) :
    Calls Tryz.prog 146 #[.string s, .int .u8 c.toNat] w fun e w' => e = .returned (.string ⟨(Lib.trimLeftB s.data.toList c).toArray⟩) ∧ w' = w := Any.strings_trimLeftByte Tryz.lays231 s c w
def Tryz.lays232_ren : Go.Shelf.Ren := ⟨fun | 232 => 147 | n => n, fun | 9 => 9 | 5 => 5 | 3 => 3 | 4 => 4 | n => n, fun | n => n⟩
theorem Tryz.lays232 : Go.Proofs.Lays.n232 Tryz.prog Tryz.lays232_ren := {
  mixed := by kernel_rfl
  f232 := Tryz.func147.trans (congrArg some (by kernel_rfl))
  t3 := Tryz.underlying3
  a3 := Tryz.isAgg3
  z3 := Tryz.sizeOf3
  v3 := Tryz.zeroValue3
  t4 := Tryz.underlying4
  a4 := Tryz.isAgg4
  z4 := Tryz.sizeOf4
  v4 := Tryz.zeroValue4
  t5 := Tryz.underlying5
  a5 := Tryz.isAgg5
  z5 := Tryz.sizeOf5
  v5 := Tryz.zeroValue5
  t9 := Tryz.underlying9
  a9 := Tryz.isAgg9
  z9 := Tryz.sizeOf9
  v9 := Tryz.zeroValue9 }
open Go.RowKit in
/-- strings.trimRightByte (no doc; what TrimRight and Trim call at a cutset of one ASCII byte): the trailing bytes that are c are cut off. The world is as it was. ('hs': a string's length is a number that an int holds.) (LAID: no walk: one application.) -/
theorem Tryz.strings_trimRightByte (s : ByteArray) (c : UInt8) (w : World) (hs : s.size ≤ 9223372036854775807) :
    Calls Tryz.prog 147 #[.string s, .int .u8 c.toNat] w fun e w' => e = .returned (.string ⟨(Lib.trimRightB s.data.toList c).toArray⟩) ∧ w' = w := Any.strings_trimRightByte Tryz.lays232 s c w hs
def Tryz.lays160_ren : Go.Shelf.Ren := ⟨fun | 160 => 85 | 232 => 147 | 231 => 146 | 227 => 148 | 234 => 150 | 233 => 149 | 236 => 152 | 235 => 151 | 228 => 180 | 271 => 183 | 151 => 182 | 197 => 181 | 120 => 227 | 152 => 226 | 260 => 225 | 137 => 243 | 119 => 244 | 224 => 245 | 225 => 246 | 217 => 251 | 266 => 252 | n => n, fun | 9 => 9 | 4 => 4 | 3 => 3 | 5 => 5 | 117 => 205 | 116 => 204 | 0 => 0 | 124 => 208 | 21 => 21 | 105 => 237 | 46 => 143 | 119 => 286 | 139 => 289 | 138 => 288 | n => n, fun | 3 => 4 | 4 => 5 | n => n⟩
theorem Tryz.lays160 : Go.Proofs.Lays.n160 Tryz.prog Tryz.lays160_ren := {
  mixed := by kernel_rfl
  f119 := Tryz.func244.trans (congrArg some (by kernel_rfl))
  f120 := Tryz.func227.trans (congrArg some (by kernel_rfl))
  f137 := Tryz.func243.trans (congrArg some (by kernel_rfl))
  f151 := Tryz.func182.trans (congrArg some (by kernel_rfl))
  f152 := Tryz.func226.trans (congrArg some (by kernel_rfl))
  f160 := Tryz.func85.trans (congrArg some (by kernel_rfl))
  f197 := Tryz.func181.trans (congrArg some (by kernel_rfl))
  f217 := Tryz.func251.trans (congrArg some (by kernel_rfl))
  f224 := Tryz.func245.trans (congrArg some (by kernel_rfl))
  f225 := Tryz.func246.trans (congrArg some (by kernel_rfl))
  f227 := Tryz.func148.trans (congrArg some (by kernel_rfl))
  f228 := Tryz.func180.trans (congrArg some (by kernel_rfl))
  f231 := Tryz.func146.trans (congrArg some (by kernel_rfl))
  f232 := Tryz.func147.trans (congrArg some (by kernel_rfl))
  f233 := Tryz.func149.trans (congrArg some (by kernel_rfl))
  f234 := Tryz.func150.trans (congrArg some (by kernel_rfl))
  f235 := Tryz.func151.trans (congrArg some (by kernel_rfl))
  f236 := Tryz.func152.trans (congrArg some (by kernel_rfl))
  f260 := Tryz.func225.trans (congrArg some (by kernel_rfl))
  f266 := Tryz.func252.trans (congrArg some (by kernel_rfl))
  f271 := Tryz.func183.trans (congrArg some (by kernel_rfl))
  t0 := Tryz.underlying0
  a0 := Tryz.isAgg0
  z0 := Tryz.sizeOf0
  v0 := Tryz.zeroValue0
  t3 := Tryz.underlying3
  a3 := Tryz.isAgg3
  z3 := Tryz.sizeOf3
  v3 := Tryz.zeroValue3
  t4 := Tryz.underlying4
  a4 := Tryz.isAgg4
  z4 := Tryz.sizeOf4
  v4 := Tryz.zeroValue4
  t5 := Tryz.underlying5
  a5 := Tryz.isAgg5
  z5 := Tryz.sizeOf5
  v5 := Tryz.zeroValue5
  t9 := Tryz.underlying9
  a9 := Tryz.isAgg9
  z9 := Tryz.sizeOf9
  v9 := Tryz.zeroValue9
  t21 := Tryz.underlying21
  a21 := Tryz.isAgg21
  z21 := Tryz.sizeOf21
  v21 := Tryz.zeroValue21
  t46 := Tryz.underlying143
  a46 := Tryz.isAgg143
  z46 := Tryz.sizeOf143
  v46 := Tryz.zeroValue143
  t105 := Tryz.underlying237
  a105 := Tryz.isAgg237
  z105 := Tryz.sizeOf237
  v105 := Tryz.zeroValue237
  t116 := Tryz.underlying204
  a116 := Tryz.isAgg204
  z116 := Tryz.sizeOf204
  t117 := Tryz.underlying205
  a117 := Tryz.isAgg205
  z117 := Tryz.sizeOf205
  v117 := Tryz.zeroValue205
  t119 := Tryz.underlying286
  a119 := Tryz.isAgg286
  z119 := Tryz.sizeOf286
  t124 := Tryz.underlying208
  a124 := Tryz.isAgg208
  z124 := Tryz.sizeOf208
  v124 := Tryz.zeroValue208
  t138 := Tryz.underlying288
  a138 := Tryz.isAgg288
  z138 := Tryz.sizeOf288
  v138 := Tryz.zeroValue288
  t139 := Tryz.underlying289
  a139 := Tryz.isAgg289
  z139 := Tryz.sizeOf289
  v139 := Tryz.zeroValue289
  g3 := by kernel_rfl
  g4 := by kernel_rfl }
open Go.RowKit in
/-- strings.Trim: "Trim returns a slice of the string s with all leading and trailing Unicode code points contained in cutset removed.": AT A cutset OF ONE ASCII BYTE. THE WORLD BEHIND IT: as it was, or (where s is not empty) with ONE DRAW MORE off the tape: the statement 'return trimLeftByte(trimRightByte(s, c), c)' draws its order of evaluation. (LAID: no walk: one application.) -/
theorem Tryz.strings_Trim_one (s : ByteArray) (c : UInt8) (hc : c.toNat < 128) (w : World) (hs : s.size ≤ 9223372036854775807) :
    Calls Tryz.prog 85 #[.string s, .string ⟨#[c]⟩] w fun e w' => e = .returned (.string ⟨(Lib.trimB s.data.toList c).toArray⟩) ∧ (w' = w ∨ w' = w.drew) := Any.strings_Trim_one Tryz.lays160 s c hc w hs
def Tryz.lays119_ren : Go.Shelf.Ren := ⟨fun | 119 => 244 | n => n, fun | 21 => 21 | 4 => 4 | n => n, fun | n => n⟩
theorem Tryz.lays119 : Go.Proofs.Lays.n119 Tryz.prog Tryz.lays119_ren := {
  mixed := by kernel_rfl
  f119 := Tryz.func244.trans (congrArg some (by kernel_rfl))
  t4 := Tryz.underlying4
  a4 := Tryz.isAgg4
  z4 := Tryz.sizeOf4
  v4 := Tryz.zeroValue4
  t21 := Tryz.underlying21
  a21 := Tryz.isAgg21
  z21 := Tryz.sizeOf21
  v21 := Tryz.zeroValue21 }
/-- utf8.ValidRune: "ValidRune reports whether r can be legally encoded as UTF-8. Code points that are out of range or a surrogate half are illegal.": IT RETURNS 'Lib.validRune r'; the world is as it was. (LAID: no walk: one application.) -/
theorem Tryz.utf8_ValidRune (r : Int) (w : World) :
    Calls Tryz.prog 244 #[.int .i32 r] w fun e w' => e = .returned (.bool (Lib.validRune r)) ∧ w' = w := Any.utf8_ValidRune Tryz.lays119 r w
def Tryz.lays120_ren : Go.Shelf.Ren := ⟨fun | 120 => 227 | n => n, fun | 5 => 5 | 4 => 4 | n => n, fun | n => n⟩
theorem Tryz.lays120 : Go.Proofs.Lays.n120 Tryz.prog Tryz.lays120_ren := {
  mixed := by kernel_rfl
  f120 := Tryz.func227.trans (congrArg some (by kernel_rfl))
  t4 := Tryz.underlying4
  a4 := Tryz.isAgg4
  z4 := Tryz.sizeOf4
  v4 := Tryz.zeroValue4
  t5 := Tryz.underlying5
  a5 := Tryz.isAgg5
  z5 := Tryz.sizeOf5
  v5 := Tryz.zeroValue5 }
/-- utf8.RuneStart: "RuneStart reports whether the byte could be the first byte of an encoded, possibly invalid rune. Second and subsequent bytes always have the top two bits set to 10.": IT RETURNS 'Lib.runeStart b'; the world is as it was. ('h0', 'h1': b is a byte: a caller has it of every byte that it was handed.) (LAID: no walk: one application.) -/
theorem Tryz.utf8_RuneStart (b : Int) (w : World) (h0 : 0 ≤ b) (h1 : b < 256) :
    Calls Tryz.prog 227 #[.int .u8 b] w fun e w' => e = .returned (.bool (Lib.runeStart b)) ∧ w' = w := Any.utf8_RuneStart Tryz.lays120 b w h0 h1
def Tryz.lays128_ren : Go.Shelf.Ren := ⟨fun | 128 => 205 | n => n, fun | 51 => 158 | 3 => 3 | 4 => 4 | 46 => 143 | 5 => 5 | 9 => 9 | n => n, fun | n => n⟩
theorem Tryz.lays128 : Go.Proofs.Lays.n128 Tryz.prog Tryz.lays128_ren := {
  mixed := by kernel_rfl
  f128 := Tryz.func205.trans (congrArg some (by kernel_rfl))
  t3 := Tryz.underlying3
  a3 := Tryz.isAgg3
  z3 := Tryz.sizeOf3
  v3 := Tryz.zeroValue3
  t4 := Tryz.underlying4
  a4 := Tryz.isAgg4
  z4 := Tryz.sizeOf4
  v4 := Tryz.zeroValue4
  t5 := Tryz.underlying5
  a5 := Tryz.isAgg5
  z5 := Tryz.sizeOf5
  v5 := Tryz.zeroValue5
  t9 := Tryz.underlying9
  a9 := Tryz.isAgg9
  z9 := Tryz.sizeOf9
  v9 := Tryz.zeroValue9
  t46 := Tryz.underlying143
  a46 := Tryz.isAgg143
  z46 := Tryz.sizeOf143
  v46 := Tryz.zeroValue143
  t51 := Tryz.underlying158
  a51 := Tryz.isAgg158
  z51 := Tryz.sizeOf158
  v51 := Tryz.zeroValue158 }
/-- bits.Len32: "Len32 returns the minimum number of bits required to represent x; the result is 0 for x == 0.": IT RETURNS 'Lib.bitLen x'; the world is as it was. ('h0', 'h1': x is a uint32.) (LAID: no walk: one application.) -/
theorem Tryz.bits_Len32 (x : Int) (w : World) (h0 : 0 ≤ x) (h1 : x ≤ 4294967295) :
    Calls Tryz.prog 205 #[.int .u32 x] w fun e w' => e = .returned (.int .i64 (Lib.bitLen x.toNat)) ∧ w' = w := Any.bits_Len32 Tryz.lays128 x w h0 h1
def Tryz.lays125_ren : Go.Shelf.Ren := ⟨fun | 125 => 169 | 128 => 205 | 129 => 206 | n => n, fun | 46 => 143 | 3 => 3 | 51 => 158 | 53 => 78 | 4 => 4 | 5 => 5 | 9 => 9 | n => n, fun | n => n⟩
theorem Tryz.lays125 : Go.Proofs.Lays.n125 Tryz.prog Tryz.lays125_ren := {
  mixed := by kernel_rfl
  f125 := Tryz.func169.trans (congrArg some (by kernel_rfl))
  f128 := Tryz.func205.trans (congrArg some (by kernel_rfl))
  f129 := Tryz.func206.trans (congrArg some (by kernel_rfl))
  t3 := Tryz.underlying3
  a3 := Tryz.isAgg3
  z3 := Tryz.sizeOf3
  v3 := Tryz.zeroValue3
  t4 := Tryz.underlying4
  a4 := Tryz.isAgg4
  z4 := Tryz.sizeOf4
  v4 := Tryz.zeroValue4
  t5 := Tryz.underlying5
  a5 := Tryz.isAgg5
  z5 := Tryz.sizeOf5
  v5 := Tryz.zeroValue5
  t9 := Tryz.underlying9
  a9 := Tryz.isAgg9
  z9 := Tryz.sizeOf9
  v9 := Tryz.zeroValue9
  t46 := Tryz.underlying143
  a46 := Tryz.isAgg143
  z46 := Tryz.sizeOf143
  v46 := Tryz.zeroValue143
  t51 := Tryz.underlying158
  a51 := Tryz.isAgg158
  z51 := Tryz.sizeOf158
  v51 := Tryz.zeroValue158
  t53 := Tryz.underlying78
  a53 := Tryz.isAgg78
  z53 := Tryz.sizeOf78
  v53 := Tryz.zeroValue78 }
/-- bits.Len: "Len returns the minimum number of bits required to represent x; the result is 0 for x == 0.": IT RETURNS 'Lib.bitLen x'; the world is as it was. (A uint has 64 bits in the model.) ITS CALLEE bits.Len64 IS MET BY ITS OWN CONTRACT OFF THE SHELF (lay that first). (LAID: no walk: one application.) -/
theorem Tryz.bits_Len (x : Int) (w : World) (h0 : 0 ≤ x) (h1 : x ≤ 18446744073709551615) :
    Calls Tryz.prog 169 #[.int .u64 x] w fun e w' => e = .returned (.int .i64 (Lib.bitLen x.toNat)) ∧ w' = w := Any.bits_Len Tryz.lays125 x w h0 h1
def Tryz.lays137_ren : Go.Shelf.Ren := ⟨fun | 137 => 243 | 217 => 251 | 266 => 252 | n => n, fun | 9 => 9 | 5 => 5 | 3 => 3 | n => n, fun | n => n⟩
theorem Tryz.lays137 : Go.Proofs.Lays.n137 Tryz.prog Tryz.lays137_ren := {
  mixed := by kernel_rfl
  f137 := Tryz.func243.trans (congrArg some (by kernel_rfl))
  f217 := Tryz.func251.trans (congrArg some (by kernel_rfl))
  f266 := Tryz.func252.trans (congrArg some (by kernel_rfl))
  t3 := Tryz.underlying3
  a3 := Tryz.isAgg3
  z3 := Tryz.sizeOf3
  v3 := Tryz.zeroValue3
  t5 := Tryz.underlying5
  a5 := Tryz.isAgg5
  z5 := Tryz.sizeOf5
  v5 := Tryz.zeroValue5
  t9 := Tryz.underlying9
  a9 := Tryz.isAgg9
  z9 := Tryz.sizeOf9
  v9 := Tryz.zeroValue9 }
open Go.RowKit in
/-- strings.IndexByte: "IndexByte returns the index of the first instance of c in s, or -1 if c is not present in s.": IT RETURNS 'Lib.indexByte s c'; the world is as it was. (LAID: no walk: one application.) -/
theorem Tryz.strings_IndexByte (s : ByteArray) (c : Int) (w : World) :
    Calls Tryz.prog 243 #[.string s, .int .u8 c] w fun e w' => e = .returned (.int .i64 (Lib.indexByte s.data.toList c.toNat.toUInt8)) ∧ w' = w := Any.strings_IndexByte Tryz.lays137 s c w
def Tryz.lays210_ren : Go.Shelf.Ren := ⟨fun | 210 => 164 | 206 => 156 | n => n, fun | 9 => 9 | 4 => 4 | 3 => 3 | n => n, fun | n => n⟩
theorem Tryz.lays210 : Go.Proofs.Lays.n210 Tryz.prog Tryz.lays210_ren := {
  mixed := by kernel_rfl
  f206 := Tryz.func156.trans (congrArg some (by kernel_rfl))
  f210 := Tryz.func164.trans (congrArg some (by kernel_rfl))
  t3 := Tryz.underlying3
  a3 := Tryz.isAgg3
  z3 := Tryz.sizeOf3
  v3 := Tryz.zeroValue3
  t4 := Tryz.underlying4
  a4 := Tryz.isAgg4
  z4 := Tryz.sizeOf4
  v4 := Tryz.zeroValue4
  t9 := Tryz.underlying9
  a9 := Tryz.isAgg9
  z9 := Tryz.sizeOf9
  v9 := Tryz.zeroValue9 }
open Go.RowKit in
/-- internal/stringslite.CutPrefix (what strings.CutPrefix calls). (LAID: no walk: one application.) -/
theorem Tryz.stringslite_CutPrefix (s p : ByteArray) (w : World) :
    Calls Tryz.prog 164 #[.string s, .string p] w fun e w' => e = .returned (.tuple #[.string ⟨(Lib.trimPrefix s.data.toList p.data.toList).toArray⟩, .bool (Lib.hasPrefix s.data.toList p.data.toList)]) ∧ w' = w := Any.stringslite_CutPrefix Tryz.lays210 s p w
def Tryz.lays103_ren : Go.Shelf.Ren := ⟨fun | 103 => 121 | 210 => 164 | 206 => 156 | n => n, fun | 9 => 9 | 4 => 4 | 24 => 173 | 3 => 3 | n => n, fun | n => n⟩
theorem Tryz.lays103 : Go.Proofs.Lays.n103 Tryz.prog Tryz.lays103_ren := {
  mixed := by kernel_rfl
  f103 := Tryz.func121.trans (congrArg some (by kernel_rfl))
  f206 := Tryz.func156.trans (congrArg some (by kernel_rfl))
  f210 := Tryz.func164.trans (congrArg some (by kernel_rfl))
  t3 := Tryz.underlying3
  a3 := Tryz.isAgg3
  z3 := Tryz.sizeOf3
  v3 := Tryz.zeroValue3
  t4 := Tryz.underlying4
  a4 := Tryz.isAgg4
  z4 := Tryz.sizeOf4
  v4 := Tryz.zeroValue4
  t9 := Tryz.underlying9
  a9 := Tryz.isAgg9
  z9 := Tryz.sizeOf9
  v9 := Tryz.zeroValue9
  t24 := Tryz.underlying173
  a24 := Tryz.isAgg173
  z24 := Tryz.sizeOf173
  v24 := Tryz.zeroValue173 }
open Go.RowKit in
/-- strings.CutPrefix: "CutPrefix returns s without the provided leading prefix string and reports whether it found the prefix. If s doesn't start with prefix, CutPrefix returns s, false. If prefix is the empty string, CutPrefix returns s, true.": IT RETURNS '(Lib.trimPrefix s p, Lib.hasPrefix s p)'; the world is as it was. (LAID: no walk: one application.) -/
theorem Tryz.strings_CutPrefix (s p : ByteArray) (w : World) :
    Calls Tryz.prog 121 #[.string s, .string p] w fun e w' => e = .returned (.tuple #[.string ⟨(Lib.trimPrefix s.data.toList p.data.toList).toArray⟩, .bool (Lib.hasPrefix s.data.toList p.data.toList)]) ∧ w' = w := Any.strings_CutPrefix Tryz.lays103 s p w
def Tryz.lays211_ren : Go.Shelf.Ren := ⟨fun | 211 => 165 | 207 => 190 | n => n, fun | 9 => 9 | 4 => 4 | 3 => 3 | n => n, fun | n => n⟩
theorem Tryz.lays211 : Go.Proofs.Lays.n211 Tryz.prog Tryz.lays211_ren := {
  mixed := by kernel_rfl
  f207 := Tryz.func190.trans (congrArg some (by kernel_rfl))
  f211 := Tryz.func165.trans (congrArg some (by kernel_rfl))
  t3 := Tryz.underlying3
  a3 := Tryz.isAgg3
  z3 := Tryz.sizeOf3
  v3 := Tryz.zeroValue3
  t4 := Tryz.underlying4
  a4 := Tryz.isAgg4
  z4 := Tryz.sizeOf4
  v4 := Tryz.zeroValue4
  t9 := Tryz.underlying9
  a9 := Tryz.isAgg9
  z9 := Tryz.sizeOf9
  v9 := Tryz.zeroValue9 }
open Go.RowKit in
/-- internal/stringslite.CutSuffix (what strings.CutSuffix calls). (LAID: no walk: one application.) -/
theorem Tryz.stringslite_CutSuffix (s p : ByteArray) (w : World) (hs : s.size ≤ 9223372036854775807) :
    Calls Tryz.prog 165 #[.string s, .string p] w fun e w' => e = .returned (.tuple #[.string ⟨(Lib.trimSuffix s.data.toList p.data.toList).toArray⟩, .bool (Lib.hasSuffix s.data.toList p.data.toList)]) ∧ w' = w := Any.stringslite_CutSuffix Tryz.lays211 s p w hs
def Tryz.lays104_ren : Go.Shelf.Ren := ⟨fun | 104 => 122 | 211 => 165 | 207 => 190 | n => n, fun | 9 => 9 | 4 => 4 | 24 => 173 | 3 => 3 | n => n, fun | n => n⟩
theorem Tryz.lays104 : Go.Proofs.Lays.n104 Tryz.prog Tryz.lays104_ren := {
  mixed := by kernel_rfl
  f104 := Tryz.func122.trans (congrArg some (by kernel_rfl))
  f207 := Tryz.func190.trans (congrArg some (by kernel_rfl))
  f211 := Tryz.func165.trans (congrArg some (by kernel_rfl))
  t3 := Tryz.underlying3
  a3 := Tryz.isAgg3
  z3 := Tryz.sizeOf3
  v3 := Tryz.zeroValue3
  t4 := Tryz.underlying4
  a4 := Tryz.isAgg4
  z4 := Tryz.sizeOf4
  v4 := Tryz.zeroValue4
  t9 := Tryz.underlying9
  a9 := Tryz.isAgg9
  z9 := Tryz.sizeOf9
  v9 := Tryz.zeroValue9
  t24 := Tryz.underlying173
  a24 := Tryz.isAgg173
  z24 := Tryz.sizeOf173
  v24 := Tryz.zeroValue173 }
open Go.RowKit in
/-- strings.CutSuffix: "CutSuffix returns s without the provided ending suffix string and reports whether it found the suffix. If s doesn't end with suffix, CutSuffix returns s, false. If suffix is the empty string, CutSuffix returns s, true.": IT RETURNS '(Lib.trimSuffix s p, Lib.hasSuffix s p)'; the world is as it was. (LAID: no walk: one application.) -/
theorem Tryz.strings_CutSuffix (s p : ByteArray) (w : World) (hs : s.size ≤ 9223372036854775807) :
    Calls Tryz.prog 122 #[.string s, .string p] w fun e w' => e = .returned (.tuple #[.string ⟨(Lib.trimSuffix s.data.toList p.data.toList).toArray⟩, .bool (Lib.hasSuffix s.data.toList p.data.toList)]) ∧ w' = w := Any.strings_CutSuffix Tryz.lays104 s p w hs
def Tryz.lays215_ren : Go.Shelf.Ren := ⟨fun | 215 => 170 | n => n, fun | 3 => 3 | 4 => 4 | n => n, fun | n => n⟩
theorem Tryz.lays215 : Go.Proofs.Lays.n215 Tryz.prog Tryz.lays215_ren := {
  mixed := by kernel_rfl
  f215 := Tryz.func170.trans (congrArg some (by kernel_rfl))
  t3 := Tryz.underlying3
  a3 := Tryz.isAgg3
  z3 := Tryz.sizeOf3
  v3 := Tryz.zeroValue3
  t4 := Tryz.underlying4
  a4 := Tryz.isAgg4
  z4 := Tryz.sizeOf4
  v4 := Tryz.zeroValue4 }
open Go.RowKit in
/-- cmp.isNaN at int: 'x != x': false. (LAID: no walk: one application.) -/
theorem Tryz.cmp_isNaN_int (x : Int) (w : World) :
    Calls Tryz.prog 170 #[.int .i64 x] w fun e w' => e = .returned (.bool false) ∧ w' = w := Any.cmp_isNaN_int Tryz.lays215 x w
def Tryz.lays122_ren : Go.Shelf.Ren := ⟨fun | 122 => 126 | 215 => 170 | n => n, fun | 3 => 3 | 4 => 4 | n => n, fun | n => n⟩
theorem Tryz.lays122 : Go.Proofs.Lays.n122 Tryz.prog Tryz.lays122_ren := {
  mixed := by kernel_rfl
  f122 := Tryz.func126.trans (congrArg some (by kernel_rfl))
  f215 := Tryz.func170.trans (congrArg some (by kernel_rfl))
  t3 := Tryz.underlying3
  a3 := Tryz.isAgg3
  z3 := Tryz.sizeOf3
  v3 := Tryz.zeroValue3
  t4 := Tryz.underlying4
  a4 := Tryz.isAgg4
  z4 := Tryz.sizeOf4
  v4 := Tryz.zeroValue4 }
open Go.RowKit in
/-- cmp.Compare at int: "Compare returns -1 if x is less than y, 0 if x equals y, +1 if x is greater than y.": IT RETURNS 'Lib.compareInt x y'; the world is as it was. (LAID: no walk: one application.) -/
theorem Tryz.cmp_Compare_int (x y : Int) (w : World) :
    Calls Tryz.prog 126 #[.int .i64 x, .int .i64 y] w fun e w' => e = .returned (.int .i64 (Lib.compareInt x y)) ∧ w' = w := Any.cmp_Compare_int Tryz.lays122 x y w
def Tryz.lays129_ren : Go.Shelf.Ren := ⟨fun | 129 => 206 | n => n, fun | 53 => 78 | 3 => 3 | 4 => 4 | 46 => 143 | 5 => 5 | 9 => 9 | n => n, fun | n => n⟩
theorem Tryz.lays129 : Go.Proofs.Lays.n129 Tryz.prog Tryz.lays129_ren := {
  mixed := by kernel_rfl
  f129 := Tryz.func206.trans (congrArg some (by kernel_rfl))
  t3 := Tryz.underlying3
  a3 := Tryz.isAgg3
  z3 := Tryz.sizeOf3
  v3 := Tryz.zeroValue3
  t4 := Tryz.underlying4
  a4 := Tryz.isAgg4
  z4 := Tryz.sizeOf4
  v4 := Tryz.zeroValue4
  t5 := Tryz.underlying5
  a5 := Tryz.isAgg5
  z5 := Tryz.sizeOf5
  v5 := Tryz.zeroValue5
  t9 := Tryz.underlying9
  a9 := Tryz.isAgg9
  z9 := Tryz.sizeOf9
  v9 := Tryz.zeroValue9
  t46 := Tryz.underlying143
  a46 := Tryz.isAgg143
  z46 := Tryz.sizeOf143
  v46 := Tryz.zeroValue143
  t53 := Tryz.underlying78
  a53 := Tryz.isAgg78
  z53 := Tryz.sizeOf78
  v53 := Tryz.zeroValue78 }
/-- bits.Len64: "Len64 returns the minimum number of bits required to represent x; the result is 0 for x == 0.": IT RETURNS 'Lib.bitLen x'; the world is as it was. ('h0', 'h1': x is a uint64.) (LAID: no walk: one application.) -/
theorem Tryz.bits_Len64 (x : Int) (w : World) (h0 : 0 ≤ x) (h1 : x ≤ 18446744073709551615) :
    Calls Tryz.prog 206 #[.int .u64 x] w fun e w' => e = .returned (.int .i64 (Lib.bitLen x.toNat)) ∧ w' = w := Any.bits_Len64 Tryz.lays129 x w h0 h1
def Tryz.lays317_ren : Go.Shelf.Ren := ⟨fun | 317 => 228 | n => n, fun | 3 => 3 | 46 => 143 | n => n, fun | n => n⟩
theorem Tryz.lays317 : Go.Proofs.Lays.n317 Tryz.prog Tryz.lays317_ren := {
  mixed := by kernel_rfl
  f317 := Tryz.func228.trans (congrArg some (by kernel_rfl))
  t3 := Tryz.underlying3
  a3 := Tryz.isAgg3
  z3 := Tryz.sizeOf3
  v3 := Tryz.zeroValue3
  t46 := Tryz.underlying143
  a46 := Tryz.isAgg143
  z46 := Tryz.sizeOf143
  v46 := Tryz.zeroValue143 }
open Go.Lib in
/-- internal/strconv.log10Pow2: "log10Pow2(x) returns ⌊log₁₀ 2**x⌋ = ⌊x * log₁₀ 2⌋.": '(x * 78913) >> 18', at an x up to 64 (a length in bits). The world is as it was. (LAID: no walk: one application.) -/
theorem Tryz.internal_strconv_log10Pow2 (x : Nat) (h : x ≤ 64) (w : World) :
    Calls Tryz.prog 228 #[.int .i64 x] w fun e w' => e = .returned (.int .i64 (Lib.l10 x)) ∧ w' = w := Any.internal_strconv_log10Pow2 Tryz.lays317 x h w
def Tryz.lays318_ren : Go.Shelf.Ren := ⟨fun | 318 => 229 | n => n, fun | 3 => 3 | 4 => 4 | n => n, fun | n => n⟩
theorem Tryz.lays318 : Go.Proofs.Lays.n318 Tryz.prog Tryz.lays318_ren := {
  mixed := by kernel_rfl
  f318 := Tryz.func229.trans (congrArg some (by kernel_rfl))
  t3 := Tryz.underlying3
  a3 := Tryz.isAgg3
  z3 := Tryz.sizeOf3
  v3 := Tryz.zeroValue3
  t4 := Tryz.underlying4
  a4 := Tryz.isAgg4
  z4 := Tryz.sizeOf4
  v4 := Tryz.zeroValue4 }
open Go.Lib in
/-- internal/strconv.bool2: "bool2 converts b to an integer: 1 for true, 0 for false." The world is as it was. (LAID: no walk: one application.) -/
theorem Tryz.internal_strconv_bool2_int (b : Bool) (w : World) :
    Calls Tryz.prog 229 #[.bool b] w fun e w' => e = .returned (.int .i64 (if b then 1 else 0)) ∧ w' = w := Any.internal_strconv_bool2_int Tryz.lays318 b w
def Tryz.lays283_ren : Go.Shelf.Ren := ⟨fun | 283 => 184 | n => n, fun | 3 => 3 | 9 => 9 | 4 => 4 | n => n, fun | n => n⟩
theorem Tryz.lays283 : Go.Proofs.Lays.n283 Tryz.prog Tryz.lays283_ren := {
  mixed := by kernel_rfl
  f283 := Tryz.func184.trans (congrArg some (by kernel_rfl))
  t3 := Tryz.underlying3
  a3 := Tryz.isAgg3
  z3 := Tryz.sizeOf3
  v3 := Tryz.zeroValue3
  t4 := Tryz.underlying4
  a4 := Tryz.isAgg4
  z4 := Tryz.sizeOf4
  v4 := Tryz.zeroValue4
  t9 := Tryz.underlying9
  a9 := Tryz.isAgg9
  z9 := Tryz.sizeOf9
  v9 := Tryz.zeroValue9 }
open Go.Lib in
/-- internal/strconv.small: "small returns the string for an i with 0 <= i < nSmalls.": i's decimal numeral. The world is as it was. (LAID: no walk: one application.) -/
theorem Tryz.internal_strconv_small (i : Nat) (h : i < 100) (w : World) :
    Calls Tryz.prog 184 #[.int .i64 i] w fun e w' => e = .returned (.string ⟨(Lib.decDigits i).toArray⟩) ∧ w' = w := Any.internal_strconv_small Tryz.lays283 i h w
def Tryz.laysM284_ren : Go.Shelf.Ren := ⟨fun | 284 => 185 | 129 => 206 | 317 => 228 | 318 => 229 | n => n, fun | 53 => 78 | 3 => 3 | 212 => 273 | 0 => 0 | 4 => 4 | 46 => 143 | 5 => 5 | 9 => 9 | n => n, fun | 17 => 0 | n => n⟩
theorem Tryz.laysM284 : Go.Proofs.LaysM.n284 Tryz.prog Tryz.laysM284_ren := {
  mixed := by kernel_rfl
  f129 := Tryz.func206.trans (congrArg some (by kernel_rfl))
  f284 := Tryz.func185.trans (congrArg some (by kernel_rfl))
  f317 := Tryz.func228.trans (congrArg some (by kernel_rfl))
  f318 := Tryz.func229.trans (congrArg some (by kernel_rfl))
  t0 := Tryz.underlying0
  a0 := Tryz.isAgg0
  z0 := Tryz.sizeOf0
  v0 := Tryz.zeroValue0
  t3 := Tryz.underlying3
  a3 := Tryz.isAgg3
  z3 := Tryz.sizeOf3
  v3 := Tryz.zeroValue3
  t4 := Tryz.underlying4
  a4 := Tryz.isAgg4
  z4 := Tryz.sizeOf4
  v4 := Tryz.zeroValue4
  t5 := Tryz.underlying5
  a5 := Tryz.isAgg5
  z5 := Tryz.sizeOf5
  v5 := Tryz.zeroValue5
  t9 := Tryz.underlying9
  a9 := Tryz.isAgg9
  z9 := Tryz.sizeOf9
  v9 := Tryz.zeroValue9
  t46 := Tryz.underlying143
  a46 := Tryz.isAgg143
  z46 := Tryz.sizeOf143
  v46 := Tryz.zeroValue143
  t53 := Tryz.underlying78
  a53 := Tryz.isAgg78
  z53 := Tryz.sizeOf78
  v53 := Tryz.zeroValue78
  t212 := Tryz.underlying273
  a212 := Tryz.isAgg273
  z212 := Tryz.sizeOf273
  v212 := Tryz.zeroValue273
  g17 := by kernel_rfl
  i0 := by kernel_rfl
  i3 := by kernel_rfl
  i4 := by kernel_rfl
  i5 := by kernel_rfl
  i9 := by kernel_rfl
  i46 := by kernel_rfl
  i53 := by kernel_rfl
  i212 := by kernel_rfl
  m17 := by kernel_rfl }
open Go.Lib in
/-- internal/strconv.numDigits, at a d that is not 0: THE NUMBER OF d's DECIMAL DIGITS. The world is as it was. (LAID: no walk: one application.) -/
theorem Tryz.internal_strconv_numDigits (u : Nat) (h1 : 1 ≤ u) (h2 : u < 18446744073709551616) (w : World) (htab : Lib.TabIs Tryz.prog w "internal/strconv.uint64pow10" .u64 Lib.pow10Tab) :
    Calls Tryz.prog 185 #[.int .u64 u] w fun e w' => e = .returned (.int .i64 (Lib.nDigits u)) ∧ w' = w := Any.internal_strconv_numDigits Tryz.laysM284 u h1 h2 w htab
def Tryz.lays285_ren : Go.Shelf.Ren := ⟨fun | 285 => 186 | n => n, fun | 37 => 22 | 53 => 78 | 3 => 3 | 4 => 4 | 51 => 158 | 9 => 9 | 5 => 5 | 0 => 0 | n => n, fun | n => n⟩
theorem Tryz.lays285 : Go.Proofs.Lays.n285 Tryz.prog Tryz.lays285_ren := {
  mixed := by kernel_rfl
  f285 := Tryz.func186.trans (congrArg some (by kernel_rfl))
  t0 := Tryz.underlying0
  a0 := Tryz.isAgg0
  z0 := Tryz.sizeOf0
  v0 := Tryz.zeroValue0
  t3 := Tryz.underlying3
  a3 := Tryz.isAgg3
  z3 := Tryz.sizeOf3
  v3 := Tryz.zeroValue3
  t4 := Tryz.underlying4
  a4 := Tryz.isAgg4
  z4 := Tryz.sizeOf4
  v4 := Tryz.zeroValue4
  t5 := Tryz.underlying5
  a5 := Tryz.isAgg5
  z5 := Tryz.sizeOf5
  v5 := Tryz.zeroValue5
  t9 := Tryz.underlying9
  a9 := Tryz.isAgg9
  z9 := Tryz.sizeOf9
  v9 := Tryz.zeroValue9
  t37 := Tryz.underlying22
  a37 := Tryz.isAgg22
  z37 := Tryz.sizeOf22
  v37 := Tryz.zeroValue22
  t51 := Tryz.underlying158
  a51 := Tryz.isAgg158
  z51 := Tryz.sizeOf158
  v51 := Tryz.zeroValue158
  t53 := Tryz.underlying78
  a53 := Tryz.isAgg78
  z53 := Tryz.sizeOf78
  v53 := Tryz.zeroValue78 }
open Go.RowKit Go.Sort Go.Lib in
/-- internal/strconv.formatBase10: "formatBase10 formats the decimal representation of u into a. The caller is responsible for ensuring that a is big enough to hold u. If a is too big, leading zeros will be filled in as needed.": THE ROW HOLDS u's DIGITS ('FmtInv .. 0 ..': every place t holds 'dg u (len - 1 - t)'); all else is as it was but for the count of draws. (LAID: no walk: one application.) -/
theorem Tryz.internal_strconv_formatBase10 (blk off cap : Nat) (u : Nat) (d : Array UInt8) (w : World) (hH : Holds (fun (b : UInt8) => Value.int .u8 (b.toNat : Int)) w blk off d) (hu : u < 10 ^ d.size) (hu64 : u < 18446744073709551616) (hsz : d.size < 4611686018427387904) :
    Calls Tryz.prog 186 #[.slice (some ⟨blk, off, none⟩) d.size cap, .int .u64 u] w fun e w' =>
      e = .returned (.tuple #[]) ∧ ∃ (n v' : Nat) (dk : Array UInt8), w' = (putRow (fun (b : UInt8) => Value.int .u8 (b.toNat : Int)) w blk off dk).drewN n ∧ FmtInv d.size u 0 v' dk := Any.internal_strconv_formatBase10 Tryz.lays285 blk off cap u d w hH hu hu64 hsz
def Tryz.laysM246_ren : Go.Shelf.Ren := ⟨fun | 246 => 153 | 283 => 184 | 284 => 185 | 285 => 186 | 286 => 187 | 129 => 206 | 317 => 228 | 318 => 229 | 319 => 230 | 320 => 231 | 337 => 247 | 338 => 248 | n => n, fun | 2 => 2 | 3 => 3 | 9 => 9 | 4 => 4 | 171 => 240 | 0 => 0 | 53 => 78 | 37 => 22 | 5 => 5 | 173 => 243 | 212 => 273 | 51 => 158 | 20 => 20 | 213 => 274 | 46 => 143 | 232 => 300 | 233 => 301 | n => n, fun | 17 => 0 | 18 => 6 | 19 => 7 | n => n⟩
theorem Tryz.laysM246 : Go.Proofs.LaysM.n246 Tryz.prog Tryz.laysM246_ren := {
  mixed := by kernel_rfl
  f129 := Tryz.func206.trans (congrArg some (by kernel_rfl))
  f246 := Tryz.func153.trans (congrArg some (by kernel_rfl))
  f283 := Tryz.func184.trans (congrArg some (by kernel_rfl))
  f284 := Tryz.func185.trans (congrArg some (by kernel_rfl))
  f285 := Tryz.func186.trans (congrArg some (by kernel_rfl))
  f286 := Tryz.func187.trans (congrArg some (by kernel_rfl))
  f317 := Tryz.func228.trans (congrArg some (by kernel_rfl))
  f318 := Tryz.func229.trans (congrArg some (by kernel_rfl))
  f319 := Tryz.func230.trans (congrArg some (by kernel_rfl))
  f320 := Tryz.func231.trans (congrArg some (by kernel_rfl))
  f337 := Tryz.func247.trans (congrArg some (by kernel_rfl))
  f338 := Tryz.func248.trans (congrArg some (by kernel_rfl))
  t0 := Tryz.underlying0
  a0 := Tryz.isAgg0
  z0 := Tryz.sizeOf0
  v0 := Tryz.zeroValue0
  t2 := Tryz.underlying2
  a2 := Tryz.isAgg2
  z2 := Tryz.sizeOf2
  v2 := Tryz.zeroValue2
  t3 := Tryz.underlying3
  a3 := Tryz.isAgg3
  z3 := Tryz.sizeOf3
  v3 := Tryz.zeroValue3
  t4 := Tryz.underlying4
  a4 := Tryz.isAgg4
  z4 := Tryz.sizeOf4
  v4 := Tryz.zeroValue4
  t5 := Tryz.underlying5
  a5 := Tryz.isAgg5
  z5 := Tryz.sizeOf5
  v5 := Tryz.zeroValue5
  t9 := Tryz.underlying9
  a9 := Tryz.isAgg9
  z9 := Tryz.sizeOf9
  v9 := Tryz.zeroValue9
  t20 := Tryz.underlying20
  a20 := Tryz.isAgg20
  z20 := Tryz.sizeOf20
  v20 := Tryz.zeroValue20
  t37 := Tryz.underlying22
  a37 := Tryz.isAgg22
  z37 := Tryz.sizeOf22
  v37 := Tryz.zeroValue22
  t46 := Tryz.underlying143
  a46 := Tryz.isAgg143
  z46 := Tryz.sizeOf143
  v46 := Tryz.zeroValue143
  t51 := Tryz.underlying158
  a51 := Tryz.isAgg158
  z51 := Tryz.sizeOf158
  v51 := Tryz.zeroValue158
  t53 := Tryz.underlying78
  a53 := Tryz.isAgg78
  z53 := Tryz.sizeOf78
  v53 := Tryz.zeroValue78
  t171 := Tryz.underlying240
  a171 := Tryz.isAgg240
  z171 := Tryz.sizeOf240
  v171 := Tryz.zeroValue240
  t173 := Tryz.underlying243
  a173 := Tryz.isAgg243
  z173 := Tryz.sizeOf243
  v173 := Tryz.zeroValue243
  t212 := Tryz.underlying273
  a212 := Tryz.isAgg273
  z212 := Tryz.sizeOf273
  v212 := Tryz.zeroValue273
  t213 := Tryz.underlying274
  a213 := Tryz.isAgg274
  z213 := Tryz.sizeOf274
  t232 := Tryz.underlying300
  a232 := Tryz.isAgg300
  z232 := Tryz.sizeOf300
  v232 := Tryz.zeroValue300
  t233 := Tryz.underlying301
  a233 := Tryz.isAgg301
  z233 := Tryz.sizeOf301
  v233 := Tryz.zeroValue301
  g17 := by kernel_rfl
  g18 := by kernel_rfl
  g19 := by kernel_rfl
  i0 := by kernel_rfl
  i2 := by kernel_rfl
  i3 := by kernel_rfl
  i4 := by kernel_rfl
  i5 := by kernel_rfl
  i9 := by kernel_rfl
  i20 := by kernel_rfl
  i37 := by kernel_rfl
  i46 := by kernel_rfl
  i51 := by kernel_rfl
  i53 := by kernel_rfl
  i171 := by kernel_rfl
  i173 := by kernel_rfl
  i212 := by kernel_rfl
  i232 := by kernel_rfl
  i233 := by kernel_rfl
  m17 := by kernel_rfl
  m18 := by kernel_rfl
  m19 := by kernel_rfl }
open Go.RowKit Go.Sort Go.Lib in
/-- internal/strconv.FormatInt: "FormatInt returns the string representation of i in the given base": AT BASE 10: i's decimal numeral, for every int64. The world behind the call: the world before it, new blocks behind the heap, draws. (LAID: no walk: one application.) -/
theorem Tryz.internal_strconv_FormatInt_10 (n : Int) (h0 : -9223372036854775808 ≤ n) (h1 : n ≤ 9223372036854775807) (w : World) (htab : Lib.TabIs Tryz.prog w "internal/strconv.uint64pow10" .u64 Lib.pow10Tab) :
    Calls Tryz.prog 153 #[.int .i64 n, .int .i64 10] w fun e w' => e = .returned (.string ⟨(Lib.itoa n).toArray⟩) ∧ ∃ k os, w' = grow (w.drewN k) os := Any.internal_strconv_FormatInt_10 Tryz.laysM246 n h0 h1 w htab
def Tryz.lays246_ren : Go.Shelf.Ren := ⟨fun | 246 => 153 | 283 => 184 | 284 => 185 | 285 => 186 | 286 => 187 | 129 => 206 | 317 => 228 | 318 => 229 | 319 => 230 | 320 => 231 | 337 => 247 | 338 => 248 | n => n, fun | 2 => 2 | 3 => 3 | 9 => 9 | 4 => 4 | 171 => 240 | 0 => 0 | 53 => 78 | 37 => 22 | 5 => 5 | 173 => 243 | 212 => 273 | 51 => 158 | 20 => 20 | 213 => 274 | 46 => 143 | 232 => 300 | 233 => 301 | n => n, fun | 17 => 0 | 18 => 6 | 19 => 7 | n => n⟩
theorem Tryz.lays246 : Go.Proofs.Lays.n246 Tryz.prog Tryz.lays246_ren := {
  mixed := by kernel_rfl
  f129 := Tryz.func206.trans (congrArg some (by kernel_rfl))
  f246 := Tryz.func153.trans (congrArg some (by kernel_rfl))
  f283 := Tryz.func184.trans (congrArg some (by kernel_rfl))
  f284 := Tryz.func185.trans (congrArg some (by kernel_rfl))
  f285 := Tryz.func186.trans (congrArg some (by kernel_rfl))
  f286 := Tryz.func187.trans (congrArg some (by kernel_rfl))
  f317 := Tryz.func228.trans (congrArg some (by kernel_rfl))
  f318 := Tryz.func229.trans (congrArg some (by kernel_rfl))
  f319 := Tryz.func230.trans (congrArg some (by kernel_rfl))
  f320 := Tryz.func231.trans (congrArg some (by kernel_rfl))
  f337 := Tryz.func247.trans (congrArg some (by kernel_rfl))
  f338 := Tryz.func248.trans (congrArg some (by kernel_rfl))
  t0 := Tryz.underlying0
  a0 := Tryz.isAgg0
  z0 := Tryz.sizeOf0
  v0 := Tryz.zeroValue0
  t2 := Tryz.underlying2
  a2 := Tryz.isAgg2
  z2 := Tryz.sizeOf2
  v2 := Tryz.zeroValue2
  t3 := Tryz.underlying3
  a3 := Tryz.isAgg3
  z3 := Tryz.sizeOf3
  v3 := Tryz.zeroValue3
  t4 := Tryz.underlying4
  a4 := Tryz.isAgg4
  z4 := Tryz.sizeOf4
  v4 := Tryz.zeroValue4
  t5 := Tryz.underlying5
  a5 := Tryz.isAgg5
  z5 := Tryz.sizeOf5
  v5 := Tryz.zeroValue5
  t9 := Tryz.underlying9
  a9 := Tryz.isAgg9
  z9 := Tryz.sizeOf9
  v9 := Tryz.zeroValue9
  t20 := Tryz.underlying20
  a20 := Tryz.isAgg20
  z20 := Tryz.sizeOf20
  v20 := Tryz.zeroValue20
  t37 := Tryz.underlying22
  a37 := Tryz.isAgg22
  z37 := Tryz.sizeOf22
  v37 := Tryz.zeroValue22
  t46 := Tryz.underlying143
  a46 := Tryz.isAgg143
  z46 := Tryz.sizeOf143
  v46 := Tryz.zeroValue143
  t51 := Tryz.underlying158
  a51 := Tryz.isAgg158
  z51 := Tryz.sizeOf158
  v51 := Tryz.zeroValue158
  t53 := Tryz.underlying78
  a53 := Tryz.isAgg78
  z53 := Tryz.sizeOf78
  v53 := Tryz.zeroValue78
  t171 := Tryz.underlying240
  a171 := Tryz.isAgg240
  z171 := Tryz.sizeOf240
  v171 := Tryz.zeroValue240
  t173 := Tryz.underlying243
  a173 := Tryz.isAgg243
  z173 := Tryz.sizeOf243
  v173 := Tryz.zeroValue243
  t212 := Tryz.underlying273
  a212 := Tryz.isAgg273
  z212 := Tryz.sizeOf273
  v212 := Tryz.zeroValue273
  t213 := Tryz.underlying274
  a213 := Tryz.isAgg274
  z213 := Tryz.sizeOf274
  t232 := Tryz.underlying300
  a232 := Tryz.isAgg300
  z232 := Tryz.sizeOf300
  v232 := Tryz.zeroValue300
  t233 := Tryz.underlying301
  a233 := Tryz.isAgg301
  z233 := Tryz.sizeOf301
  v233 := Tryz.zeroValue301
  g17 := by kernel_rfl
  g18 := by kernel_rfl
  g19 := by kernel_rfl }
open Go.RowKit Go.Sort Go.Lib in
/-- THE ROAD WITHOUT THE TABLE: 0 <= i < 100: two constants are read, nothing is laid: no premise on the world, and the world is as it was. (LAID: no walk: one application.) -/
theorem Tryz.internal_strconv_FormatInt_10_small (i : Nat) (hi : i < 100) (w : World) :
    Calls Tryz.prog 153 #[.int .i64 i, .int .i64 10] w fun e w' => e = .returned (.string ⟨(Lib.decDigits i).toArray⟩) ∧ w' = w := Any.internal_strconv_FormatInt_10_small Tryz.lays246 i hi w
def Tryz.laysM243_ren : Go.Shelf.Ren := ⟨fun | 243 => 86 | 246 => 153 | 283 => 184 | 284 => 185 | 285 => 186 | 286 => 187 | 129 => 206 | 317 => 228 | 318 => 229 | 319 => 230 | 320 => 231 | 337 => 247 | 338 => 248 | n => n, fun | 3 => 3 | 9 => 9 | 2 => 2 | 4 => 4 | 171 => 240 | 0 => 0 | 53 => 78 | 37 => 22 | 5 => 5 | 173 => 243 | 212 => 273 | 51 => 158 | 20 => 20 | 213 => 274 | 46 => 143 | 232 => 300 | 233 => 301 | n => n, fun | 17 => 0 | 18 => 6 | 19 => 7 | n => n⟩
theorem Tryz.laysM243 : Go.Proofs.LaysM.n243 Tryz.prog Tryz.laysM243_ren := {
  mixed := by kernel_rfl
  f129 := Tryz.func206.trans (congrArg some (by kernel_rfl))
  f243 := Tryz.func86.trans (congrArg some (by kernel_rfl))
  f246 := Tryz.func153.trans (congrArg some (by kernel_rfl))
  f283 := Tryz.func184.trans (congrArg some (by kernel_rfl))
  f284 := Tryz.func185.trans (congrArg some (by kernel_rfl))
  f285 := Tryz.func186.trans (congrArg some (by kernel_rfl))
  f286 := Tryz.func187.trans (congrArg some (by kernel_rfl))
  f317 := Tryz.func228.trans (congrArg some (by kernel_rfl))
  f318 := Tryz.func229.trans (congrArg some (by kernel_rfl))
  f319 := Tryz.func230.trans (congrArg some (by kernel_rfl))
  f320 := Tryz.func231.trans (congrArg some (by kernel_rfl))
  f337 := Tryz.func247.trans (congrArg some (by kernel_rfl))
  f338 := Tryz.func248.trans (congrArg some (by kernel_rfl))
  t0 := Tryz.underlying0
  a0 := Tryz.isAgg0
  z0 := Tryz.sizeOf0
  v0 := Tryz.zeroValue0
  t2 := Tryz.underlying2
  a2 := Tryz.isAgg2
  z2 := Tryz.sizeOf2
  v2 := Tryz.zeroValue2
  t3 := Tryz.underlying3
  a3 := Tryz.isAgg3
  z3 := Tryz.sizeOf3
  v3 := Tryz.zeroValue3
  t4 := Tryz.underlying4
  a4 := Tryz.isAgg4
  z4 := Tryz.sizeOf4
  v4 := Tryz.zeroValue4
  t5 := Tryz.underlying5
  a5 := Tryz.isAgg5
  z5 := Tryz.sizeOf5
  v5 := Tryz.zeroValue5
  t9 := Tryz.underlying9
  a9 := Tryz.isAgg9
  z9 := Tryz.sizeOf9
  v9 := Tryz.zeroValue9
  t20 := Tryz.underlying20
  a20 := Tryz.isAgg20
  z20 := Tryz.sizeOf20
  v20 := Tryz.zeroValue20
  t37 := Tryz.underlying22
  a37 := Tryz.isAgg22
  z37 := Tryz.sizeOf22
  v37 := Tryz.zeroValue22
  t46 := Tryz.underlying143
  a46 := Tryz.isAgg143
  z46 := Tryz.sizeOf143
  v46 := Tryz.zeroValue143
  t51 := Tryz.underlying158
  a51 := Tryz.isAgg158
  z51 := Tryz.sizeOf158
  v51 := Tryz.zeroValue158
  t53 := Tryz.underlying78
  a53 := Tryz.isAgg78
  z53 := Tryz.sizeOf78
  v53 := Tryz.zeroValue78
  t171 := Tryz.underlying240
  a171 := Tryz.isAgg240
  z171 := Tryz.sizeOf240
  v171 := Tryz.zeroValue240
  t173 := Tryz.underlying243
  a173 := Tryz.isAgg243
  z173 := Tryz.sizeOf243
  v173 := Tryz.zeroValue243
  t212 := Tryz.underlying273
  a212 := Tryz.isAgg273
  z212 := Tryz.sizeOf273
  v212 := Tryz.zeroValue273
  t213 := Tryz.underlying274
  a213 := Tryz.isAgg274
  z213 := Tryz.sizeOf274
  t232 := Tryz.underlying300
  a232 := Tryz.isAgg300
  z232 := Tryz.sizeOf300
  v232 := Tryz.zeroValue300
  t233 := Tryz.underlying301
  a233 := Tryz.isAgg301
  z233 := Tryz.sizeOf301
  v233 := Tryz.zeroValue301
  g17 := by kernel_rfl
  g18 := by kernel_rfl
  g19 := by kernel_rfl
  i0 := by kernel_rfl
  i2 := by kernel_rfl
  i3 := by kernel_rfl
  i4 := by kernel_rfl
  i5 := by kernel_rfl
  i9 := by kernel_rfl
  i20 := by kernel_rfl
  i37 := by kernel_rfl
  i46 := by kernel_rfl
  i51 := by kernel_rfl
  i53 := by kernel_rfl
  i171 := by kernel_rfl
  i173 := by kernel_rfl
  i212 := by kernel_rfl
  i232 := by kernel_rfl
  i233 := by kernel_rfl
  m17 := by kernel_rfl
  m18 := by kernel_rfl
  m19 := by kernel_rfl }
open Go.RowKit Go.Sort Go.Lib in
/-- internal/strconv.Itoa: "Itoa is equivalent to FormatInt(int64(i), 10).": i's decimal numeral, for every int. (LAID: no walk: one application.) -/
theorem Tryz.internal_strconv_Itoa (n : Int) (h0 : -9223372036854775808 ≤ n) (h1 : n ≤ 9223372036854775807) (w : World) (htab : Lib.TabIs Tryz.prog w "internal/strconv.uint64pow10" .u64 Lib.pow10Tab) :
    Calls Tryz.prog 86 #[.int .i64 n] w fun e w' => e = .returned (.string ⟨(Lib.itoa n).toArray⟩) ∧ ∃ k os, w' = grow (w.drewN k) os := Any.internal_strconv_Itoa Tryz.laysM243 n h0 h1 w htab
def Tryz.lays243_ren : Go.Shelf.Ren := ⟨fun | 243 => 86 | 246 => 153 | 283 => 184 | 284 => 185 | 285 => 186 | 286 => 187 | 129 => 206 | 317 => 228 | 318 => 229 | 319 => 230 | 320 => 231 | 337 => 247 | 338 => 248 | n => n, fun | 3 => 3 | 9 => 9 | 2 => 2 | 4 => 4 | 171 => 240 | 0 => 0 | 53 => 78 | 37 => 22 | 5 => 5 | 173 => 243 | 212 => 273 | 51 => 158 | 20 => 20 | 213 => 274 | 46 => 143 | 232 => 300 | 233 => 301 | n => n, fun | 17 => 0 | 18 => 6 | 19 => 7 | n => n⟩
theorem Tryz.lays243 : Go.Proofs.Lays.n243 Tryz.prog Tryz.lays243_ren := {
  mixed := by kernel_rfl
  f129 := Tryz.func206.trans (congrArg some (by kernel_rfl))
  f243 := Tryz.func86.trans (congrArg some (by kernel_rfl))
  f246 := Tryz.func153.trans (congrArg some (by kernel_rfl))
  f283 := Tryz.func184.trans (congrArg some (by kernel_rfl))
  f284 := Tryz.func185.trans (congrArg some (by kernel_rfl))
  f285 := Tryz.func186.trans (congrArg some (by kernel_rfl))
  f286 := Tryz.func187.trans (congrArg some (by kernel_rfl))
  f317 := Tryz.func228.trans (congrArg some (by kernel_rfl))
  f318 := Tryz.func229.trans (congrArg some (by kernel_rfl))
  f319 := Tryz.func230.trans (congrArg some (by kernel_rfl))
  f320 := Tryz.func231.trans (congrArg some (by kernel_rfl))
  f337 := Tryz.func247.trans (congrArg some (by kernel_rfl))
  f338 := Tryz.func248.trans (congrArg some (by kernel_rfl))
  t0 := Tryz.underlying0
  a0 := Tryz.isAgg0
  z0 := Tryz.sizeOf0
  v0 := Tryz.zeroValue0
  t2 := Tryz.underlying2
  a2 := Tryz.isAgg2
  z2 := Tryz.sizeOf2
  v2 := Tryz.zeroValue2
  t3 := Tryz.underlying3
  a3 := Tryz.isAgg3
  z3 := Tryz.sizeOf3
  v3 := Tryz.zeroValue3
  t4 := Tryz.underlying4
  a4 := Tryz.isAgg4
  z4 := Tryz.sizeOf4
  v4 := Tryz.zeroValue4
  t5 := Tryz.underlying5
  a5 := Tryz.isAgg5
  z5 := Tryz.sizeOf5
  v5 := Tryz.zeroValue5
  t9 := Tryz.underlying9
  a9 := Tryz.isAgg9
  z9 := Tryz.sizeOf9
  v9 := Tryz.zeroValue9
  t20 := Tryz.underlying20
  a20 := Tryz.isAgg20
  z20 := Tryz.sizeOf20
  v20 := Tryz.zeroValue20
  t37 := Tryz.underlying22
  a37 := Tryz.isAgg22
  z37 := Tryz.sizeOf22
  v37 := Tryz.zeroValue22
  t46 := Tryz.underlying143
  a46 := Tryz.isAgg143
  z46 := Tryz.sizeOf143
  v46 := Tryz.zeroValue143
  t51 := Tryz.underlying158
  a51 := Tryz.isAgg158
  z51 := Tryz.sizeOf158
  v51 := Tryz.zeroValue158
  t53 := Tryz.underlying78
  a53 := Tryz.isAgg78
  z53 := Tryz.sizeOf78
  v53 := Tryz.zeroValue78
  t171 := Tryz.underlying240
  a171 := Tryz.isAgg240
  z171 := Tryz.sizeOf240
  v171 := Tryz.zeroValue240
  t173 := Tryz.underlying243
  a173 := Tryz.isAgg243
  z173 := Tryz.sizeOf243
  v173 := Tryz.zeroValue243
  t212 := Tryz.underlying273
  a212 := Tryz.isAgg273
  z212 := Tryz.sizeOf273
  v212 := Tryz.zeroValue273
  t213 := Tryz.underlying274
  a213 := Tryz.isAgg274
  z213 := Tryz.sizeOf274
  t232 := Tryz.underlying300
  a232 := Tryz.isAgg300
  z232 := Tryz.sizeOf300
  v232 := Tryz.zeroValue300
  t233 := Tryz.underlying301
  a233 := Tryz.isAgg301
  z233 := Tryz.sizeOf301
  v233 := Tryz.zeroValue301
  g17 := by kernel_rfl
  g18 := by kernel_rfl
  g19 := by kernel_rfl }
open Go.RowKit Go.Sort Go.Lib in
/-- THE ROAD WITHOUT THE TABLE: 0 <= i < 100. (LAID: no walk: one application.) -/
theorem Tryz.internal_strconv_Itoa_small (i : Nat) (hi : i < 100) (w : World) :
    Calls Tryz.prog 86 #[.int .i64 i] w fun e w' => e = .returned (.string ⟨(Lib.decDigits i).toArray⟩) ∧ w' = w := Any.internal_strconv_Itoa_small Tryz.lays243 i hi w
def Tryz.laysM171_ren : Go.Shelf.Ren := ⟨fun | 171 => 34 | 243 => 86 | 246 => 153 | 283 => 184 | 284 => 185 | 285 => 186 | 286 => 187 | 129 => 206 | 317 => 228 | 318 => 229 | 319 => 230 | 320 => 231 | 337 => 247 | 338 => 248 | n => n, fun | 3 => 3 | 9 => 9 | 2 => 2 | 4 => 4 | 171 => 240 | 0 => 0 | 53 => 78 | 37 => 22 | 5 => 5 | 173 => 243 | 212 => 273 | 51 => 158 | 20 => 20 | 213 => 274 | 46 => 143 | 232 => 300 | 233 => 301 | n => n, fun | 17 => 0 | 18 => 6 | 19 => 7 | n => n⟩
theorem Tryz.laysM171 : Go.Proofs.LaysM.n171 Tryz.prog Tryz.laysM171_ren := {
  mixed := by kernel_rfl
  f129 := Tryz.func206.trans (congrArg some (by kernel_rfl))
  f171 := Tryz.func34.trans (congrArg some (by kernel_rfl))
  f243 := Tryz.func86.trans (congrArg some (by kernel_rfl))
  f246 := Tryz.func153.trans (congrArg some (by kernel_rfl))
  f283 := Tryz.func184.trans (congrArg some (by kernel_rfl))
  f284 := Tryz.func185.trans (congrArg some (by kernel_rfl))
  f285 := Tryz.func186.trans (congrArg some (by kernel_rfl))
  f286 := Tryz.func187.trans (congrArg some (by kernel_rfl))
  f317 := Tryz.func228.trans (congrArg some (by kernel_rfl))
  f318 := Tryz.func229.trans (congrArg some (by kernel_rfl))
  f319 := Tryz.func230.trans (congrArg some (by kernel_rfl))
  f320 := Tryz.func231.trans (congrArg some (by kernel_rfl))
  f337 := Tryz.func247.trans (congrArg some (by kernel_rfl))
  f338 := Tryz.func248.trans (congrArg some (by kernel_rfl))
  t0 := Tryz.underlying0
  a0 := Tryz.isAgg0
  z0 := Tryz.sizeOf0
  v0 := Tryz.zeroValue0
  t2 := Tryz.underlying2
  a2 := Tryz.isAgg2
  z2 := Tryz.sizeOf2
  v2 := Tryz.zeroValue2
  t3 := Tryz.underlying3
  a3 := Tryz.isAgg3
  z3 := Tryz.sizeOf3
  v3 := Tryz.zeroValue3
  t4 := Tryz.underlying4
  a4 := Tryz.isAgg4
  z4 := Tryz.sizeOf4
  v4 := Tryz.zeroValue4
  t5 := Tryz.underlying5
  a5 := Tryz.isAgg5
  z5 := Tryz.sizeOf5
  v5 := Tryz.zeroValue5
  t9 := Tryz.underlying9
  a9 := Tryz.isAgg9
  z9 := Tryz.sizeOf9
  v9 := Tryz.zeroValue9
  t20 := Tryz.underlying20
  a20 := Tryz.isAgg20
  z20 := Tryz.sizeOf20
  v20 := Tryz.zeroValue20
  t37 := Tryz.underlying22
  a37 := Tryz.isAgg22
  z37 := Tryz.sizeOf22
  v37 := Tryz.zeroValue22
  t46 := Tryz.underlying143
  a46 := Tryz.isAgg143
  z46 := Tryz.sizeOf143
  v46 := Tryz.zeroValue143
  t51 := Tryz.underlying158
  a51 := Tryz.isAgg158
  z51 := Tryz.sizeOf158
  v51 := Tryz.zeroValue158
  t53 := Tryz.underlying78
  a53 := Tryz.isAgg78
  z53 := Tryz.sizeOf78
  v53 := Tryz.zeroValue78
  t171 := Tryz.underlying240
  a171 := Tryz.isAgg240
  z171 := Tryz.sizeOf240
  v171 := Tryz.zeroValue240
  t173 := Tryz.underlying243
  a173 := Tryz.isAgg243
  z173 := Tryz.sizeOf243
  v173 := Tryz.zeroValue243
  t212 := Tryz.underlying273
  a212 := Tryz.isAgg273
  z212 := Tryz.sizeOf273
  v212 := Tryz.zeroValue273
  t213 := Tryz.underlying274
  a213 := Tryz.isAgg274
  z213 := Tryz.sizeOf274
  t232 := Tryz.underlying300
  a232 := Tryz.isAgg300
  z232 := Tryz.sizeOf300
  v232 := Tryz.zeroValue300
  t233 := Tryz.underlying301
  a233 := Tryz.isAgg301
  z233 := Tryz.sizeOf301
  v233 := Tryz.zeroValue301
  g17 := by kernel_rfl
  g18 := by kernel_rfl
  g19 := by kernel_rfl
  i0 := by kernel_rfl
  i2 := by kernel_rfl
  i3 := by kernel_rfl
  i4 := by kernel_rfl
  i5 := by kernel_rfl
  i9 := by kernel_rfl
  i20 := by kernel_rfl
  i37 := by kernel_rfl
  i46 := by kernel_rfl
  i51 := by kernel_rfl
  i53 := by kernel_rfl
  i171 := by kernel_rfl
  i173 := by kernel_rfl
  i212 := by kernel_rfl
  i232 := by kernel_rfl
  i233 := by kernel_rfl
  m17 := by kernel_rfl
  m18 := by kernel_rfl
  m19 := by kernel_rfl }
open Go.RowKit Go.Sort Go.Lib in
/-- strconv.Itoa: "Itoa is equivalent to FormatInt(int64(i), 10).": i's DECIMAL NUMERAL ('Lib.itoa': a '-' where i is negative, then the digits), FOR EVERY int. The world behind the call: the world before it, new blocks behind the heap (the library's 'var a [24]byte'), draws. (LAID: no walk: one application.) -/
theorem Tryz.strconv_Itoa (n : Int) (h0 : -9223372036854775808 ≤ n) (h1 : n ≤ 9223372036854775807) (w : World) (htab : Lib.TabIs Tryz.prog w "internal/strconv.uint64pow10" .u64 Lib.pow10Tab) :
    Calls Tryz.prog 34 #[.int .i64 n] w fun e w' => e = .returned (.string ⟨(Lib.itoa n).toArray⟩) ∧ ∃ k os, w' = grow (w.drewN k) os := Any.strconv_Itoa Tryz.laysM171 n h0 h1 w htab
def Tryz.lays171_ren : Go.Shelf.Ren := ⟨fun | 171 => 34 | 243 => 86 | 246 => 153 | 283 => 184 | 284 => 185 | 285 => 186 | 286 => 187 | 129 => 206 | 317 => 228 | 318 => 229 | 319 => 230 | 320 => 231 | 337 => 247 | 338 => 248 | n => n, fun | 3 => 3 | 9 => 9 | 2 => 2 | 4 => 4 | 171 => 240 | 0 => 0 | 53 => 78 | 37 => 22 | 5 => 5 | 173 => 243 | 212 => 273 | 51 => 158 | 20 => 20 | 213 => 274 | 46 => 143 | 232 => 300 | 233 => 301 | n => n, fun | 17 => 0 | 18 => 6 | 19 => 7 | n => n⟩
theorem Tryz.lays171 : Go.Proofs.Lays.n171 Tryz.prog Tryz.lays171_ren := {
  mixed := by kernel_rfl
  f129 := Tryz.func206.trans (congrArg some (by kernel_rfl))
  f171 := Tryz.func34.trans (congrArg some (by kernel_rfl))
  f243 := Tryz.func86.trans (congrArg some (by kernel_rfl))
  f246 := Tryz.func153.trans (congrArg some (by kernel_rfl))
  f283 := Tryz.func184.trans (congrArg some (by kernel_rfl))
  f284 := Tryz.func185.trans (congrArg some (by kernel_rfl))
  f285 := Tryz.func186.trans (congrArg some (by kernel_rfl))
  f286 := Tryz.func187.trans (congrArg some (by kernel_rfl))
  f317 := Tryz.func228.trans (congrArg some (by kernel_rfl))
  f318 := Tryz.func229.trans (congrArg some (by kernel_rfl))
  f319 := Tryz.func230.trans (congrArg some (by kernel_rfl))
  f320 := Tryz.func231.trans (congrArg some (by kernel_rfl))
  f337 := Tryz.func247.trans (congrArg some (by kernel_rfl))
  f338 := Tryz.func248.trans (congrArg some (by kernel_rfl))
  t0 := Tryz.underlying0
  a0 := Tryz.isAgg0
  z0 := Tryz.sizeOf0
  v0 := Tryz.zeroValue0
  t2 := Tryz.underlying2
  a2 := Tryz.isAgg2
  z2 := Tryz.sizeOf2
  v2 := Tryz.zeroValue2
  t3 := Tryz.underlying3
  a3 := Tryz.isAgg3
  z3 := Tryz.sizeOf3
  v3 := Tryz.zeroValue3
  t4 := Tryz.underlying4
  a4 := Tryz.isAgg4
  z4 := Tryz.sizeOf4
  v4 := Tryz.zeroValue4
  t5 := Tryz.underlying5
  a5 := Tryz.isAgg5
  z5 := Tryz.sizeOf5
  v5 := Tryz.zeroValue5
  t9 := Tryz.underlying9
  a9 := Tryz.isAgg9
  z9 := Tryz.sizeOf9
  v9 := Tryz.zeroValue9
  t20 := Tryz.underlying20
  a20 := Tryz.isAgg20
  z20 := Tryz.sizeOf20
  v20 := Tryz.zeroValue20
  t37 := Tryz.underlying22
  a37 := Tryz.isAgg22
  z37 := Tryz.sizeOf22
  v37 := Tryz.zeroValue22
  t46 := Tryz.underlying143
  a46 := Tryz.isAgg143
  z46 := Tryz.sizeOf143
  v46 := Tryz.zeroValue143
  t51 := Tryz.underlying158
  a51 := Tryz.isAgg158
  z51 := Tryz.sizeOf158
  v51 := Tryz.zeroValue158
  t53 := Tryz.underlying78
  a53 := Tryz.isAgg78
  z53 := Tryz.sizeOf78
  v53 := Tryz.zeroValue78
  t171 := Tryz.underlying240
  a171 := Tryz.isAgg240
  z171 := Tryz.sizeOf240
  v171 := Tryz.zeroValue240
  t173 := Tryz.underlying243
  a173 := Tryz.isAgg243
  z173 := Tryz.sizeOf243
  v173 := Tryz.zeroValue243
  t212 := Tryz.underlying273
  a212 := Tryz.isAgg273
  z212 := Tryz.sizeOf273
  v212 := Tryz.zeroValue273
  t213 := Tryz.underlying274
  a213 := Tryz.isAgg274
  z213 := Tryz.sizeOf274
  t232 := Tryz.underlying300
  a232 := Tryz.isAgg300
  z232 := Tryz.sizeOf300
  v232 := Tryz.zeroValue300
  t233 := Tryz.underlying301
  a233 := Tryz.isAgg301
  z233 := Tryz.sizeOf301
  v233 := Tryz.zeroValue301
  g17 := by kernel_rfl
  g18 := by kernel_rfl
  g19 := by kernel_rfl }
open Go.RowKit Go.Sort Go.Lib in
/-- THE ROAD WITHOUT THE TABLE: 0 <= i < 100: NO PREMISE ON THE WORLD, AND THE WORLD IS AS IT WAS: a row that keeps its argument in that range need list no table ('laid = []'). (LAID: no walk: one application.) -/
theorem Tryz.strconv_Itoa_small (i : Nat) (hi : i < 100) (w : World) :
    Calls Tryz.prog 34 #[.int .i64 i] w fun e w' => e = .returned (.string ⟨(Lib.decDigits i).toArray⟩) ∧ w' = w := Any.strconv_Itoa_small Tryz.lays171 i hi w
def Tryz.laysM316_ren : Go.Shelf.Ren := ⟨fun | 316 => 232 | n => n, fun | 9 => 9 | 3 => 3 | 4 => 4 | 37 => 22 | 0 => 0 | 127 => 214 | 5 => 5 | n => n, fun | n => n⟩
theorem Tryz.laysM316 : Go.Proofs.LaysM.n316 Tryz.prog Tryz.laysM316_ren := {
  mixed := by kernel_rfl
  f316 := Tryz.func232.trans (congrArg some (by kernel_rfl))
  t0 := Tryz.underlying0
  a0 := Tryz.isAgg0
  z0 := Tryz.sizeOf0
  v0 := Tryz.zeroValue0
  t3 := Tryz.underlying3
  a3 := Tryz.isAgg3
  z3 := Tryz.sizeOf3
  v3 := Tryz.zeroValue3
  t4 := Tryz.underlying4
  a4 := Tryz.isAgg4
  z4 := Tryz.sizeOf4
  v4 := Tryz.zeroValue4
  t9 := Tryz.underlying9
  a9 := Tryz.isAgg9
  z9 := Tryz.sizeOf9
  v9 := Tryz.zeroValue9
  t37 := Tryz.underlying22
  a37 := Tryz.isAgg22
  z37 := Tryz.sizeOf22
  v37 := Tryz.zeroValue22
  t127 := Tryz.underlying214
  a127 := Tryz.isAgg214
  z127 := Tryz.sizeOf214
  v127 := Tryz.zeroValue214
  t5 := Tryz.underlying5
  a5 := Tryz.isAgg5
  z5 := Tryz.sizeOf5
  v5 := Tryz.zeroValue5
  i0 := by kernel_rfl
  i3 := by kernel_rfl
  i4 := by kernel_rfl
  i5 := by kernel_rfl
  i9 := by kernel_rfl
  i37 := by kernel_rfl
  i127 := by kernel_rfl }
open Go.RowKit in
/-- internal/stringslite.Clone (what strings.Clone calls): "Clone returns a fresh copy of s.": THE SAME BYTES. Of what was there nothing has turned (a new row is laid, and frozen, where s is not empty). (LAID: no walk: one application.) -/
theorem Tryz.stringslite_Clone (s : ByteArray) (w : World) (hlim : s.size ≤ 281474976710656) :
    Calls Tryz.prog 232 #[.string s] w fun e w' => e = .returned (.string s) ∧ Below w.heap.size w w' := Any.stringslite_Clone Tryz.laysM316 s w hlim
def Tryz.lays321_ren : Go.Shelf.Ren := ⟨fun | 321 => 191 | n => n, fun | 5 => 5 | n => n, fun | n => n⟩
theorem Tryz.lays321 : Go.Proofs.Lays.n321 Tryz.prog Tryz.lays321_ren := {
  mixed := by kernel_rfl
  f321 := Tryz.func191.trans (congrArg some (by kernel_rfl))
  t5 := Tryz.underlying5
  a5 := Tryz.isAgg5
  z5 := Tryz.sizeOf5
  v5 := Tryz.zeroValue5 }
open Go.RowKit in
/-- internal/strconv.lower: 'c | ('x' - 'X')': the bit 32 set. The world is as it was. (LAID: no walk: one application.) -/
theorem Tryz.internal_strconv_lower (c : Int) (w : World) :
    Calls Tryz.prog 191 #[.int .u8 c] w fun e w' => e = .returned (.int .u8 (bits .or .u8 c 32)) ∧ w' = w := Any.internal_strconv_lower Tryz.lays321 c w
def Tryz.lays287_ren : Go.Shelf.Ren := ⟨fun | 287 => 166 | 321 => 191 | 322 => 192 | n => n, fun | 9 => 9 | 3 => 3 | 53 => 78 | 75 => 152 | 4 => 4 | 167 => 248 | 5 => 5 | 46 => 143 | 37 => 22 | 0 => 0 | 21 => 21 | 80 => 104 | n => n, fun | n => n⟩
theorem Tryz.lays287 : Go.Proofs.Lays.n287 Tryz.prog Tryz.lays287_ren := {
  mixed := by kernel_rfl
  f287 := Tryz.func166.trans (congrArg some (by kernel_rfl))
  f321 := Tryz.func191.trans (congrArg some (by kernel_rfl))
  f322 := Tryz.func192.trans (congrArg some (by kernel_rfl))
  t0 := Tryz.underlying0
  a0 := Tryz.isAgg0
  z0 := Tryz.sizeOf0
  v0 := Tryz.zeroValue0
  t3 := Tryz.underlying3
  a3 := Tryz.isAgg3
  z3 := Tryz.sizeOf3
  v3 := Tryz.zeroValue3
  t4 := Tryz.underlying4
  a4 := Tryz.isAgg4
  z4 := Tryz.sizeOf4
  v4 := Tryz.zeroValue4
  t5 := Tryz.underlying5
  a5 := Tryz.isAgg5
  z5 := Tryz.sizeOf5
  v5 := Tryz.zeroValue5
  t9 := Tryz.underlying9
  a9 := Tryz.isAgg9
  z9 := Tryz.sizeOf9
  v9 := Tryz.zeroValue9
  t21 := Tryz.underlying21
  a21 := Tryz.isAgg21
  z21 := Tryz.sizeOf21
  v21 := Tryz.zeroValue21
  t37 := Tryz.underlying22
  a37 := Tryz.isAgg22
  z37 := Tryz.sizeOf22
  v37 := Tryz.zeroValue22
  t46 := Tryz.underlying143
  a46 := Tryz.isAgg143
  z46 := Tryz.sizeOf143
  v46 := Tryz.zeroValue143
  t53 := Tryz.underlying78
  a53 := Tryz.isAgg78
  z53 := Tryz.sizeOf78
  v53 := Tryz.zeroValue78
  t75 := Tryz.underlying152
  a75 := Tryz.isAgg152
  z75 := Tryz.sizeOf152
  v75 := Tryz.zeroValue152
  t167 := Tryz.underlying248
  a167 := Tryz.isAgg248
  z167 := Tryz.sizeOf248
  v167 := Tryz.zeroValue248 }
open Go.RowKit in
/-- internal/strconv.ParseUint("", 10, 0): (0, ErrSyntax). The world is as it was. (LAID: no walk: one application.) -/
theorem Tryz.internal_strconv_ParseUint_10_empty (w : World) :
    Calls Tryz.prog 166 #[.string ⟨#[]⟩, .int .i64 10, .int .i64 0] w fun e w' => e = .returned (Lib.uintTuple 248 .syntax) ∧ w' = w := Any.internal_strconv_ParseUint_10_empty Tryz.lays287 w
open Go.RowKit in
/-- internal/strconv.ParseUint("", base, bitSize): (0, ErrSyntax): the first test of the text. The world is as it was. (LAID: no walk: one application.) -/
theorem Tryz.internal_strconv_ParseUint_empty (base bits : Int) (w : World) :
    Calls Tryz.prog 166 #[.string ⟨#[]⟩, .int .i64 base, .int .i64 bits] w fun e w' => e = .returned (.tuple #[.int .u64 0, .iface 248 (.int .i64 2)]) ∧ w' = w := Any.internal_strconv_ParseUint_empty Tryz.lays287 base bits w
def Tryz.lays217_ren : Go.Shelf.Ren := ⟨fun | 217 => 251 | 266 => 252 | n => n, fun | 9 => 9 | 5 => 5 | 3 => 3 | n => n, fun | n => n⟩
theorem Tryz.lays217 : Go.Proofs.Lays.n217 Tryz.prog Tryz.lays217_ren := {
  mixed := by kernel_rfl
  f217 := Tryz.func251.trans (congrArg some (by kernel_rfl))
  f266 := Tryz.func252.trans (congrArg some (by kernel_rfl))
  t3 := Tryz.underlying3
  a3 := Tryz.isAgg3
  z3 := Tryz.sizeOf3
  v3 := Tryz.zeroValue3
  t5 := Tryz.underlying5
  a5 := Tryz.isAgg5
  z5 := Tryz.sizeOf5
  v5 := Tryz.zeroValue5
  t9 := Tryz.underlying9
  a9 := Tryz.isAgg9
  z9 := Tryz.sizeOf9
  v9 := Tryz.zeroValue9 }
open Go.RowKit Go.Lib in
/-- internal/stringslite.IndexByte (what strings.IndexByte calls): IT RETURNS 'Lib.indexByte s c'; the world is as it was. (LAID: no walk: one application.) -/
theorem Tryz.stringslite_IndexByte (s : ByteArray) (c : Int) (w : World) :
    Calls Tryz.prog 251 #[.string s, .int .u8 c] w fun e w' => e = .returned (.int .i64 (Lib.indexByte s.data.toList c.toNat.toUInt8)) ∧ w' = w := Any.stringslite_IndexByte Tryz.lays217 s c w
def Tryz.lays224_ren : Go.Shelf.Ren := ⟨fun | 224 => 245 | n => n, fun | 3 => 3 | n => n, fun | n => n⟩
theorem Tryz.lays224 : Go.Proofs.Lays.n224 Tryz.prog Tryz.lays224_ren := {
  mixed := by kernel_rfl
  f224 := Tryz.func245.trans (congrArg some (by kernel_rfl))
  t3 := Tryz.underlying3
  a3 := Tryz.isAgg3
  z3 := Tryz.sizeOf3
  v3 := Tryz.zeroValue3 }
open Go.RowKit Go.Lib in
/-- internal/bytealg.Cutover: "Cutover reports the number of failures of IndexByte we should tolerate before switching over to Index. n is the number of bytes processed so far.": on amd64: (n + 16) / 8. (LAID: no walk: one application.) -/
theorem Tryz.bytealg_Cutover (n : Int) (h0 : 0 ≤ n) (h1 : n < 4611686018427387904) (w : World) :
    Calls Tryz.prog 245 #[.int .i64 n] w fun e w' => e = .returned (.int .i64 ((n + 16) / 8)) ∧ w' = w := Any.bytealg_Cutover Tryz.lays224 n h0 h1 w
def Tryz.lays206_ren : Go.Shelf.Ren := ⟨fun | 206 => 156 | n => n, fun | 9 => 9 | 4 => 4 | 3 => 3 | n => n, fun | n => n⟩
theorem Tryz.lays206 : Go.Proofs.Lays.n206 Tryz.prog Tryz.lays206_ren := {
  mixed := by kernel_rfl
  f206 := Tryz.func156.trans (congrArg some (by kernel_rfl))
  t3 := Tryz.underlying3
  a3 := Tryz.isAgg3
  z3 := Tryz.sizeOf3
  v3 := Tryz.zeroValue3
  t4 := Tryz.underlying4
  a4 := Tryz.isAgg4
  z4 := Tryz.sizeOf4
  v4 := Tryz.zeroValue4
  t9 := Tryz.underlying9
  a9 := Tryz.isAgg9
  z9 := Tryz.sizeOf9
  v9 := Tryz.zeroValue9 }
open Go.RowKit Go.Lib in
/-- internal/stringslite.HasPrefix (what strings.HasPrefix calls). (LAID: no walk: one application.) -/
theorem Tryz.stringslite_HasPrefix (s p : ByteArray) (w : World) :
    Calls Tryz.prog 156 #[.string s, .string p] w fun e w' => e = .returned (.bool (Lib.hasPrefix s.data.toList p.data.toList)) ∧ w' = w := Any.stringslite_HasPrefix Tryz.lays206 s p w
def Tryz.lays99_ren : Go.Shelf.Ren := ⟨fun | 99 => 88 | 206 => 156 | n => n, fun | 9 => 9 | 4 => 4 | 3 => 3 | n => n, fun | n => n⟩
theorem Tryz.lays99 : Go.Proofs.Lays.n99 Tryz.prog Tryz.lays99_ren := {
  mixed := by kernel_rfl
  f99 := Tryz.func88.trans (congrArg some (by kernel_rfl))
  f206 := Tryz.func156.trans (congrArg some (by kernel_rfl))
  t3 := Tryz.underlying3
  a3 := Tryz.isAgg3
  z3 := Tryz.sizeOf3
  v3 := Tryz.zeroValue3
  t4 := Tryz.underlying4
  a4 := Tryz.isAgg4
  z4 := Tryz.sizeOf4
  v4 := Tryz.zeroValue4
  t9 := Tryz.underlying9
  a9 := Tryz.isAgg9
  z9 := Tryz.sizeOf9
  v9 := Tryz.zeroValue9 }
open Go.RowKit Go.Lib in
/-- strings.HasPrefix: "HasPrefix reports whether the string s begins with prefix.": IT RETURNS 'Lib.hasPrefix s prefix'; the world is as it was. (LAID: no walk: one application.) -/
theorem Tryz.strings_HasPrefix (s p : ByteArray) (w : World) :
    Calls Tryz.prog 88 #[.string s, .string p] w fun e w' => e = .returned (.bool (Lib.hasPrefix s.data.toList p.data.toList)) ∧ w' = w := Any.strings_HasPrefix Tryz.lays99 s p w
def Tryz.lays207_ren : Go.Shelf.Ren := ⟨fun | 207 => 190 | n => n, fun | 9 => 9 | 4 => 4 | 3 => 3 | n => n, fun | n => n⟩
theorem Tryz.lays207 : Go.Proofs.Lays.n207 Tryz.prog Tryz.lays207_ren := {
  mixed := by kernel_rfl
  f207 := Tryz.func190.trans (congrArg some (by kernel_rfl))
  t3 := Tryz.underlying3
  a3 := Tryz.isAgg3
  z3 := Tryz.sizeOf3
  v3 := Tryz.zeroValue3
  t4 := Tryz.underlying4
  a4 := Tryz.isAgg4
  z4 := Tryz.sizeOf4
  v4 := Tryz.zeroValue4
  t9 := Tryz.underlying9
  a9 := Tryz.isAgg9
  z9 := Tryz.sizeOf9
  v9 := Tryz.zeroValue9 }
open Go.RowKit Go.Lib in
/-- internal/stringslite.HasSuffix (what strings.HasSuffix calls). (LAID: no walk: one application.) -/
theorem Tryz.stringslite_HasSuffix (s p : ByteArray) (w : World) (hs : s.size ≤ 9223372036854775807) :
    Calls Tryz.prog 190 #[.string s, .string p] w fun e w' => e = .returned (.bool (Lib.hasSuffix s.data.toList p.data.toList)) ∧ w' = w := Any.stringslite_HasSuffix Tryz.lays207 s p w hs
def Tryz.lays152_ren : Go.Shelf.Ren := ⟨fun | 152 => 226 | 137 => 243 | 119 => 244 | 224 => 245 | 225 => 246 | 217 => 251 | 266 => 252 | n => n, fun | 9 => 9 | 21 => 21 | 3 => 3 | 4 => 4 | 5 => 5 | 0 => 0 | 46 => 143 | n => n, fun | n => n⟩
theorem Tryz.lays152 : Go.Proofs.Lays.n152 Tryz.prog Tryz.lays152_ren := {
  mixed := by kernel_rfl
  f119 := Tryz.func244.trans (congrArg some (by kernel_rfl))
  f137 := Tryz.func243.trans (congrArg some (by kernel_rfl))
  f152 := Tryz.func226.trans (congrArg some (by kernel_rfl))
  f217 := Tryz.func251.trans (congrArg some (by kernel_rfl))
  f224 := Tryz.func245.trans (congrArg some (by kernel_rfl))
  f225 := Tryz.func246.trans (congrArg some (by kernel_rfl))
  f266 := Tryz.func252.trans (congrArg some (by kernel_rfl))
  t0 := Tryz.underlying0
  a0 := Tryz.isAgg0
  z0 := Tryz.sizeOf0
  v0 := Tryz.zeroValue0
  t3 := Tryz.underlying3
  a3 := Tryz.isAgg3
  z3 := Tryz.sizeOf3
  v3 := Tryz.zeroValue3
  t4 := Tryz.underlying4
  a4 := Tryz.isAgg4
  z4 := Tryz.sizeOf4
  v4 := Tryz.zeroValue4
  t5 := Tryz.underlying5
  a5 := Tryz.isAgg5
  z5 := Tryz.sizeOf5
  v5 := Tryz.zeroValue5
  t9 := Tryz.underlying9
  a9 := Tryz.isAgg9
  z9 := Tryz.sizeOf9
  v9 := Tryz.zeroValue9
  t21 := Tryz.underlying21
  a21 := Tryz.isAgg21
  z21 := Tryz.sizeOf21
  v21 := Tryz.zeroValue21
  t46 := Tryz.underlying143
  a46 := Tryz.isAgg143
  z46 := Tryz.sizeOf143
  v46 := Tryz.zeroValue143 }
open Go.RowKit Go.Lib in
theorem Tryz.strings_IndexRune_ascii (s : ByteArray) (r : Int) (w : World) (h0 : 0 ≤ r) (h1 : r < 128) :
    Calls Tryz.prog 226 #[.string s, .int .i32 r] w fun e w' => e = .returned (.int .i64 (Lib.indexByte s.data.toList r.toNat.toUInt8)) ∧ w' = w := Any.strings_IndexRune_ascii Tryz.lays152 s r w h0 h1
def Tryz.lays151_ren : Go.Shelf.Ren := ⟨fun | 151 => 182 | 152 => 226 | 137 => 243 | 119 => 244 | 224 => 245 | 225 => 246 | 217 => 251 | 266 => 252 | n => n, fun | 9 => 9 | 21 => 21 | 4 => 4 | 3 => 3 | 5 => 5 | 0 => 0 | 46 => 143 | n => n, fun | n => n⟩
theorem Tryz.lays151 : Go.Proofs.Lays.n151 Tryz.prog Tryz.lays151_ren := {
  mixed := by kernel_rfl
  f119 := Tryz.func244.trans (congrArg some (by kernel_rfl))
  f137 := Tryz.func243.trans (congrArg some (by kernel_rfl))
  f151 := Tryz.func182.trans (congrArg some (by kernel_rfl))
  f152 := Tryz.func226.trans (congrArg some (by kernel_rfl))
  f217 := Tryz.func251.trans (congrArg some (by kernel_rfl))
  f224 := Tryz.func245.trans (congrArg some (by kernel_rfl))
  f225 := Tryz.func246.trans (congrArg some (by kernel_rfl))
  f266 := Tryz.func252.trans (congrArg some (by kernel_rfl))
  t0 := Tryz.underlying0
  a0 := Tryz.isAgg0
  z0 := Tryz.sizeOf0
  v0 := Tryz.zeroValue0
  t3 := Tryz.underlying3
  a3 := Tryz.isAgg3
  z3 := Tryz.sizeOf3
  v3 := Tryz.zeroValue3
  t4 := Tryz.underlying4
  a4 := Tryz.isAgg4
  z4 := Tryz.sizeOf4
  v4 := Tryz.zeroValue4
  t5 := Tryz.underlying5
  a5 := Tryz.isAgg5
  z5 := Tryz.sizeOf5
  v5 := Tryz.zeroValue5
  t9 := Tryz.underlying9
  a9 := Tryz.isAgg9
  z9 := Tryz.sizeOf9
  v9 := Tryz.zeroValue9
  t21 := Tryz.underlying21
  a21 := Tryz.isAgg21
  z21 := Tryz.sizeOf21
  v21 := Tryz.zeroValue21
  t46 := Tryz.underlying143
  a46 := Tryz.isAgg143
  z46 := Tryz.sizeOf143
  v46 := Tryz.zeroValue143 }
open Go.RowKit Go.Lib in
theorem Tryz.strings_ContainsRune_ascii (s : ByteArray) (r : Int) (w : World) (h0 : 0 ≤ r) (h1 : r < 128) :
    Calls Tryz.prog 182 #[.string s, .int .i32 r] w fun e w' => e = .returned (.bool (decide (0 ≤ Lib.indexByte s.data.toList r.toNat.toUInt8))) ∧ w' = w := Any.strings_ContainsRune_ascii Tryz.lays151 s r w h0 h1
def Tryz.lays227_ren : Go.Shelf.Ren := ⟨fun | 227 => 148 | n => n, fun | 9 => 9 | 116 => 204 | 4 => 4 | 0 => 0 | 3 => 3 | 5 => 5 | n => n, fun | n => n⟩
theorem Tryz.lays227 : Go.Proofs.Lays.n227 Tryz.prog Tryz.lays227_ren := {
  mixed := by kernel_rfl
  f227 := Tryz.func148.trans (congrArg some (by kernel_rfl))
  t0 := Tryz.underlying0
  a0 := Tryz.isAgg0
  z0 := Tryz.sizeOf0
  v0 := Tryz.zeroValue0
  t3 := Tryz.underlying3
  a3 := Tryz.isAgg3
  z3 := Tryz.sizeOf3
  v3 := Tryz.zeroValue3
  t4 := Tryz.underlying4
  a4 := Tryz.isAgg4
  z4 := Tryz.sizeOf4
  v4 := Tryz.zeroValue4
  t5 := Tryz.underlying5
  a5 := Tryz.isAgg5
  z5 := Tryz.sizeOf5
  v5 := Tryz.zeroValue5
  t9 := Tryz.underlying9
  a9 := Tryz.isAgg9
  z9 := Tryz.sizeOf9
  v9 := Tryz.zeroValue9
  t116 := Tryz.underlying204
  a116 := Tryz.isAgg204
  z116 := Tryz.sizeOf204 }
open Go.RowKit Go.Lib in
theorem Tryz.strings_makeASCIISet (hv116 : ∀ w, (zeroValue 204).run Tryz.prog w = .ok (.agg (Array.replicate 256 (.bool false))) w) (chars : ByteArray) (w : World) (hs : chars.size < 4294967281) (hascii : ∀ (j : Nat) b, chars.data.toList[j]? = some b → b.toNat < 128) :
    Calls Tryz.prog 148 #[.string chars] w fun e w' => e = .returned (.tuple #[.agg (Lib.setCells chars.data.toList), .bool true]) ∧ w' = w.alloc (.cells (Lib.setCells chars.data.toList) 204) := Any.strings_makeASCIISet Tryz.lays227 hv116 (by kernel_rfl) chars w hs hascii
def Tryz.lays228_ren : Go.Shelf.Ren := ⟨fun | 228 => 180 | n => n, fun | 124 => 208 | 5 => 5 | 4 => 4 | 0 => 0 | 116 => 204 | n => n, fun | n => n⟩
theorem Tryz.lays228 : Go.Proofs.Lays.n228 Tryz.prog Tryz.lays228_ren := {
  mixed := by kernel_rfl
  f228 := Tryz.func180.trans (congrArg some (by kernel_rfl))
  t0 := Tryz.underlying0
  a0 := Tryz.isAgg0
  z0 := Tryz.sizeOf0
  v0 := Tryz.zeroValue0
  t4 := Tryz.underlying4
  a4 := Tryz.isAgg4
  z4 := Tryz.sizeOf4
  v4 := Tryz.zeroValue4
  t5 := Tryz.underlying5
  a5 := Tryz.isAgg5
  z5 := Tryz.sizeOf5
  v5 := Tryz.zeroValue5
  t116 := Tryz.underlying204
  a116 := Tryz.isAgg204
  z116 := Tryz.sizeOf204
  t124 := Tryz.underlying208
  a124 := Tryz.isAgg208
  z124 := Tryz.sizeOf208
  v124 := Tryz.zeroValue208 }
open Go.RowKit Go.Lib in
/-- '(as *asciiSet) contains(c)': 'as[c]': the set lies at block b, whole. (LAID: no walk: one application.) -/
theorem Tryz.asciiSet_contains (b : Nat) (x : UInt8) (v : Bool) (w : World) (hc : w.cell? ⟨b, x.toNat, none⟩ = some (.bool v)) :
    Calls Tryz.prog 180 #[.pointer (some ⟨b, 0, none⟩), .int .u8 x.toNat] w fun e w' => e = .returned (.bool v) ∧ w' = w := Any.asciiSet_contains Tryz.lays228 b x v w hc
def Tryz.lays264_ren : Go.Shelf.Ren := ⟨fun | 264 => 155 | n => n, fun | 53 => 78 | 46 => 143 | n => n, fun | n => n⟩
theorem Tryz.lays264 : Go.Proofs.Lays.n264 Tryz.prog Tryz.lays264_ren := {
  mixed := by kernel_rfl
  f264 := Tryz.func155.trans (congrArg some (by kernel_rfl))
  t46 := Tryz.underlying143
  a46 := Tryz.isAgg143
  z46 := Tryz.sizeOf143
  v46 := Tryz.zeroValue143
  t53 := Tryz.underlying78
  a53 := Tryz.isAgg78
  z53 := Tryz.sizeOf78
  v53 := Tryz.zeroValue78 }
open Go.RowKit Go.Lib in
theorem Tryz.bits_Mul64 (x y : Nat) (hx : x < 18446744073709551616) (hy : y < 18446744073709551616) (w : World) :
    Calls Tryz.prog 155 #[.int .u64 x, .int .u64 y] w fun e w' => e = .returned (.tuple #[.int .u64 ((x * y / 18446744073709551616 : Nat) : Int), .int .u64 ((x * y % 18446744073709551616 : Nat) : Int)]) ∧ w' = w := Any.bits_Mul64 Tryz.lays264 x y hx hy w
def Tryz.lays212_ren : Go.Shelf.Ren := ⟨fun | 212 => 87 | 263 => 154 | 264 => 155 | n => n, fun | 46 => 143 | 51 => 158 | 146 => 210 | 53 => 78 | 148 => 212 | n => n, fun | n => n⟩
theorem Tryz.lays212 : Go.Proofs.Lays.n212 Tryz.prog Tryz.lays212_ren := {
  mixed := by kernel_rfl
  f212 := Tryz.func87.trans (congrArg some (by kernel_rfl))
  f263 := Tryz.func154.trans (congrArg some (by kernel_rfl))
  f264 := Tryz.func155.trans (congrArg some (by kernel_rfl))
  t46 := Tryz.underlying143
  a46 := Tryz.isAgg143
  z46 := Tryz.sizeOf143
  v46 := Tryz.zeroValue143
  t51 := Tryz.underlying158
  a51 := Tryz.isAgg158
  z51 := Tryz.sizeOf158
  v51 := Tryz.zeroValue158
  t53 := Tryz.underlying78
  a53 := Tryz.isAgg78
  z53 := Tryz.sizeOf78
  v53 := Tryz.zeroValue78
  t146 := Tryz.underlying210
  a146 := Tryz.isAgg210
  z146 := Tryz.sizeOf210
  v146 := Tryz.zeroValue210
  t148 := Tryz.underlying212
  a148 := Tryz.isAgg212
  z148 := Tryz.sizeOf212
  v148 := Tryz.zeroValue212 }
open Go.RowKit Go.Lib in
/-- math/bits.Mul: "Mul returns the full-width product of x and y": on a machine of 64 bits: Mul64's. (LAID: no walk: one application.) -/
theorem Tryz.bits_Mul (x y : Nat) (hx : x < 18446744073709551616) (hy : y < 18446744073709551616) (w : World) :
    Calls Tryz.prog 87 #[.int .u64 x, .int .u64 y] w fun e w' => e = .returned (.tuple #[.int .u64 ((x * y / 18446744073709551616 : Nat) : Int), .int .u64 ((x * y % 18446744073709551616 : Nat) : Int)]) ∧ w' = w := Any.bits_Mul Tryz.lays212 x y hx hy w
def Tryz.lays260_ren : Go.Shelf.Ren := ⟨fun | 260 => 225 | n => n, fun | 9 => 9 | 21 => 21 | 3 => 3 | 4 => 4 | 5 => 5 | 119 => 286 | 0 => 0 | 46 => 143 | 139 => 289 | 138 => 288 | n => n, fun | 3 => 4 | 4 => 5 | n => n⟩
theorem Tryz.lays260 : Go.Proofs.Lays.n260 Tryz.prog Tryz.lays260_ren := {
  mixed := by kernel_rfl
  f260 := Tryz.func225.trans (congrArg some (by kernel_rfl))
  t0 := Tryz.underlying0
  a0 := Tryz.isAgg0
  z0 := Tryz.sizeOf0
  v0 := Tryz.zeroValue0
  t3 := Tryz.underlying3
  a3 := Tryz.isAgg3
  z3 := Tryz.sizeOf3
  v3 := Tryz.zeroValue3
  t4 := Tryz.underlying4
  a4 := Tryz.isAgg4
  z4 := Tryz.sizeOf4
  v4 := Tryz.zeroValue4
  t5 := Tryz.underlying5
  a5 := Tryz.isAgg5
  z5 := Tryz.sizeOf5
  v5 := Tryz.zeroValue5
  t9 := Tryz.underlying9
  a9 := Tryz.isAgg9
  z9 := Tryz.sizeOf9
  v9 := Tryz.zeroValue9
  t21 := Tryz.underlying21
  a21 := Tryz.isAgg21
  z21 := Tryz.sizeOf21
  v21 := Tryz.zeroValue21
  t46 := Tryz.underlying143
  a46 := Tryz.isAgg143
  z46 := Tryz.sizeOf143
  v46 := Tryz.zeroValue143
  t119 := Tryz.underlying286
  a119 := Tryz.isAgg286
  z119 := Tryz.sizeOf286
  t138 := Tryz.underlying288
  a138 := Tryz.isAgg288
  z138 := Tryz.sizeOf288
  v138 := Tryz.zeroValue288
  t139 := Tryz.underlying289
  a139 := Tryz.isAgg289
  z139 := Tryz.sizeOf289
  v139 := Tryz.zeroValue289
  g3 := by kernel_rfl
  g4 := by kernel_rfl }
open Go.RowKit Go.Lib in
theorem Tryz.utf8_decodeRuneInStringSlow (s : ByteArray) (w : World) (hT : Lib.Utf8Tabs 4 5 w) :
    Calls Tryz.prog 225 #[.string s] w fun e w' => e = .returned (.tuple #[.int .i32 (Lib.decodeGo s).1, .int .i64 (Lib.decodeGo s).2]) ∧ Below w.heap.size w w' := Any.utf8_decodeRuneInStringSlow Tryz.lays260 s w hT
def Tryz.laysSlH6_f111_ren : Go.Shelf.Ren := ⟨fun | 6 => 111 | n => n, fun | 22 => 46 | 23 => 3 | 25 => 106 | 3 => 3 | 0 => 0 | 4 => 4 | n => n, fun | n => n⟩
theorem Tryz.laysSlH6_f111 : Go.Proofs.SlLaysH.n6 Tryz.prog Tryz.laysSlH6_f111_ren := {
  mixed := by kernel_rfl
  f6 := ⟨Tryz.f111.name, by decide, Tryz.func111.trans (congrArg some (by kernel_rfl))⟩
  t0 := Tryz.underlying0
  a0 := Tryz.isAgg0
  z0 := Tryz.sizeOf0
  v0 := Tryz.zeroValue0
  t3 := Tryz.underlying3
  a3 := Tryz.isAgg3
  z3 := Tryz.sizeOf3
  v3 := Tryz.zeroValue3
  t4 := Tryz.underlying4
  a4 := Tryz.isAgg4
  z4 := Tryz.sizeOf4
  v4 := Tryz.zeroValue4
  t22 := Tryz.underlying46
  a22 := Tryz.isAgg46
  z22 := Tryz.sizeOf46
  v22 := Tryz.zeroValue46
  a23 := Tryz.isAgg3
  z23 := Tryz.sizeOf3
  t25 := Tryz.underlying106
  a25 := Tryz.isAgg106
  z25 := Tryz.sizeOf106
  v25 := Tryz.zeroValue106 }
open Go.RowKit Go.Lib in
/-- slices.IndexFunc: "IndexFunc returns the first index i satisfying f(s[i]), or -1 if none do." (LAID AT THE INSTANCE 'slices.IndexFunc[[]int,int]': no walk: one application.) -/
theorem Tryz.slices_IndexFunc {α : Type} [Inhabited α] (enc : α → Value) (p : α → Bool) (g : Nat) (lb : Array Value) (eg : ∀ args w, (callFunc g args).run Tryz.prog w = .ok (.enter g args) w) (b off n c : Nat) (zs : List α) (w : World) (hp : PredAt Tryz.prog g lb enc p w) (hz : n ≤ zs.length) (hbig : n ≤ 9223372036854775807) (hc : ∀ j, j < zs.length → w.cell? ⟨b, off + j, none⟩ = some (enc zs[j]!)) :
    Calls Tryz.prog 111 #[.slice (some ⟨b, off, none⟩) n c, .func (.func g) #[] lb] w fun e w' => e = .returned (.int .i64 (Lib.idxBy (fun _ y => p y) (zs.take n) default)) ∧ ∃ q, w' = w.drewN q := AnyE.slices_IndexFunc Tryz.laysSlH6_f111 enc p g lb eg b off n c zs w hp hz hbig hc
open Go.RowKit Go.Lib in
/-- The same at a slice of length 0, a nil one too: the predicate is not called: nothing is asked of it. (LAID AT THE INSTANCE 'slices.IndexFunc[[]int,int]': no walk: one application.) -/
theorem Tryz.slices_IndexFunc_empty {α : Type} [Inhabited α] (a : Option Addr) (c : Nat) (fv : Value) (w : World) :
    Calls Tryz.prog 111 #[.slice a 0 c, fv] w fun e w' => e = .returned (.int .i64 (-1)) ∧ w' = w := AnyE.slices_IndexFunc_empty Tryz.laysSlH6_f111 a c fv w
def Tryz.laysSlH8_f56_ren : Go.Shelf.Ren := ⟨fun | 8 => 56 | 6 => 111 | n => n, fun | 22 => 46 | 23 => 3 | 25 => 106 | 4 => 4 | 3 => 3 | 0 => 0 | n => n, fun | n => n⟩
theorem Tryz.laysSlH8_f56 : Go.Proofs.SlLaysH.n8 Tryz.prog Tryz.laysSlH8_f56_ren := {
  mixed := by kernel_rfl
  f6 := ⟨Tryz.f111.name, by decide, Tryz.func111.trans (congrArg some (by kernel_rfl))⟩
  f8 := ⟨Tryz.f56.name, by decide, Tryz.func56.trans (congrArg some (by kernel_rfl))⟩
  t0 := Tryz.underlying0
  a0 := Tryz.isAgg0
  z0 := Tryz.sizeOf0
  v0 := Tryz.zeroValue0
  t3 := Tryz.underlying3
  a3 := Tryz.isAgg3
  z3 := Tryz.sizeOf3
  v3 := Tryz.zeroValue3
  t4 := Tryz.underlying4
  a4 := Tryz.isAgg4
  z4 := Tryz.sizeOf4
  v4 := Tryz.zeroValue4
  t22 := Tryz.underlying46
  a22 := Tryz.isAgg46
  z22 := Tryz.sizeOf46
  v22 := Tryz.zeroValue46
  a23 := Tryz.isAgg3
  z23 := Tryz.sizeOf3
  t25 := Tryz.underlying106
  a25 := Tryz.isAgg106
  z25 := Tryz.sizeOf106
  v25 := Tryz.zeroValue106 }
open Go.RowKit Go.Lib in
/-- slices.ContainsFunc: "ContainsFunc reports whether at least one element e of s satisfies f(e).": ITS CALLEE slices.IndexFunc IS MET BY ITS OWN CONTRACT. (LAID AT THE INSTANCE 'slices.ContainsFunc[[]int,int]': no walk: one application.) -/
theorem Tryz.slices_ContainsFunc {α : Type} [Inhabited α] (enc : α → Value) (p : α → Bool) (g : Nat) (lb : Array Value) (eg : ∀ args w, (callFunc g args).run Tryz.prog w = .ok (.enter g args) w) (b off n c : Nat) (zs : List α) (w : World) (hp : PredAt Tryz.prog g lb enc p w) (hz : n ≤ zs.length) (hbig : n ≤ 9223372036854775807) (hc : ∀ j, j < zs.length → w.cell? ⟨b, off + j, none⟩ = some (enc zs[j]!)) :
    Calls Tryz.prog 56 #[.slice (some ⟨b, off, none⟩) n c, .func (.func g) #[] lb] w fun e w' => e = .returned (.bool ((zs.take n).any p)) ∧ ∃ q, w' = w.drewN q := AnyE.slices_ContainsFunc Tryz.laysSlH8_f56 enc p g lb eg b off n c zs w hp hz hbig hc
open Go.RowKit Go.Lib in
/-- The same at a slice of length 0, a nil one too. (LAID AT THE INSTANCE 'slices.ContainsFunc[[]int,int]': no walk: one application.) -/
theorem Tryz.slices_ContainsFunc_empty {α : Type} [Inhabited α] (a : Option Addr) (c : Nat) (fv : Value) (w : World) :
    Calls Tryz.prog 56 #[.slice a 0 c, fv] w fun e w' => e = .returned (.bool false) ∧ w' = w := AnyE.slices_ContainsFunc_empty Tryz.laysSlH8_f56 a c fv w
def Tryz.laysSlM6_f128_ren : Go.Shelf.Ren := ⟨fun | 6 => 128 | 8 => 169 | 9 => 172 | 19 => 205 | 20 => 206 | 21 => 207 | 22 => 208 | 23 => 209 | 24 => 210 | 25 => 211 | 26 => 212 | 27 => 213 | 28 => 214 | 29 => 215 | 36 => 239 | 31 => 235 | 32 => 236 | 37 => 240 | 38 => 241 | 39 => 242 | 41 => 250 | n => n, fun | 27 => 50 | 29 => 9 | 3 => 3 | 32 => 143 | 26 => 50 | 0 => 0 | 44 => 158 | 46 => 78 | 4 => 4 | 36 => 255 | 35 => 254 | 41 => 227 | 5 => 5 | 9 => 9 | 53 => 279 | 57 => 282 | 63 => 296 | 64 => 297 | n => n, fun | n => n⟩
theorem Tryz.laysSlM6_f128 : Go.Proofs.SlLaysM.n6 Tryz.prog Tryz.laysSlM6_f128_ren := {
  mixed := by kernel_rfl
  f6 := ⟨Tryz.f128.name, by decide, Tryz.func128.trans (congrArg some (by kernel_rfl))⟩
  f8 := Tryz.func169.trans (congrArg some (by kernel_rfl))
  f9 := ⟨Tryz.f172.name, by decide, Tryz.func172.trans (congrArg some (by kernel_rfl))⟩
  f19 := Tryz.func205.trans (congrArg some (by kernel_rfl))
  f20 := Tryz.func206.trans (congrArg some (by kernel_rfl))
  f21 := ⟨Tryz.f207.name, by decide, Tryz.func207.trans (congrArg some (by kernel_rfl))⟩
  f22 := ⟨Tryz.f208.name, by decide, Tryz.func208.trans (congrArg some (by kernel_rfl))⟩
  f23 := ⟨Tryz.f209.name, by decide, Tryz.func209.trans (congrArg some (by kernel_rfl))⟩
  f24 := ⟨Tryz.f210.name, by decide, Tryz.func210.trans (congrArg some (by kernel_rfl))⟩
  f25 := ⟨Tryz.f211.name, by decide, Tryz.func211.trans (congrArg some (by kernel_rfl))⟩
  f26 := ⟨Tryz.f212.name, by decide, Tryz.func212.trans (congrArg some (by kernel_rfl))⟩
  f27 := ⟨Tryz.f213.name, by decide, Tryz.func213.trans (congrArg some (by kernel_rfl))⟩
  f28 := ⟨Tryz.f214.name, by decide, Tryz.func214.trans (congrArg some (by kernel_rfl))⟩
  f29 := ⟨Tryz.f215.name, by decide, Tryz.func215.trans (congrArg some (by kernel_rfl))⟩
  f31 := Tryz.func235.trans (congrArg some (by kernel_rfl))
  f32 := Tryz.func236.trans (congrArg some (by kernel_rfl))
  f36 := ⟨Tryz.f239.name, by decide, Tryz.func239.trans (congrArg some (by kernel_rfl))⟩
  f37 := ⟨Tryz.f240.name, by decide, Tryz.func240.trans (congrArg some (by kernel_rfl))⟩
  f38 := ⟨Tryz.f241.name, by decide, Tryz.func241.trans (congrArg some (by kernel_rfl))⟩
  f39 := ⟨Tryz.f242.name, by decide, Tryz.func242.trans (congrArg some (by kernel_rfl))⟩
  f41 := ⟨Tryz.f250.name, by decide, Tryz.func250.trans (congrArg some (by kernel_rfl))⟩
  t0 := Tryz.underlying0
  a0 := Tryz.isAgg0
  z0 := Tryz.sizeOf0
  v0 := Tryz.zeroValue0
  t3 := Tryz.underlying3
  a3 := Tryz.isAgg3
  z3 := Tryz.sizeOf3
  v3 := Tryz.zeroValue3
  t4 := Tryz.underlying4
  a4 := Tryz.isAgg4
  z4 := Tryz.sizeOf4
  v4 := Tryz.zeroValue4
  t5 := Tryz.underlying5
  a5 := Tryz.isAgg5
  z5 := Tryz.sizeOf5
  v5 := Tryz.zeroValue5
  t9 := Tryz.underlying9
  a9 := Tryz.isAgg9
  z9 := Tryz.sizeOf9
  v9 := Tryz.zeroValue9
  t26 := Tryz.underlying50
  a26 := Tryz.isAgg50
  z26 := Tryz.sizeOf50
  v26 := Tryz.zeroValue50
  t27 := Tryz.underlying50
  a27 := Tryz.isAgg50
  z27 := Tryz.sizeOf50
  v27 := Tryz.zeroValue50
  t29 := Tryz.underlying9
  a29 := Tryz.isAgg9
  z29 := Tryz.sizeOf9
  v29 := Tryz.zeroValue9
  t32 := Tryz.underlying143
  a32 := Tryz.isAgg143
  z32 := Tryz.sizeOf143
  v32 := Tryz.zeroValue143
  t35 := Tryz.underlying254
  a35 := Tryz.isAgg254
  z35 := Tryz.sizeOf254
  v35 := Tryz.zeroValue254
  t36 := Tryz.underlying255
  a36 := Tryz.isAgg255
  z36 := Tryz.sizeOf255
  v36 := Tryz.zeroValue255
  t41 := Tryz.underlying227
  a41 := Tryz.isAgg227
  z41 := Tryz.sizeOf227
  v41 := Tryz.zeroValue227
  t44 := Tryz.underlying158
  a44 := Tryz.isAgg158
  z44 := Tryz.sizeOf158
  v44 := Tryz.zeroValue158
  t46 := Tryz.underlying78
  a46 := Tryz.isAgg78
  z46 := Tryz.sizeOf78
  v46 := Tryz.zeroValue78
  t53 := Tryz.underlying279
  a53 := Tryz.isAgg279
  z53 := Tryz.sizeOf279
  v53 := Tryz.zeroValue279
  t57 := Tryz.underlying282
  a57 := Tryz.isAgg282
  z57 := Tryz.sizeOf282
  v57 := Tryz.zeroValue282
  t63 := Tryz.underlying296
  a63 := Tryz.isAgg296
  z63 := Tryz.sizeOf296
  v63 := Tryz.zeroValue296
  t64 := Tryz.underlying297
  a64 := Tryz.isAgg297
  z64 := Tryz.sizeOf297
  v64 := Tryz.zeroValue297 }
open Go.Sort Go.RowKit in
theorem Tryz.slices_Sort_string (blk off cap : Nat) (ss : List (List UInt8)) (w : World) (hH : Holds encStr w blk off ss.toArray) (hblk : blk < w.heap.size) (hsz : ss.length < 4611686018427387904) :
    Calls Tryz.prog 128 #[.slice (some ⟨blk, off, none⟩) ss.length cap] w fun e w' =>
      e = .returned (.tuple #[]) ∧ ∃ n os, w' = grow (putRow encStr (Sort.ahead w n) blk off (ss.mergeSort fun x y => decide (x ≤ y)).toArray) os := AnyM.slices_Sort_string Tryz.laysSlM6_f128 blk off cap ss w hH hblk hsz
open Go.RowKit Go.Sort in
/-- .. and plain. (LAID AT THE INSTANCE 'slices.Sort[[]string,string]': no walk: one application.) -/
theorem Tryz.slices_Sort_string_none (p : Option Addr) (cap : Nat) (w : World) :
    Calls Tryz.prog 128 #[.slice p 0 cap] w fun e w' => e = .returned (.tuple #[]) ∧ w' = w := AnyM.slices_Sort_string_none Tryz.laysSlM6_f128 p cap w
end Go.Proofs
