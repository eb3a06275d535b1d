/-
  DERIVED: THE SHELF's CONTRACTS AT THIS DUMP, IN PLAIN WORDS (tools/lay-plain.mjs out of 'TryzShelf.lean', which tools/lay-shelf.mjs wrote): THE SAME DECLARATIONS UNDER THE SAME NAMES: 'import', 'namespace', 'open', 'def', 'theorem' AND NOTHING ELSE: no command of the shelf's: FOR A HAND-IN. Each laying: the table of numbers ('.._ren') and one theorem, a field a fact of the dump's own or the kernel's comparison; each contract: ONE APPLICATION.
-/
import Derived.Shelf.Strings.Builder1
import Derived.Shelf.Strings.Builder2
import Derived.Shelf.Strings.OnBuilder
import Derived.Shelf.Strings.Trim
import Derived.Shelf.Small.Utf8
import Derived.Shelf.Small.Strs
import Derived.Shelf.Small.Wraps
import Derived.Shelf.Strings.BuilderF
import Derived.Shelf.Strings.BuilderK
import Derived.Shelf.Strconv.Itoa0
import Derived.Shelf.Strconv.Itoa1
import Derived.Shelf.LaysM
import Derived.Shelf.Strconv.Itoa2
import Derived.Shelf.Strconv.Itoa3
import Derived.Shelf.Strconv.Itoa4
import Derived.Shelf.Strconv.ParseIntEmpty
import Derived.Shelf.Strconv.Clone
import Derived.Shelf.Strconv.SyntaxError
import Derived.Shelf.LaysC
import Derived.Shelf.Strconv.ToError
import Derived.Shelf.Strconv.Lower
import Derived.Shelf.Strconv.ParseUint10
import Derived.Shelf.Strconv.ParseUint10Empty
import Derived.Shelf.Strconv.ParseUint10Any
import Derived.Shelf.Strconv.ParseInt10
import Derived.Shelf.Strconv.RangeError
import Derived.Shelf.Strconv.ToErrorRange
import Derived.Shelf.Strconv.ParseUintEmpty
import Derived.Shelf.Strconv.ParseUint10b64
import Derived.Shelf.Strconv.ParseUint10b32
import Derived.Shelf.Strconv.ParseUint10b16
import Derived.Shelf.Strconv.ParseUint10b8
import Derived.Shelf.Strconv.ParseUint10At
import Derived.Shelf.Strconv.ParseInt10At64
import Derived.Shelf.Strconv.ParseInt10At32
import Derived.Shelf.Strconv.ParseInt10At16
import Derived.Shelf.Strconv.ParseInt10At8
import Derived.Shelf.Strconv.ParseInt10All
import Derived.Shelf.Strconv.ParseIntPublic10
import Derived.Shelf.Strconv.ErrVarParseInt
import Derived.Shelf.Strings.Search1
import Derived.Shelf.Strings.Search2
import Derived.Shelf.Strings.Search3
import Derived.Shelf.Strings.Cut
import Derived.Shelf.Strings.Count
import Derived.Shelf.Strings.Shaped
import Derived.Shelf.Strings.Prefix
import Derived.Shelf.Strings.Split
import Derived.Shelf.Strings.SplitShaped
import Derived.Shelf.Strings.Runes
import Derived.Shelf.Strings.AsciiSet
import Derived.Shelf.Bits.Mul64
import Derived.Shelf.Unicode.DecodeSlow
import Derived.Ground.SlgfProg
import Derived.Shelf.SlicesE.IndexFunc
import Derived.Test.YtnjjeapcalkmaaaGreatDoorProg
namespace Go.Proofs
open Go.Shelf
def Tryz.lays169_ren : Go.Shelf.Ren := ⟨fun | 169 => 86 | n => n, fun | 70 => 134 | 9 => 9 | 0 => 0 | 72 => 137 | 37 => 135 | 127 => 180 | 3 => 3 | 5 => 5 | n => n, fun | n => n⟩
theorem Tryz.lays169 : Go.Proofs.Lays.n169 Tryz.prog Tryz.lays169_ren := {
  mixed := by kernel_rfl
  f169 := Tryz.func86.trans (congrArg some (by kernel_rfl))
  t0 := Tryz.underlying0
  a0 := Tryz.isAgg0
  z0 := Tryz.sizeOf0
  v0 := Tryz.zeroValue0
  t3 := Tryz.underlying3
  a3 := Tryz.isAgg3
  z3 := Tryz.sizeOf3
  v3 := Tryz.zeroValue3
  t9 := Tryz.underlying9
  a9 := Tryz.isAgg9
  z9 := Tryz.sizeOf9
  v9 := Tryz.zeroValue9
  t37 := Tryz.underlying135
  a37 := Tryz.isAgg135
  z37 := Tryz.sizeOf135
  v37 := Tryz.zeroValue135
  t70 := Tryz.underlying134
  a70 := Tryz.isAgg134
  z70 := Tryz.sizeOf134
  v70 := Tryz.zeroValue134
  t72 := Tryz.underlying137
  a72 := Tryz.isAgg137
  z72 := Tryz.sizeOf137
  v72 := Tryz.zeroValue137
  t127 := Tryz.underlying180
  a127 := Tryz.isAgg180
  z127 := Tryz.sizeOf180
  v127 := Tryz.zeroValue180 }
theorem Tryz.Builder_Extra_169 : Builder.Extra Tryz.prog Tryz.lays169_ren := {
  sizeBuilder := by kernel_rfl
  liesBuilder := by kernel_rfl
  t5 := Tryz.underlying5
  a5 := Tryz.isAgg5
  z5 := Tryz.sizeOf5
  v5 := Tryz.zeroValue5
  infoByte := by kernel_rfl
  cellsByte := by kernel_rfl
  sizeByte := by kernel_rfl
  neB5 := by decide }
open Go.RowKit in
/-- (*strings.Builder).String: "String returns the accumulated string.": WHATEVER THE BUILDER HOLDS. (LAID: no walk: one application.) -/
theorem Tryz.Builder_String_any (B b : Nat) (l : List UInt8) (w : World) (h : Lib.IsBuilder 137 5 B b (Lib.byteCells l) w) (hBw : B ≤ w.heap.size) :
    Calls Tryz.prog 86 #[.pointer (some ⟨b, 0, none⟩)] w fun e w' => e = .returned (.string ⟨l.toArray⟩) ∧ Below B w w' := Any.Builder_String_any Tryz.lays169 Tryz.Builder_Extra_169 B b l w h hBw
def Tryz.lays156_ren : Go.Shelf.Ren := ⟨fun | 156 => 69 | 165 => 129 | 166 => 84 | 169 => 86 | 240 => 146 | 241 => 199 | 276 => 207 | 277 => 243 | n => n, fun | 31 => 64 | 9 => 9 | 3 => 3 | 4 => 4 | 0 => 0 | 20 => 20 | 72 => 137 | 76 => 140 | 70 => 134 | 37 => 135 | 75 => 139 | 127 => 180 | 164 => 228 | 5 => 5 | 80 => 98 | n => n, fun | n => n⟩
theorem Tryz.lays156 : Go.Proofs.Lays.n156 Tryz.prog Tryz.lays156_ren := {
  mixed := by kernel_rfl
  f156 := Tryz.func69.trans (congrArg some (by kernel_rfl))
  f165 := Tryz.func129.trans (congrArg some (by kernel_rfl))
  f166 := Tryz.func84.trans (congrArg some (by kernel_rfl))
  f169 := Tryz.func86.trans (congrArg some (by kernel_rfl))
  f240 := Tryz.func146.trans (congrArg some (by kernel_rfl))
  f241 := Tryz.func199.trans (congrArg some (by kernel_rfl))
  f276 := Tryz.func207.trans (congrArg some (by kernel_rfl))
  f277 := Tryz.func243.trans (congrArg some (by kernel_rfl))
  t0 := Tryz.underlying0
  a0 := Tryz.isAgg0
  z0 := Tryz.sizeOf0
  v0 := Tryz.zeroValue0
  t3 := Tryz.underlying3
  a3 := Tryz.isAgg3
  z3 := Tryz.sizeOf3
  v3 := Tryz.zeroValue3
  t4 := Tryz.underlying4
  a4 := Tryz.isAgg4
  z4 := Tryz.sizeOf4
  v4 := Tryz.zeroValue4
  t9 := Tryz.underlying9
  a9 := Tryz.isAgg9
  z9 := Tryz.sizeOf9
  v9 := Tryz.zeroValue9
  t20 := Tryz.underlying20
  a20 := Tryz.isAgg20
  z20 := Tryz.sizeOf20
  v20 := Tryz.zeroValue20
  t31 := Tryz.underlying64
  a31 := Tryz.isAgg64
  z31 := Tryz.sizeOf64
  v31 := Tryz.zeroValue64
  t37 := Tryz.underlying135
  a37 := Tryz.isAgg135
  z37 := Tryz.sizeOf135
  v37 := Tryz.zeroValue135
  t70 := Tryz.underlying134
  a70 := Tryz.isAgg134
  z70 := Tryz.sizeOf134
  v70 := Tryz.zeroValue134
  t72 := Tryz.underlying137
  a72 := Tryz.isAgg137
  z72 := Tryz.sizeOf137
  v72 := Tryz.zeroValue137
  t75 := Tryz.underlying139
  a75 := Tryz.isAgg139
  z75 := Tryz.sizeOf139
  v75 := Tryz.zeroValue139
  t76 := Tryz.underlying140
  a76 := Tryz.isAgg140
  z76 := Tryz.sizeOf140
  v76 := Tryz.zeroValue140
  t127 := Tryz.underlying180
  a127 := Tryz.isAgg180
  z127 := Tryz.sizeOf180
  v127 := Tryz.zeroValue180
  t164 := Tryz.underlying228
  a164 := Tryz.isAgg228
  z164 := Tryz.sizeOf228
  v164 := Tryz.zeroValue228 }
theorem Tryz.Builder_Extra_156 : Builder.Extra Tryz.prog Tryz.lays156_ren := {
  sizeBuilder := by kernel_rfl
  liesBuilder := by kernel_rfl
  t5 := Tryz.underlying5
  a5 := Tryz.isAgg5
  z5 := Tryz.sizeOf5
  v5 := Tryz.zeroValue5
  infoByte := by kernel_rfl
  cellsByte := by kernel_rfl
  sizeByte := by kernel_rfl
  neB5 := by decide }
open Go.RowKit in
/-- strings.Join: "Join concatenates the elements of its first argument to create a single string. The separator string sep is placed between elements in the resulting string.": HOWEVER MANY ELEMENTS. Below the heap's end the world is as it was. (LAID: no walk: one application.) -/
theorem Tryz.strings_Join (bk o c : Nat) (xs : List ByteArray) (sep : ByteArray) (w : World) (hcells : ∀ (j : Nat) x, xs[j]? = some x → w.cell? ⟨bk, o + j, none⟩ = some (.string x)) (hbk : bk < w.heap.size) (hN : xs.length ≤ 140737488355328) (hcap : xs.length ≤ c) (hlen : (Lib.join (xs.map (·.data.toList)) sep.data.toList).length ≤ 140737488355328) :
    Calls Tryz.prog 69 #[.slice (some ⟨bk, o, none⟩) xs.length c, .string sep] w fun e w' => e = .returned (.string ⟨(Lib.join (xs.map (·.data.toList)) sep.data.toList).toArray⟩) ∧ Below w.heap.size w w' := Any.strings_Join Tryz.lays156 Tryz.Builder_Extra_156 bk o c xs sep w hcells hbk hN hcap hlen
def Tryz.lays160_ren : Go.Shelf.Ren := ⟨fun | 160 => 149 | 232 => 167 | 231 => 210 | 227 => 168 | 234 => 169 | 233 => 211 | 236 => 170 | 235 => 212 | 228 => 216 | 271 => 217 | 151 => 218 | 197 => 248 | 120 => 249 | 152 => 250 | 260 => 270 | 137 => 177 | 119 => 271 | 224 => 272 | 225 => 273 | 217 => 222 | 266 => 251 | n => n, fun | 9 => 9 | 4 => 4 | 3 => 3 | 5 => 5 | 117 => 189 | 116 => 188 | 0 => 0 | 124 => 192 | 21 => 21 | 105 => 237 | 46 => 182 | 119 => 287 | 139 => 290 | 138 => 289 | n => n, fun | 3 => 7 | 4 => 8 | n => n⟩
theorem Tryz.lays160 : Go.Proofs.Lays.n160 Tryz.prog Tryz.lays160_ren := {
  mixed := by kernel_rfl
  f119 := Tryz.func271.trans (congrArg some (by kernel_rfl))
  f120 := Tryz.func249.trans (congrArg some (by kernel_rfl))
  f137 := Tryz.func177.trans (congrArg some (by kernel_rfl))
  f151 := Tryz.func218.trans (congrArg some (by kernel_rfl))
  f152 := Tryz.func250.trans (congrArg some (by kernel_rfl))
  f160 := Tryz.func149.trans (congrArg some (by kernel_rfl))
  f197 := Tryz.func248.trans (congrArg some (by kernel_rfl))
  f217 := Tryz.func222.trans (congrArg some (by kernel_rfl))
  f224 := Tryz.func272.trans (congrArg some (by kernel_rfl))
  f225 := Tryz.func273.trans (congrArg some (by kernel_rfl))
  f227 := Tryz.func168.trans (congrArg some (by kernel_rfl))
  f228 := Tryz.func216.trans (congrArg some (by kernel_rfl))
  f231 := Tryz.func210.trans (congrArg some (by kernel_rfl))
  f232 := Tryz.func167.trans (congrArg some (by kernel_rfl))
  f233 := Tryz.func211.trans (congrArg some (by kernel_rfl))
  f234 := Tryz.func169.trans (congrArg some (by kernel_rfl))
  f235 := Tryz.func212.trans (congrArg some (by kernel_rfl))
  f236 := Tryz.func170.trans (congrArg some (by kernel_rfl))
  f260 := Tryz.func270.trans (congrArg some (by kernel_rfl))
  f266 := Tryz.func251.trans (congrArg some (by kernel_rfl))
  f271 := Tryz.func217.trans (congrArg some (by kernel_rfl))
  t0 := Tryz.underlying0
  a0 := Tryz.isAgg0
  z0 := Tryz.sizeOf0
  v0 := Tryz.zeroValue0
  t3 := Tryz.underlying3
  a3 := Tryz.isAgg3
  z3 := Tryz.sizeOf3
  v3 := Tryz.zeroValue3
  t4 := Tryz.underlying4
  a4 := Tryz.isAgg4
  z4 := Tryz.sizeOf4
  v4 := Tryz.zeroValue4
  t5 := Tryz.underlying5
  a5 := Tryz.isAgg5
  z5 := Tryz.sizeOf5
  v5 := Tryz.zeroValue5
  t9 := Tryz.underlying9
  a9 := Tryz.isAgg9
  z9 := Tryz.sizeOf9
  v9 := Tryz.zeroValue9
  t21 := Tryz.underlying21
  a21 := Tryz.isAgg21
  z21 := Tryz.sizeOf21
  v21 := Tryz.zeroValue21
  t46 := Tryz.underlying182
  a46 := Tryz.isAgg182
  z46 := Tryz.sizeOf182
  v46 := Tryz.zeroValue182
  t105 := Tryz.underlying237
  a105 := Tryz.isAgg237
  z105 := Tryz.sizeOf237
  v105 := Tryz.zeroValue237
  t116 := Tryz.underlying188
  a116 := Tryz.isAgg188
  z116 := Tryz.sizeOf188
  t117 := Tryz.underlying189
  a117 := Tryz.isAgg189
  z117 := Tryz.sizeOf189
  v117 := Tryz.zeroValue189
  t119 := Tryz.underlying287
  a119 := Tryz.isAgg287
  z119 := Tryz.sizeOf287
  t124 := Tryz.underlying192
  a124 := Tryz.isAgg192
  z124 := Tryz.sizeOf192
  v124 := Tryz.zeroValue192
  t138 := Tryz.underlying289
  a138 := Tryz.isAgg289
  z138 := Tryz.sizeOf289
  v138 := Tryz.zeroValue289
  t139 := Tryz.underlying290
  a139 := Tryz.isAgg290
  z139 := Tryz.sizeOf290
  v139 := Tryz.zeroValue290
  g3 := by kernel_rfl
  g4 := by kernel_rfl }
def Tryz.lays137_ren : Go.Shelf.Ren := ⟨fun | 137 => 177 | 217 => 222 | 266 => 251 | n => n, fun | 9 => 9 | 5 => 5 | 3 => 3 | n => n, fun | n => n⟩
theorem Tryz.lays137 : Go.Proofs.Lays.n137 Tryz.prog Tryz.lays137_ren := {
  mixed := by kernel_rfl
  f137 := Tryz.func177.trans (congrArg some (by kernel_rfl))
  f217 := Tryz.func222.trans (congrArg some (by kernel_rfl))
  f266 := Tryz.func251.trans (congrArg some (by kernel_rfl))
  t3 := Tryz.underlying3
  a3 := Tryz.isAgg3
  z3 := Tryz.sizeOf3
  v3 := Tryz.zeroValue3
  t5 := Tryz.underlying5
  a5 := Tryz.isAgg5
  z5 := Tryz.sizeOf5
  v5 := Tryz.zeroValue5
  t9 := Tryz.underlying9
  a9 := Tryz.isAgg9
  z9 := Tryz.sizeOf9
  v9 := Tryz.zeroValue9 }
open Go.RowKit in
/-- strings.IndexByte: "IndexByte returns the index of the first instance of c in s, or -1 if c is not present in s.": IT RETURNS 'Lib.indexByte s c'; the world is as it was. (LAID: no walk: one application.) -/
theorem Tryz.strings_IndexByte (s : ByteArray) (c : Int) (w : World) :
    Calls Tryz.prog 177 #[.string s, .int .u8 c] w fun e w' => e = .returned (.int .i64 (Lib.indexByte s.data.toList c.toNat.toUInt8)) ∧ w' = w := Any.strings_IndexByte Tryz.lays137 s c w
def Tryz.lays103_ren : Go.Shelf.Ren := ⟨fun | 103 => 274 | 210 => 287 | 206 => 215 | n => n, fun | 9 => 9 | 4 => 4 | 24 => 275 | 3 => 3 | n => n, fun | n => n⟩
theorem Tryz.lays103 : Go.Proofs.Lays.n103 Tryz.prog Tryz.lays103_ren := {
  mixed := by kernel_rfl
  f103 := Tryz.func274.trans (congrArg some (by kernel_rfl))
  f206 := Tryz.func215.trans (congrArg some (by kernel_rfl))
  f210 := Tryz.func287.trans (congrArg some (by kernel_rfl))
  t3 := Tryz.underlying3
  a3 := Tryz.isAgg3
  z3 := Tryz.sizeOf3
  v3 := Tryz.zeroValue3
  t4 := Tryz.underlying4
  a4 := Tryz.isAgg4
  z4 := Tryz.sizeOf4
  v4 := Tryz.zeroValue4
  t9 := Tryz.underlying9
  a9 := Tryz.isAgg9
  z9 := Tryz.sizeOf9
  v9 := Tryz.zeroValue9
  t24 := Tryz.underlying275
  a24 := Tryz.isAgg275
  z24 := Tryz.sizeOf275
  v24 := Tryz.zeroValue275 }
open Go.RowKit in
/-- strings.CutPrefix: "CutPrefix returns s without the provided leading prefix string and reports whether it found the prefix. If s doesn't start with prefix, CutPrefix returns s, false. If prefix is the empty string, CutPrefix returns s, true.": IT RETURNS '(Lib.trimPrefix s p, Lib.hasPrefix s p)'; the world is as it was. (LAID: no walk: one application.) -/
theorem Tryz.strings_CutPrefix (s p : ByteArray) (w : World) :
    Calls Tryz.prog 274 #[.string s, .string p] w fun e w' => e = .returned (.tuple #[.string ⟨(Lib.trimPrefix s.data.toList p.data.toList).toArray⟩, .bool (Lib.hasPrefix s.data.toList p.data.toList)]) ∧ w' = w := Any.strings_CutPrefix Tryz.lays103 s p w
def Tryz.lays283_ren : Go.Shelf.Ren := ⟨fun | 283 => 263 | n => n, fun | 3 => 3 | 9 => 9 | 4 => 4 | n => n, fun | n => n⟩
theorem Tryz.lays283 : Go.Proofs.Lays.n283 Tryz.prog Tryz.lays283_ren := {
  mixed := by kernel_rfl
  f283 := Tryz.func263.trans (congrArg some (by kernel_rfl))
  t3 := Tryz.underlying3
  a3 := Tryz.isAgg3
  z3 := Tryz.sizeOf3
  v3 := Tryz.zeroValue3
  t4 := Tryz.underlying4
  a4 := Tryz.isAgg4
  z4 := Tryz.sizeOf4
  v4 := Tryz.zeroValue4
  t9 := Tryz.underlying9
  a9 := Tryz.isAgg9
  z9 := Tryz.sizeOf9
  v9 := Tryz.zeroValue9 }
open Go.Lib in
/-- internal/strconv.small: "small returns the string for an i with 0 <= i < nSmalls.": i's decimal numeral. The world is as it was. (LAID: no walk: one application.) -/
theorem Tryz.internal_strconv_small (i : Nat) (h : i < 100) (w : World) :
    Calls Tryz.prog 263 #[.int .i64 i] w fun e w' => e = .returned (.string ⟨(Lib.decDigits i).toArray⟩) ∧ w' = w := Any.internal_strconv_small Tryz.lays283 i h w
def Tryz.laysM284_ren : Go.Shelf.Ren := ⟨fun | 284 => 264 | 129 => 282 | 317 => 281 | 318 => 283 | n => n, fun | 53 => 234 | 3 => 3 | 212 => 284 | 0 => 0 | 4 => 4 | 46 => 182 | 5 => 5 | 9 => 9 | n => n, fun | 17 => 6 | n => n⟩
theorem Tryz.laysM284 : Go.Proofs.LaysM.n284 Tryz.prog Tryz.laysM284_ren := {
  mixed := by kernel_rfl
  f129 := Tryz.func282.trans (congrArg some (by kernel_rfl))
  f284 := Tryz.func264.trans (congrArg some (by kernel_rfl))
  f317 := Tryz.func281.trans (congrArg some (by kernel_rfl))
  f318 := Tryz.func283.trans (congrArg some (by kernel_rfl))
  t0 := Tryz.underlying0
  a0 := Tryz.isAgg0
  z0 := Tryz.sizeOf0
  v0 := Tryz.zeroValue0
  t3 := Tryz.underlying3
  a3 := Tryz.isAgg3
  z3 := Tryz.sizeOf3
  v3 := Tryz.zeroValue3
  t4 := Tryz.underlying4
  a4 := Tryz.isAgg4
  z4 := Tryz.sizeOf4
  v4 := Tryz.zeroValue4
  t5 := Tryz.underlying5
  a5 := Tryz.isAgg5
  z5 := Tryz.sizeOf5
  v5 := Tryz.zeroValue5
  t9 := Tryz.underlying9
  a9 := Tryz.isAgg9
  z9 := Tryz.sizeOf9
  v9 := Tryz.zeroValue9
  t46 := Tryz.underlying182
  a46 := Tryz.isAgg182
  z46 := Tryz.sizeOf182
  v46 := Tryz.zeroValue182
  t53 := Tryz.underlying234
  a53 := Tryz.isAgg234
  z53 := Tryz.sizeOf234
  v53 := Tryz.zeroValue234
  t212 := Tryz.underlying284
  a212 := Tryz.isAgg284
  z212 := Tryz.sizeOf284
  v212 := Tryz.zeroValue284
  g17 := by kernel_rfl
  i0 := by kernel_rfl
  i3 := by kernel_rfl
  i4 := by kernel_rfl
  i5 := by kernel_rfl
  i9 := by kernel_rfl
  i46 := by kernel_rfl
  i53 := by kernel_rfl
  i212 := by kernel_rfl
  m17 := by kernel_rfl }
open Go.Lib in
/-- internal/strconv.numDigits, at a d that is not 0: THE NUMBER OF d's DECIMAL DIGITS. The world is as it was. (LAID: no walk: one application.) -/
theorem Tryz.internal_strconv_numDigits (u : Nat) (h1 : 1 ≤ u) (h2 : u < 18446744073709551616) (w : World) (htab : Lib.TabIs Tryz.prog w "internal/strconv.uint64pow10" .u64 Lib.pow10Tab) :
    Calls Tryz.prog 264 #[.int .u64 u] w fun e w' => e = .returned (.int .i64 (Lib.nDigits u)) ∧ w' = w := Any.internal_strconv_numDigits Tryz.laysM284 u h1 h2 w htab
def Tryz.lays285_ren : Go.Shelf.Ren := ⟨fun | 285 => 265 | n => n, fun | 37 => 135 | 53 => 234 | 3 => 3 | 4 => 4 | 51 => 231 | 9 => 9 | 5 => 5 | 0 => 0 | n => n, fun | n => n⟩
theorem Tryz.lays285 : Go.Proofs.Lays.n285 Tryz.prog Tryz.lays285_ren := {
  mixed := by kernel_rfl
  f285 := Tryz.func265.trans (congrArg some (by kernel_rfl))
  t0 := Tryz.underlying0
  a0 := Tryz.isAgg0
  z0 := Tryz.sizeOf0
  v0 := Tryz.zeroValue0
  t3 := Tryz.underlying3
  a3 := Tryz.isAgg3
  z3 := Tryz.sizeOf3
  v3 := Tryz.zeroValue3
  t4 := Tryz.underlying4
  a4 := Tryz.isAgg4
  z4 := Tryz.sizeOf4
  v4 := Tryz.zeroValue4
  t5 := Tryz.underlying5
  a5 := Tryz.isAgg5
  z5 := Tryz.sizeOf5
  v5 := Tryz.zeroValue5
  t9 := Tryz.underlying9
  a9 := Tryz.isAgg9
  z9 := Tryz.sizeOf9
  v9 := Tryz.zeroValue9
  t37 := Tryz.underlying135
  a37 := Tryz.isAgg135
  z37 := Tryz.sizeOf135
  v37 := Tryz.zeroValue135
  t51 := Tryz.underlying231
  a51 := Tryz.isAgg231
  z51 := Tryz.sizeOf231
  v51 := Tryz.zeroValue231
  t53 := Tryz.underlying234
  a53 := Tryz.isAgg234
  z53 := Tryz.sizeOf234
  v53 := Tryz.zeroValue234 }
open Go.RowKit Go.Sort Go.Lib in
/-- internal/strconv.formatBase10: "formatBase10 formats the decimal representation of u into a. The caller is responsible for ensuring that a is big enough to hold u. If a is too big, leading zeros will be filled in as needed.": THE ROW HOLDS u's DIGITS ('FmtInv .. 0 ..': every place t holds 'dg u (len - 1 - t)'); all else is as it was but for the count of draws. (LAID: no walk: one application.) -/
theorem Tryz.internal_strconv_formatBase10 (blk off cap : Nat) (u : Nat) (d : Array UInt8) (w : World) (hH : Holds (fun (b : UInt8) => Value.int .u8 (b.toNat : Int)) w blk off d) (hu : u < 10 ^ d.size) (hu64 : u < 18446744073709551616) (hsz : d.size < 4611686018427387904) :
    Calls Tryz.prog 265 #[.slice (some ⟨blk, off, none⟩) d.size cap, .int .u64 u] w fun e w' =>
      e = .returned (.tuple #[]) ∧ ∃ (n v' : Nat) (dk : Array UInt8), w' = (putRow (fun (b : UInt8) => Value.int .u8 (b.toNat : Int)) w blk off dk).drewN n ∧ FmtInv d.size u 0 v' dk := Any.internal_strconv_formatBase10 Tryz.lays285 blk off cap u d w hH hu hu64 hsz
def Tryz.lays171_ren : Go.Shelf.Ren := ⟨fun | 171 => 303 | 243 => 304 | 246 => 242 | 283 => 263 | 284 => 264 | 285 => 265 | 286 => 266 | 129 => 282 | 317 => 281 | 318 => 283 | 319 => 284 | 320 => 285 | 337 => 291 | 338 => 292 | n => n, fun | 3 => 3 | 9 => 9 | 2 => 2 | 4 => 4 | 171 => 269 | 0 => 0 | 53 => 234 | 37 => 135 | 5 => 5 | 173 => 272 | 212 => 284 | 51 => 231 | 20 => 20 | 213 => 285 | 46 => 182 | 232 => 300 | 233 => 301 | n => n, fun | 17 => 6 | 18 => 9 | 19 => 10 | n => n⟩
theorem Tryz.lays171 : Go.Proofs.Lays.n171 Tryz.prog Tryz.lays171_ren := {
  mixed := by kernel_rfl
  f129 := Tryz.func282.trans (congrArg some (by kernel_rfl))
  f171 := Tryz.func303.trans (congrArg some (by kernel_rfl))
  f243 := Tryz.func304.trans (congrArg some (by kernel_rfl))
  f246 := Tryz.func242.trans (congrArg some (by kernel_rfl))
  f283 := Tryz.func263.trans (congrArg some (by kernel_rfl))
  f284 := Tryz.func264.trans (congrArg some (by kernel_rfl))
  f285 := Tryz.func265.trans (congrArg some (by kernel_rfl))
  f286 := Tryz.func266.trans (congrArg some (by kernel_rfl))
  f317 := Tryz.func281.trans (congrArg some (by kernel_rfl))
  f318 := Tryz.func283.trans (congrArg some (by kernel_rfl))
  f319 := Tryz.func284.trans (congrArg some (by kernel_rfl))
  f320 := Tryz.func285.trans (congrArg some (by kernel_rfl))
  f337 := Tryz.func291.trans (congrArg some (by kernel_rfl))
  f338 := Tryz.func292.trans (congrArg some (by kernel_rfl))
  t0 := Tryz.underlying0
  a0 := Tryz.isAgg0
  z0 := Tryz.sizeOf0
  v0 := Tryz.zeroValue0
  t2 := Tryz.underlying2
  a2 := Tryz.isAgg2
  z2 := Tryz.sizeOf2
  v2 := Tryz.zeroValue2
  t3 := Tryz.underlying3
  a3 := Tryz.isAgg3
  z3 := Tryz.sizeOf3
  v3 := Tryz.zeroValue3
  t4 := Tryz.underlying4
  a4 := Tryz.isAgg4
  z4 := Tryz.sizeOf4
  v4 := Tryz.zeroValue4
  t5 := Tryz.underlying5
  a5 := Tryz.isAgg5
  z5 := Tryz.sizeOf5
  v5 := Tryz.zeroValue5
  t9 := Tryz.underlying9
  a9 := Tryz.isAgg9
  z9 := Tryz.sizeOf9
  v9 := Tryz.zeroValue9
  t20 := Tryz.underlying20
  a20 := Tryz.isAgg20
  z20 := Tryz.sizeOf20
  v20 := Tryz.zeroValue20
  t37 := Tryz.underlying135
  a37 := Tryz.isAgg135
  z37 := Tryz.sizeOf135
  v37 := Tryz.zeroValue135
  t46 := Tryz.underlying182
  a46 := Tryz.isAgg182
  z46 := Tryz.sizeOf182
  v46 := Tryz.zeroValue182
  t51 := Tryz.underlying231
  a51 := Tryz.isAgg231
  z51 := Tryz.sizeOf231
  v51 := Tryz.zeroValue231
  t53 := Tryz.underlying234
  a53 := Tryz.isAgg234
  z53 := Tryz.sizeOf234
  v53 := Tryz.zeroValue234
  t171 := Tryz.underlying269
  a171 := Tryz.isAgg269
  z171 := Tryz.sizeOf269
  v171 := Tryz.zeroValue269
  t173 := Tryz.underlying272
  a173 := Tryz.isAgg272
  z173 := Tryz.sizeOf272
  v173 := Tryz.zeroValue272
  t212 := Tryz.underlying284
  a212 := Tryz.isAgg284
  z212 := Tryz.sizeOf284
  v212 := Tryz.zeroValue284
  t213 := Tryz.underlying285
  a213 := Tryz.isAgg285
  z213 := Tryz.sizeOf285
  t232 := Tryz.underlying300
  a232 := Tryz.isAgg300
  z232 := Tryz.sizeOf300
  v232 := Tryz.zeroValue300
  t233 := Tryz.underlying301
  a233 := Tryz.isAgg301
  z233 := Tryz.sizeOf301
  v233 := Tryz.zeroValue301
  g17 := by kernel_rfl
  g18 := by kernel_rfl
  g19 := by kernel_rfl }
open Go.RowKit Go.Sort Go.Lib in
/-- THE ROAD WITHOUT THE TABLE: 0 <= i < 100: NO PREMISE ON THE WORLD, AND THE WORLD IS AS IT WAS: a row that keeps its argument in that range need list no table ('laid = []'). (LAID: no walk: one application.) -/
theorem Tryz.strconv_Itoa_small (i : Nat) (hi : i < 100) (w : World) :
    Calls Tryz.prog 303 #[.int .i64 i] w fun e w' => e = .returned (.string ⟨(Lib.decDigits i).toArray⟩) ∧ w' = w := Any.strconv_Itoa_small Tryz.lays171 i hi w
def Tryz.laysM173_ren : Go.Shelf.Ren := ⟨fun | 173 => 196 | 246 => 242 | 283 => 263 | 284 => 264 | 285 => 265 | 286 => 266 | 129 => 282 | 317 => 281 | 318 => 283 | 319 => 284 | 320 => 285 | 337 => 291 | 338 => 292 | n => n, fun | 2 => 2 | 3 => 3 | 9 => 9 | 4 => 4 | 171 => 269 | 0 => 0 | 53 => 234 | 37 => 135 | 5 => 5 | 173 => 272 | 212 => 284 | 51 => 231 | 20 => 20 | 213 => 285 | 46 => 182 | 232 => 300 | 233 => 301 | n => n, fun | 17 => 6 | 18 => 9 | 19 => 10 | n => n⟩
theorem Tryz.laysM173 : Go.Proofs.LaysM.n173 Tryz.prog Tryz.laysM173_ren := {
  mixed := by kernel_rfl
  f129 := Tryz.func282.trans (congrArg some (by kernel_rfl))
  f173 := Tryz.func196.trans (congrArg some (by kernel_rfl))
  f246 := Tryz.func242.trans (congrArg some (by kernel_rfl))
  f283 := Tryz.func263.trans (congrArg some (by kernel_rfl))
  f284 := Tryz.func264.trans (congrArg some (by kernel_rfl))
  f285 := Tryz.func265.trans (congrArg some (by kernel_rfl))
  f286 := Tryz.func266.trans (congrArg some (by kernel_rfl))
  f317 := Tryz.func281.trans (congrArg some (by kernel_rfl))
  f318 := Tryz.func283.trans (congrArg some (by kernel_rfl))
  f319 := Tryz.func284.trans (congrArg some (by kernel_rfl))
  f320 := Tryz.func285.trans (congrArg some (by kernel_rfl))
  f337 := Tryz.func291.trans (congrArg some (by kernel_rfl))
  f338 := Tryz.func292.trans (congrArg some (by kernel_rfl))
  t0 := Tryz.underlying0
  a0 := Tryz.isAgg0
  z0 := Tryz.sizeOf0
  v0 := Tryz.zeroValue0
  t2 := Tryz.underlying2
  a2 := Tryz.isAgg2
  z2 := Tryz.sizeOf2
  v2 := Tryz.zeroValue2
  t3 := Tryz.underlying3
  a3 := Tryz.isAgg3
  z3 := Tryz.sizeOf3
  v3 := Tryz.zeroValue3
  t4 := Tryz.underlying4
  a4 := Tryz.isAgg4
  z4 := Tryz.sizeOf4
  v4 := Tryz.zeroValue4
  t5 := Tryz.underlying5
  a5 := Tryz.isAgg5
  z5 := Tryz.sizeOf5
  v5 := Tryz.zeroValue5
  t9 := Tryz.underlying9
  a9 := Tryz.isAgg9
  z9 := Tryz.sizeOf9
  v9 := Tryz.zeroValue9
  t20 := Tryz.underlying20
  a20 := Tryz.isAgg20
  z20 := Tryz.sizeOf20
  v20 := Tryz.zeroValue20
  t37 := Tryz.underlying135
  a37 := Tryz.isAgg135
  z37 := Tryz.sizeOf135
  v37 := Tryz.zeroValue135
  t46 := Tryz.underlying182
  a46 := Tryz.isAgg182
  z46 := Tryz.sizeOf182
  v46 := Tryz.zeroValue182
  t51 := Tryz.underlying231
  a51 := Tryz.isAgg231
  z51 := Tryz.sizeOf231
  v51 := Tryz.zeroValue231
  t53 := Tryz.underlying234
  a53 := Tryz.isAgg234
  z53 := Tryz.sizeOf234
  v53 := Tryz.zeroValue234
  t171 := Tryz.underlying269
  a171 := Tryz.isAgg269
  z171 := Tryz.sizeOf269
  v171 := Tryz.zeroValue269
  t173 := Tryz.underlying272
  a173 := Tryz.isAgg272
  z173 := Tryz.sizeOf272
  v173 := Tryz.zeroValue272
  t212 := Tryz.underlying284
  a212 := Tryz.isAgg284
  z212 := Tryz.sizeOf284
  v212 := Tryz.zeroValue284
  t213 := Tryz.underlying285
  a213 := Tryz.isAgg285
  z213 := Tryz.sizeOf285
  t232 := Tryz.underlying300
  a232 := Tryz.isAgg300
  z232 := Tryz.sizeOf300
  v232 := Tryz.zeroValue300
  t233 := Tryz.underlying301
  a233 := Tryz.isAgg301
  z233 := Tryz.sizeOf301
  v233 := Tryz.zeroValue301
  g17 := by kernel_rfl
  g18 := by kernel_rfl
  g19 := by kernel_rfl
  i0 := by kernel_rfl
  i2 := by kernel_rfl
  i3 := by kernel_rfl
  i4 := by kernel_rfl
  i5 := by kernel_rfl
  i9 := by kernel_rfl
  i20 := by kernel_rfl
  i37 := by kernel_rfl
  i46 := by kernel_rfl
  i51 := by kernel_rfl
  i53 := by kernel_rfl
  i171 := by kernel_rfl
  i173 := by kernel_rfl
  i212 := by kernel_rfl
  i232 := by kernel_rfl
  i233 := by kernel_rfl
  m17 := by kernel_rfl
  m18 := by kernel_rfl
  m19 := by kernel_rfl }
open Go.RowKit Go.Sort Go.Lib in
/-- strconv.FormatInt: "FormatInt returns the string representation of i in the given base": AT BASE 10: i's decimal numeral, for every int64. (LAID: no walk: one application.) -/
theorem Tryz.strconv_FormatInt_10 (n : Int) (h0 : -9223372036854775808 ≤ n) (h1 : n ≤ 9223372036854775807) (w : World) (htab : Lib.TabIs Tryz.prog w "internal/strconv.uint64pow10" .u64 Lib.pow10Tab) :
    Calls Tryz.prog 196 #[.int .i64 n, .int .i64 10] w fun e w' => e = .returned (.string ⟨(Lib.itoa n).toArray⟩) ∧ ∃ k os, w' = grow (w.drewN k) os := Any.strconv_FormatInt_10 Tryz.laysM173 n h0 h1 w htab
def Tryz.laysC174_ren : Go.Shelf.Ren := ⟨fun | 174 => 277 | 247 => 289 | 245 => 290 | 287 => 294 | 279 => 295 | 280 => 296 | 281 => 297 | 282 => 298 | 321 => 299 | 322 => 300 | 316 => 301 | 171 => 303 | 205 => 302 | 243 => 304 | 246 => 242 | 283 => 263 | 284 => 264 | 285 => 265 | 286 => 266 | 129 => 282 | 317 => 281 | 318 => 283 | 319 => 284 | 320 => 285 | 337 => 291 | 338 => 292 | n => n, fun | 9 => 9 | 3 => 3 | 2 => 2 | 75 => 139 | 85 => 279 | 4 => 4 | 167 => 294 | 5 => 5 | 53 => 234 | 175 => 295 | 46 => 182 | 168 => 297 | 37 => 135 | 0 => 0 | 210 => 304 | 21 => 21 | 127 => 180 | 145 => 308 | 143 => 306 | 171 => 269 | 173 => 272 | 212 => 284 | 51 => 231 | 20 => 20 | 213 => 285 | 232 => 300 | 233 => 301 | 80 => 98 | n => n, fun | 15 => 11 | 16 => 12 | 17 => 6 | 18 => 9 | 19 => 10 | n => n⟩
theorem Tryz.laysC174 : Go.Proofs.LaysC.n174 Tryz.prog Tryz.laysC174_ren := {
  mixed := by kernel_rfl
  f129 := Tryz.func282.trans (congrArg some (by kernel_rfl))
  f171 := Tryz.func303.trans (congrArg some (by kernel_rfl))
  f174 := Tryz.func277.trans (congrArg some (by kernel_rfl))
  f205 := Tryz.func302.trans (congrArg some (by kernel_rfl))
  f243 := Tryz.func304.trans (congrArg some (by kernel_rfl))
  f245 := Tryz.func290.trans (congrArg some (by kernel_rfl))
  f246 := Tryz.func242.trans (congrArg some (by kernel_rfl))
  f247 := Tryz.func289.trans (congrArg some (by kernel_rfl))
  f279 := Tryz.func295.trans (congrArg some (by kernel_rfl))
  f280 := Tryz.func296.trans (congrArg some (by kernel_rfl))
  f281 := Tryz.func297.trans (congrArg some (by kernel_rfl))
  f282 := Tryz.func298.trans (congrArg some (by kernel_rfl))
  f283 := Tryz.func263.trans (congrArg some (by kernel_rfl))
  f284 := Tryz.func264.trans (congrArg some (by kernel_rfl))
  f285 := Tryz.func265.trans (congrArg some (by kernel_rfl))
  f286 := Tryz.func266.trans (congrArg some (by kernel_rfl))
  f287 := Tryz.func294.trans (congrArg some (by kernel_rfl))
  f316 := Tryz.func301.trans (congrArg some (by kernel_rfl))
  f317 := Tryz.func281.trans (congrArg some (by kernel_rfl))
  f318 := Tryz.func283.trans (congrArg some (by kernel_rfl))
  f319 := Tryz.func284.trans (congrArg some (by kernel_rfl))
  f320 := Tryz.func285.trans (congrArg some (by kernel_rfl))
  f321 := Tryz.func299.trans (congrArg some (by kernel_rfl))
  f322 := Tryz.func300.trans (congrArg some (by kernel_rfl))
  f337 := Tryz.func291.trans (congrArg some (by kernel_rfl))
  f338 := Tryz.func292.trans (congrArg some (by kernel_rfl))
  t0 := Tryz.underlying0
  a0 := Tryz.isAgg0
  z0 := Tryz.sizeOf0
  v0 := Tryz.zeroValue0
  t2 := Tryz.underlying2
  a2 := Tryz.isAgg2
  z2 := Tryz.sizeOf2
  v2 := Tryz.zeroValue2
  t3 := Tryz.underlying3
  a3 := Tryz.isAgg3
  z3 := Tryz.sizeOf3
  v3 := Tryz.zeroValue3
  t4 := Tryz.underlying4
  a4 := Tryz.isAgg4
  z4 := Tryz.sizeOf4
  v4 := Tryz.zeroValue4
  t5 := Tryz.underlying5
  a5 := Tryz.isAgg5
  z5 := Tryz.sizeOf5
  v5 := Tryz.zeroValue5
  t9 := Tryz.underlying9
  a9 := Tryz.isAgg9
  z9 := Tryz.sizeOf9
  v9 := Tryz.zeroValue9
  t20 := Tryz.underlying20
  a20 := Tryz.isAgg20
  z20 := Tryz.sizeOf20
  v20 := Tryz.zeroValue20
  t21 := Tryz.underlying21
  a21 := Tryz.isAgg21
  z21 := Tryz.sizeOf21
  v21 := Tryz.zeroValue21
  t37 := Tryz.underlying135
  a37 := Tryz.isAgg135
  z37 := Tryz.sizeOf135
  v37 := Tryz.zeroValue135
  t46 := Tryz.underlying182
  a46 := Tryz.isAgg182
  z46 := Tryz.sizeOf182
  v46 := Tryz.zeroValue182
  t51 := Tryz.underlying231
  a51 := Tryz.isAgg231
  z51 := Tryz.sizeOf231
  v51 := Tryz.zeroValue231
  t53 := Tryz.underlying234
  a53 := Tryz.isAgg234
  z53 := Tryz.sizeOf234
  v53 := Tryz.zeroValue234
  t75 := Tryz.underlying139
  a75 := Tryz.isAgg139
  z75 := Tryz.sizeOf139
  v75 := Tryz.zeroValue139
  t85 := Tryz.underlying279
  a85 := Tryz.isAgg279
  z85 := Tryz.sizeOf279
  v85 := Tryz.zeroValue279
  t127 := Tryz.underlying180
  a127 := Tryz.isAgg180
  z127 := Tryz.sizeOf180
  v127 := Tryz.zeroValue180
  t143 := Tryz.underlying306
  a143 := Tryz.isAgg306
  z143 := Tryz.sizeOf306
  v143 := Tryz.zeroValue306
  t145 := Tryz.underlying308
  a145 := Tryz.isAgg308
  z145 := Tryz.sizeOf308
  v145 := Tryz.zeroValue308
  t167 := Tryz.underlying294
  a167 := Tryz.isAgg294
  z167 := Tryz.sizeOf294
  v167 := Tryz.zeroValue294
  t168 := Tryz.underlying297
  a168 := Tryz.isAgg297
  z168 := Tryz.sizeOf297
  v168 := Tryz.zeroValue297
  t171 := Tryz.underlying269
  a171 := Tryz.isAgg269
  z171 := Tryz.sizeOf269
  v171 := Tryz.zeroValue269
  t173 := Tryz.underlying272
  a173 := Tryz.isAgg272
  z173 := Tryz.sizeOf272
  v173 := Tryz.zeroValue272
  t175 := Tryz.underlying295
  a175 := Tryz.isAgg295
  z175 := Tryz.sizeOf295
  v175 := Tryz.zeroValue295
  t210 := Tryz.underlying304
  a210 := Tryz.isAgg304
  z210 := Tryz.sizeOf304
  v210 := Tryz.zeroValue304
  t212 := Tryz.underlying284
  a212 := Tryz.isAgg284
  z212 := Tryz.sizeOf284
  v212 := Tryz.zeroValue284
  t213 := Tryz.underlying285
  a213 := Tryz.isAgg285
  z213 := Tryz.sizeOf285
  t232 := Tryz.underlying300
  a232 := Tryz.isAgg300
  z232 := Tryz.sizeOf300
  v232 := Tryz.zeroValue300
  t233 := Tryz.underlying301
  a233 := Tryz.isAgg301
  z233 := Tryz.sizeOf301
  v233 := Tryz.zeroValue301
  g15 := by kernel_rfl
  g16 := by kernel_rfl
  g17 := by kernel_rfl
  g18 := by kernel_rfl
  g19 := by kernel_rfl
  t80 := Tryz.underlying98
  a80 := Tryz.isAgg98
  z80 := Tryz.sizeOf98
  v80 := Tryz.zeroValue98
  i0 := by kernel_rfl
  i2 := by kernel_rfl
  i3 := by kernel_rfl
  i4 := by kernel_rfl
  i5 := by kernel_rfl
  i9 := by kernel_rfl
  i20 := by kernel_rfl
  i21 := by kernel_rfl
  i37 := by kernel_rfl
  i46 := by kernel_rfl
  i51 := by kernel_rfl
  i53 := by kernel_rfl
  i75 := by kernel_rfl
  i80 := by kernel_rfl
  i85 := by kernel_rfl
  i127 := by kernel_rfl
  i143 := by kernel_rfl
  i145 := by kernel_rfl
  i167 := by kernel_rfl
  i168 := by kernel_rfl
  i171 := by kernel_rfl
  i173 := by kernel_rfl
  i175 := by kernel_rfl
  i210 := by kernel_rfl
  i212 := by kernel_rfl
  i232 := by kernel_rfl
  i233 := by kernel_rfl
  m15 := by kernel_rfl
  m16 := by kernel_rfl
  m17 := by kernel_rfl
  m18 := by kernel_rfl
  m19 := by kernel_rfl
  c0 := by kernel_rfl
  c2 := by kernel_rfl
  c3 := by kernel_rfl
  c4 := by kernel_rfl
  c5 := by kernel_rfl
  c9 := by kernel_rfl
  c20 := by kernel_rfl
  c21 := by kernel_rfl
  c37 := by kernel_rfl
  c46 := by kernel_rfl
  c51 := by kernel_rfl
  c53 := by kernel_rfl
  c75 := by kernel_rfl
  c80 := by kernel_rfl
  c85 := by kernel_rfl
  c127 := by kernel_rfl
  c143 := by kernel_rfl
  c145 := by kernel_rfl
  c167 := by kernel_rfl
  c168 := by kernel_rfl
  c171 := by kernel_rfl
  c173 := by kernel_rfl
  c175 := by kernel_rfl
  c210 := by kernel_rfl
  c212 := by kernel_rfl
  c213 := by kernel_rfl
  c232 := by kernel_rfl
  c233 := by kernel_rfl }
open Go.RowKit in
/-- strconv.ParseInt(s, 10, 64), AT EVERY STRING THAT SPELLS AN int64 ('Lib.parseIntB 64 s.data.toList = .ok v'): v, AND NO ERROR. (LAID: no walk: one application.) -/
theorem Tryz.strconv_ParseInt_10_at64_ok (s : ByteArray) (hmax : s.size ≤ 9223372036854775806) (v : Int) (h : Lib.parseIntB 64 s.data.toList = .ok v) (w : World) :
    Calls Tryz.prog 277 #[.string s, .int .i64 10, .int .i64 64] w fun e w' => e = .returned (.tuple #[.int .i64 v, .nilIface]) ∧ (w' = w ∨ ∃ t, w' = Lib.bytesWorld w 5 t) := Any.strconv_ParseInt_10_at64_ok Tryz.laysC174 s hmax v h w
open Go.RowKit in
/-- strconv.ParseInt(s, 10, 64), AT EVERY STRING THAT IS NO DECIMAL NUMERAL: 0, AND AN ERROR THAT IS NOT nil: a *NumError in a new block N: {Func: "ParseInt", Num: s's bytes, Err: what the variable ErrSyntax holds}. Of what was there nothing has turned. (LAID: no walk: one application.) -/
theorem Tryz.strconv_ParseInt_10_at64_syntax (s : ByteArray) (hlim : s.size ≤ 281474976710656) (h : Lib.parseIntB 64 s.data.toList = Lib.NumEnd.syntax) (ev : Value) (w : World) (hv : w.cell? ⟨11, 0, none⟩ = some ev) (hev : ev = .nilIface ∨ ∃ te pe, ev = .iface te pe) :
    Calls Tryz.prog 277 #[.string s, .int .i64 10, .int .i64 64] w fun e w' => ∃ N, e = .returned (.tuple #[.int .i64 (0), .iface 297 (.pointer (some ⟨N, 0, none⟩))]) ∧ w.heap.size ≤ N ∧ w'.heap[N]? = some (.cells #[.string ⟨#[80, 97, 114, 115, 101, 73, 110, 116]⟩, .string s, ev] 304 (0, 0)) ∧ Below w.heap.size w w' := Any.strconv_ParseInt_10_at64_syntax Tryz.laysC174 s hlim h ev w hv hev
open Go.RowKit in
/-- strconv.ParseInt(s, 10, 64), AT EVERY NUMERAL THAT NO int64 HOLDS: THE GREATEST OR THE LEAST int64, BY THE SIGN ('Lib.intSat 64'), AND AN ERROR THAT IS NOT nil: a *NumError in a new block N: {Func: "ParseInt", Num: s's bytes, Err: what the variable ErrRange holds}. Of what was there nothing has turned. (LAID: no walk: one application.) -/
theorem Tryz.strconv_ParseInt_10_at64_range (s : ByteArray) (hlim : s.size ≤ 281474976710656) (h : Lib.parseIntB 64 s.data.toList = .range) (ev : Value) (w : World) (hv : w.cell? ⟨12, 0, none⟩ = some ev) (hev : ev = .nilIface ∨ ∃ te pe, ev = .iface te pe) :
    Calls Tryz.prog 277 #[.string s, .int .i64 10, .int .i64 64] w fun e w' => ∃ N, e = .returned (.tuple #[.int .i64 (Lib.intSat 64 s.data.toList), .iface 297 (.pointer (some ⟨N, 0, none⟩))]) ∧ w.heap.size ≤ N ∧ w'.heap[N]? = some (.cells #[.string ⟨#[80, 97, 114, 115, 101, 73, 110, 116]⟩, .string s, ev] 304 (0, 0)) ∧ Below w.heap.size w w' := Any.strconv_ParseInt_10_at64_range Tryz.laysC174 s hlim h ev w hv hev
def Tryz.lays145_ren : Go.Shelf.Ren := ⟨fun | 145 => 275 | 220 => 288 | 219 => 269 | 217 => 222 | 225 => 273 | 224 => 272 | 267 => 286 | 266 => 251 | 314 => 293 | n => n, fun | 9 => 9 | 4 => 4 | 59 => 277 | 3 => 3 | 5 => 5 | 46 => 182 | 146 => 232 | 51 => 231 | n => n, fun | 1 => 5 | n => n⟩
theorem Tryz.lays145 : Go.Proofs.Lays.n145 Tryz.prog Tryz.lays145_ren := {
  mixed := by kernel_rfl
  f145 := Tryz.func275.trans (congrArg some (by kernel_rfl))
  f217 := Tryz.func222.trans (congrArg some (by kernel_rfl))
  f219 := Tryz.func269.trans (congrArg some (by kernel_rfl))
  f220 := Tryz.func288.trans (congrArg some (by kernel_rfl))
  f224 := Tryz.func272.trans (congrArg some (by kernel_rfl))
  f225 := Tryz.func273.trans (congrArg some (by kernel_rfl))
  f266 := Tryz.func251.trans (congrArg some (by kernel_rfl))
  f267 := Tryz.func286.trans (congrArg some (by kernel_rfl))
  f314 := Tryz.func293.trans (congrArg some (by kernel_rfl))
  t3 := Tryz.underlying3
  a3 := Tryz.isAgg3
  z3 := Tryz.sizeOf3
  v3 := Tryz.zeroValue3
  t4 := Tryz.underlying4
  a4 := Tryz.isAgg4
  z4 := Tryz.sizeOf4
  v4 := Tryz.zeroValue4
  t5 := Tryz.underlying5
  a5 := Tryz.isAgg5
  z5 := Tryz.sizeOf5
  v5 := Tryz.zeroValue5
  t9 := Tryz.underlying9
  a9 := Tryz.isAgg9
  z9 := Tryz.sizeOf9
  v9 := Tryz.zeroValue9
  t46 := Tryz.underlying182
  a46 := Tryz.isAgg182
  z46 := Tryz.sizeOf182
  v46 := Tryz.zeroValue182
  t51 := Tryz.underlying231
  a51 := Tryz.isAgg231
  z51 := Tryz.sizeOf231
  v51 := Tryz.zeroValue231
  t59 := Tryz.underlying277
  a59 := Tryz.isAgg277
  z59 := Tryz.sizeOf277
  v59 := Tryz.zeroValue277
  t146 := Tryz.underlying232
  a146 := Tryz.isAgg232
  z146 := Tryz.sizeOf232
  v146 := Tryz.zeroValue232
  g1 := by kernel_rfl }
open Go.RowKit Go.Lib in
/-- strings.Cut: "Cut slices s around the first instance of sep, returning the text before and after sep. The found result reports whether sep appears in s. If sep does not appear in s, cut returns s, "", false.": IT RETURNS 'Lib.cut s sep'; the world is as it was but for the count of draws. (LAID: no walk: one application.) -/
theorem Tryz.strings_Cut (s sep : ByteArray) (m : Int) (w : World) (hs : s.size < 4294967281) (hm : w.cell? ⟨5, 0, none⟩ = some (.int .i64 m)) :
    Calls Tryz.prog 275 #[.string s, .string sep] w fun e w' => e = .returned (.tuple #[.string ⟨(Lib.cut s.data.toList sep.data.toList).1.toArray⟩, .string ⟨(Lib.cut s.data.toList sep.data.toList).2.1.toArray⟩, .bool (Lib.cut s.data.toList sep.data.toList).2.2]) ∧ ∃ n, w' = w.drewN n := Any.strings_Cut Tryz.lays145 s sep m w hs hm
def Tryz.laysM145_ren : Go.Shelf.Ren := ⟨fun | 145 => 275 | 220 => 288 | 219 => 269 | 217 => 222 | 225 => 273 | 224 => 272 | 267 => 286 | 266 => 251 | 314 => 293 | n => n, fun | 9 => 9 | 4 => 4 | 59 => 277 | 3 => 3 | 5 => 5 | 46 => 182 | 146 => 232 | 51 => 231 | n => n, fun | 1 => 5 | n => n⟩
theorem Tryz.laysM145 : Go.Proofs.LaysM.n145 Tryz.prog Tryz.laysM145_ren := {
  mixed := by kernel_rfl
  f145 := Tryz.func275.trans (congrArg some (by kernel_rfl))
  f217 := Tryz.func222.trans (congrArg some (by kernel_rfl))
  f219 := Tryz.func269.trans (congrArg some (by kernel_rfl))
  f220 := Tryz.func288.trans (congrArg some (by kernel_rfl))
  f224 := Tryz.func272.trans (congrArg some (by kernel_rfl))
  f225 := Tryz.func273.trans (congrArg some (by kernel_rfl))
  f266 := Tryz.func251.trans (congrArg some (by kernel_rfl))
  f267 := Tryz.func286.trans (congrArg some (by kernel_rfl))
  f314 := Tryz.func293.trans (congrArg some (by kernel_rfl))
  t3 := Tryz.underlying3
  a3 := Tryz.isAgg3
  z3 := Tryz.sizeOf3
  v3 := Tryz.zeroValue3
  t4 := Tryz.underlying4
  a4 := Tryz.isAgg4
  z4 := Tryz.sizeOf4
  v4 := Tryz.zeroValue4
  t5 := Tryz.underlying5
  a5 := Tryz.isAgg5
  z5 := Tryz.sizeOf5
  v5 := Tryz.zeroValue5
  t9 := Tryz.underlying9
  a9 := Tryz.isAgg9
  z9 := Tryz.sizeOf9
  v9 := Tryz.zeroValue9
  t46 := Tryz.underlying182
  a46 := Tryz.isAgg182
  z46 := Tryz.sizeOf182
  v46 := Tryz.zeroValue182
  t51 := Tryz.underlying231
  a51 := Tryz.isAgg231
  z51 := Tryz.sizeOf231
  v51 := Tryz.zeroValue231
  t59 := Tryz.underlying277
  a59 := Tryz.isAgg277
  z59 := Tryz.sizeOf277
  v59 := Tryz.zeroValue277
  t146 := Tryz.underlying232
  a146 := Tryz.isAgg232
  z146 := Tryz.sizeOf232
  v146 := Tryz.zeroValue232
  g1 := by kernel_rfl
  i3 := by kernel_rfl
  i4 := by kernel_rfl
  i5 := by kernel_rfl
  i9 := by kernel_rfl
  i46 := by kernel_rfl
  i51 := by kernel_rfl
  i59 := by kernel_rfl
  i146 := by kernel_rfl
  m1 := by kernel_rfl
  s1_3 := fun w h => Go.Proofs.cell_of_shapedOpen_int (zero := #[.int .i64 0]) (t := 3) h (of_decide_eq_true (by kernel_rfl)) (by kernel_rfl) rfl (by kernel_rfl) (by kernel_rfl) Tryz.underlying3 }
def Tryz.lays99_ren : Go.Shelf.Ren := ⟨fun | 99 => 165 | 206 => 215 | n => n, fun | 9 => 9 | 4 => 4 | 3 => 3 | n => n, fun | n => n⟩
theorem Tryz.lays99 : Go.Proofs.Lays.n99 Tryz.prog Tryz.lays99_ren := {
  mixed := by kernel_rfl
  f99 := Tryz.func165.trans (congrArg some (by kernel_rfl))
  f206 := Tryz.func215.trans (congrArg some (by kernel_rfl))
  t3 := Tryz.underlying3
  a3 := Tryz.isAgg3
  z3 := Tryz.sizeOf3
  v3 := Tryz.zeroValue3
  t4 := Tryz.underlying4
  a4 := Tryz.isAgg4
  z4 := Tryz.sizeOf4
  v4 := Tryz.zeroValue4
  t9 := Tryz.underlying9
  a9 := Tryz.isAgg9
  z9 := Tryz.sizeOf9
  v9 := Tryz.zeroValue9 }
open Go.RowKit Go.Lib in
/-- strings.HasPrefix: "HasPrefix reports whether the string s begins with prefix.": IT RETURNS 'Lib.hasPrefix s prefix'; the world is as it was. (LAID: no walk: one application.) -/
theorem Tryz.strings_HasPrefix (s p : ByteArray) (w : World) :
    Calls Tryz.prog 165 #[.string s, .string p] w fun e w' => e = .returned (.bool (Lib.hasPrefix s.data.toList p.data.toList)) ∧ w' = w := Any.strings_HasPrefix Tryz.lays99 s p w
def Tryz.lays101_ren : Go.Shelf.Ren := ⟨fun | 101 => 337 | 208 => 339 | 206 => 215 | n => n, fun | 9 => 9 | 4 => 4 | 3 => 3 | n => n, fun | n => n⟩
theorem Tryz.lays101 : Go.Proofs.Lays.n101 Tryz.prog Tryz.lays101_ren := {
  mixed := by kernel_rfl
  f101 := Tryz.func337.trans (congrArg some (by kernel_rfl))
  f206 := Tryz.func215.trans (congrArg some (by kernel_rfl))
  f208 := Tryz.func339.trans (congrArg some (by kernel_rfl))
  t3 := Tryz.underlying3
  a3 := Tryz.isAgg3
  z3 := Tryz.sizeOf3
  v3 := Tryz.zeroValue3
  t4 := Tryz.underlying4
  a4 := Tryz.isAgg4
  z4 := Tryz.sizeOf4
  v4 := Tryz.zeroValue4
  t9 := Tryz.underlying9
  a9 := Tryz.isAgg9
  z9 := Tryz.sizeOf9
  v9 := Tryz.zeroValue9 }
open Go.RowKit Go.Lib in
/-- strings.TrimPrefix: "TrimPrefix returns s without the provided leading prefix string. If s doesn't start with prefix, s is returned unchanged.": IT RETURNS 'Lib.trimPrefix s prefix'; the world is as it was. (LAID: no walk: one application.) -/
theorem Tryz.strings_TrimPrefix (s p : ByteArray) (w : World) :
    Calls Tryz.prog 337 #[.string s, .string p] w fun e w' => e = .returned (.string ⟨(Lib.trimPrefix s.data.toList p.data.toList).toArray⟩) ∧ w' = w := Any.strings_TrimPrefix Tryz.lays101 s p w
def Tryz.lays146_ren : Go.Shelf.Ren := ⟨fun | 146 => 147 | 221 => 208 | 268 => 244 | 138 => 245 | 143 => 246 | 195 => 267 | 197 => 248 | 218 => 268 | 219 => 269 | 260 => 270 | 217 => 222 | 225 => 273 | 224 => 272 | 267 => 286 | 266 => 251 | 314 => 293 | n => n, fun | 9 => 9 | 31 => 64 | 3 => 3 | 4 => 4 | 0 => 0 | 105 => 237 | 21 => 21 | 5 => 5 | 46 => 182 | 119 => 287 | 139 => 290 | 138 => 289 | 146 => 232 | 51 => 231 | n => n, fun | 1 => 5 | 3 => 7 | 4 => 8 | n => n⟩
theorem Tryz.lays146 : Go.Proofs.Lays.n146 Tryz.prog Tryz.lays146_ren := {
  mixed := by kernel_rfl
  f138 := Tryz.func245.trans (congrArg some (by kernel_rfl))
  f143 := Tryz.func246.trans (congrArg some (by kernel_rfl))
  f146 := Tryz.func147.trans (congrArg some (by kernel_rfl))
  f195 := Tryz.func267.trans (congrArg some (by kernel_rfl))
  f197 := Tryz.func248.trans (congrArg some (by kernel_rfl))
  f217 := Tryz.func222.trans (congrArg some (by kernel_rfl))
  f218 := Tryz.func268.trans (congrArg some (by kernel_rfl))
  f219 := Tryz.func269.trans (congrArg some (by kernel_rfl))
  f221 := Tryz.func208.trans (congrArg some (by kernel_rfl))
  f224 := Tryz.func272.trans (congrArg some (by kernel_rfl))
  f225 := Tryz.func273.trans (congrArg some (by kernel_rfl))
  f260 := Tryz.func270.trans (congrArg some (by kernel_rfl))
  f266 := Tryz.func251.trans (congrArg some (by kernel_rfl))
  f267 := Tryz.func286.trans (congrArg some (by kernel_rfl))
  f268 := Tryz.func244.trans (congrArg some (by kernel_rfl))
  f314 := Tryz.func293.trans (congrArg some (by kernel_rfl))
  t0 := Tryz.underlying0
  a0 := Tryz.isAgg0
  z0 := Tryz.sizeOf0
  v0 := Tryz.zeroValue0
  t3 := Tryz.underlying3
  a3 := Tryz.isAgg3
  z3 := Tryz.sizeOf3
  v3 := Tryz.zeroValue3
  t4 := Tryz.underlying4
  a4 := Tryz.isAgg4
  z4 := Tryz.sizeOf4
  v4 := Tryz.zeroValue4
  t5 := Tryz.underlying5
  a5 := Tryz.isAgg5
  z5 := Tryz.sizeOf5
  v5 := Tryz.zeroValue5
  t9 := Tryz.underlying9
  a9 := Tryz.isAgg9
  z9 := Tryz.sizeOf9
  v9 := Tryz.zeroValue9
  t21 := Tryz.underlying21
  a21 := Tryz.isAgg21
  z21 := Tryz.sizeOf21
  v21 := Tryz.zeroValue21
  t31 := Tryz.underlying64
  a31 := Tryz.isAgg64
  z31 := Tryz.sizeOf64
  v31 := Tryz.zeroValue64
  t46 := Tryz.underlying182
  a46 := Tryz.isAgg182
  z46 := Tryz.sizeOf182
  v46 := Tryz.zeroValue182
  t51 := Tryz.underlying231
  a51 := Tryz.isAgg231
  z51 := Tryz.sizeOf231
  v51 := Tryz.zeroValue231
  t105 := Tryz.underlying237
  a105 := Tryz.isAgg237
  z105 := Tryz.sizeOf237
  v105 := Tryz.zeroValue237
  t119 := Tryz.underlying287
  a119 := Tryz.isAgg287
  z119 := Tryz.sizeOf287
  t138 := Tryz.underlying289
  a138 := Tryz.isAgg289
  z138 := Tryz.sizeOf289
  v138 := Tryz.zeroValue289
  t139 := Tryz.underlying290
  a139 := Tryz.isAgg290
  z139 := Tryz.sizeOf290
  v139 := Tryz.zeroValue290
  t146 := Tryz.underlying232
  a146 := Tryz.isAgg232
  z146 := Tryz.sizeOf232
  v146 := Tryz.zeroValue232
  g1 := by kernel_rfl
  g3 := by kernel_rfl
  g4 := by kernel_rfl }
open Go.RowKit Go.Lib in
/-- strings.Split. (LAID: no walk: one application.) -/
theorem Tryz.strings_Split (s sep : ByteArray) (m : Int) (w : World) (hs : s.size < 4294967281) (hm : w.cell? ⟨5, 0, none⟩ = some (.int .i64 m)) (h1 : 1 ≤ sep.size) :
    Calls Tryz.prog 147 #[.string s, .string sep] w fun e w' =>
      e = .returned (.slice (some ⟨w.heap.size, 0, none⟩) (Lib.countB s sep + 1) (Lib.countB s sep + 1)) ∧ w' = w.alloc (.cells ((Lib.splitB sep 0 (Lib.countB s sep) s).map Value.string).toArray 9) := Any.strings_Split Tryz.lays146 (by kernel_rfl) s sep m w hs hm h1
def Tryz.lays212_ren : Go.Shelf.Ren := ⟨fun | 212 => 164 | 263 => 213 | 264 => 214 | n => n, fun | 46 => 182 | 51 => 231 | 146 => 232 | 53 => 234 | 148 => 235 | n => n, fun | n => n⟩
theorem Tryz.lays212 : Go.Proofs.Lays.n212 Tryz.prog Tryz.lays212_ren := {
  mixed := by kernel_rfl
  f212 := Tryz.func164.trans (congrArg some (by kernel_rfl))
  f263 := Tryz.func213.trans (congrArg some (by kernel_rfl))
  f264 := Tryz.func214.trans (congrArg some (by kernel_rfl))
  t46 := Tryz.underlying182
  a46 := Tryz.isAgg182
  z46 := Tryz.sizeOf182
  v46 := Tryz.zeroValue182
  t51 := Tryz.underlying231
  a51 := Tryz.isAgg231
  z51 := Tryz.sizeOf231
  v51 := Tryz.zeroValue231
  t53 := Tryz.underlying234
  a53 := Tryz.isAgg234
  z53 := Tryz.sizeOf234
  v53 := Tryz.zeroValue234
  t146 := Tryz.underlying232
  a146 := Tryz.isAgg232
  z146 := Tryz.sizeOf232
  v146 := Tryz.zeroValue232
  t148 := Tryz.underlying235
  a148 := Tryz.isAgg235
  z148 := Tryz.sizeOf235
  v148 := Tryz.zeroValue235 }
open Go.RowKit Go.Lib in
/-- math/bits.Mul: "Mul returns the full-width product of x and y": on a machine of 64 bits: Mul64's. (LAID: no walk: one application.) -/
theorem Tryz.bits_Mul (x y : Nat) (hx : x < 18446744073709551616) (hy : y < 18446744073709551616) (w : World) :
    Calls Tryz.prog 164 #[.int .u64 x, .int .u64 y] w fun e w' => e = .returned (.tuple #[.int .u64 ((x * y / 18446744073709551616 : Nat) : Int), .int .u64 ((x * y % 18446744073709551616 : Nat) : Int)]) ∧ w' = w := Any.bits_Mul Tryz.lays212 x y hx hy w
def Tryz.laysSlH8_f334_ren : Go.Shelf.Ren := ⟨fun | 8 => 334 | 6 => 338 | n => n, fun | 22 => 64 | 23 => 9 | 25 => 60 | 4 => 4 | 3 => 3 | 0 => 0 | n => n, fun | n => n⟩
theorem Tryz.laysSlH8_f334 : Go.Proofs.SlLaysH.n8 Tryz.prog Tryz.laysSlH8_f334_ren := {
  mixed := by kernel_rfl
  f6 := ⟨Tryz.f338.name, by decide, Tryz.func338.trans (congrArg some (by kernel_rfl))⟩
  f8 := ⟨Tryz.f334.name, by decide, Tryz.func334.trans (congrArg some (by kernel_rfl))⟩
  t0 := Tryz.underlying0
  a0 := Tryz.isAgg0
  z0 := Tryz.sizeOf0
  v0 := Tryz.zeroValue0
  t3 := Tryz.underlying3
  a3 := Tryz.isAgg3
  z3 := Tryz.sizeOf3
  v3 := Tryz.zeroValue3
  t4 := Tryz.underlying4
  a4 := Tryz.isAgg4
  z4 := Tryz.sizeOf4
  v4 := Tryz.zeroValue4
  t22 := Tryz.underlying64
  a22 := Tryz.isAgg64
  z22 := Tryz.sizeOf64
  v22 := Tryz.zeroValue64
  a23 := Tryz.isAgg9
  z23 := Tryz.sizeOf9
  t25 := Tryz.underlying60
  a25 := Tryz.isAgg60
  z25 := Tryz.sizeOf60
  v25 := Tryz.zeroValue60 }
open Go.RowKit Go.Lib in
/-- slices.ContainsFunc: "ContainsFunc reports whether at least one element e of s satisfies f(e).": ITS CALLEE slices.IndexFunc IS MET BY ITS OWN CONTRACT. (LAID AT THE INSTANCE 'slices.ContainsFunc[[]string,string]': no walk: one application.) -/
theorem Tryz.slices_ContainsFunc {α : Type} [Inhabited α] (enc : α → Value) (p : α → Bool) (g : Nat) (lb : Array Value) (eg : ∀ args w, (callFunc g args).run Tryz.prog w = .ok (.enter g args) w) (b off n c : Nat) (zs : List α) (w : World) (hp : PredAt Tryz.prog g lb enc p w) (hz : n ≤ zs.length) (hbig : n ≤ 9223372036854775807) (hc : ∀ j, j < zs.length → w.cell? ⟨b, off + j, none⟩ = some (enc zs[j]!)) :
    Calls Tryz.prog 334 #[.slice (some ⟨b, off, none⟩) n c, .func (.func g) #[] lb] w fun e w' => e = .returned (.bool ((zs.take n).any p)) ∧ ∃ q, w' = w.drewN q := AnyE.slices_ContainsFunc Tryz.laysSlH8_f334 enc p g lb eg b off n c zs w hp hz hbig hc
end Go.Proofs
