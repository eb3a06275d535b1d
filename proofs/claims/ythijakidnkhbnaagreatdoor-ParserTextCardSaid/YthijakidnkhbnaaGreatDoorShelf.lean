/-
  DERIVED: THE SHELF's CONTRACTS AT THIS DUMP, IN PLAIN WORDS (tools/lay-plain.mjs out of 'TryzShelf.lean', which tools/lay-shelf.mjs wrote): THE SAME DECLARATIONS UNDER THE SAME NAMES: 'import', 'namespace', 'open', 'def', 'theorem' AND NOTHING ELSE: no command of the shelf's: FOR A HAND-IN. Each laying: the table of numbers ('.._ren') and one theorem, a field a fact of the dump's own or the kernel's comparison; each contract: ONE APPLICATION.
-/
import Derived.Shelf.Strings.Builder1
import Derived.Shelf.Strings.Trim
import Derived.Shelf.Small.Utf8
import Derived.Shelf.Small.Strs
import Derived.Shelf.Small.Wraps
import Derived.Shelf.Strings.BuilderF
import Derived.Shelf.Strings.BuilderK
import Derived.Shelf.Strconv.Itoa0
import Derived.Shelf.Strconv.Itoa1
import Derived.Shelf.LaysM
import Derived.Shelf.Strconv.Itoa2
import Derived.Shelf.Strconv.Itoa3
import Derived.Shelf.Strconv.ParseIntEmpty
import Derived.Shelf.Strconv.Clone
import Derived.Shelf.Strconv.SyntaxError
import Derived.Shelf.LaysC
import Derived.Shelf.Strconv.ToError
import Derived.Shelf.Strconv.Lower
import Derived.Shelf.Strconv.ParseUint10
import Derived.Shelf.Strconv.ParseUint10Empty
import Derived.Shelf.Strconv.ParseUint10Any
import Derived.Shelf.Strconv.ParseInt10
import Derived.Shelf.Strconv.RangeError
import Derived.Shelf.Strconv.ToErrorRange
import Derived.Shelf.Strconv.ParseUintEmpty
import Derived.Shelf.Strconv.ParseUint10b64
import Derived.Shelf.Strconv.ParseUint10b32
import Derived.Shelf.Strconv.ParseUint10b16
import Derived.Shelf.Strconv.ParseUint10b8
import Derived.Shelf.Strconv.ParseUint10At
import Derived.Shelf.Strconv.ParseInt10At64
import Derived.Shelf.Strconv.ParseInt10At32
import Derived.Shelf.Strconv.ParseInt10At16
import Derived.Shelf.Strconv.ParseInt10At8
import Derived.Shelf.Strconv.ParseInt10All
import Derived.Shelf.Strconv.ParseIntPublic10
import Derived.Shelf.Strconv.ErrVarParseInt
import Derived.Shelf.Strings.Search1
import Derived.Shelf.Strings.Search2
import Derived.Shelf.Strings.Search3
import Derived.Shelf.Strings.Cut
import Derived.Shelf.Strings.Count
import Derived.Shelf.Strings.Shaped
import Derived.Shelf.Strings.Prefix
import Derived.Shelf.Strings.Split
import Derived.Shelf.Strings.SplitShaped
import Derived.Shelf.Strings.Runes
import Derived.Shelf.Strings.AsciiSet
import Derived.Shelf.Unicode.DecodeSlow
import Derived.Ground.SlgfProg
import Derived.Shelf.SlicesE.IndexFunc
import Derived.Test.YthijakidnkhbnaaGreatDoorProg
namespace Go.Proofs
open Go.Shelf
def Tryz.lays169_ren : Go.Shelf.Ren := ⟨fun | 169 => 265 | n => n, fun | 70 => 264 | 9 => 9 | 0 => 0 | 72 => 266 | 37 => 47 | 127 => 231 | 3 => 3 | 5 => 5 | n => n, fun | n => n⟩
theorem Tryz.lays169 : Go.Proofs.Lays.n169 Tryz.prog Tryz.lays169_ren := {
  mixed := by kernel_rfl
  f169 := Tryz.func265.trans (congrArg some (by kernel_rfl))
  t0 := Tryz.underlying0
  a0 := Tryz.isAgg0
  z0 := Tryz.sizeOf0
  v0 := Tryz.zeroValue0
  t3 := Tryz.underlying3
  a3 := Tryz.isAgg3
  z3 := Tryz.sizeOf3
  v3 := Tryz.zeroValue3
  t9 := Tryz.underlying9
  a9 := Tryz.isAgg9
  z9 := Tryz.sizeOf9
  v9 := Tryz.zeroValue9
  t37 := Tryz.underlying47
  a37 := Tryz.isAgg47
  z37 := Tryz.sizeOf47
  v37 := Tryz.zeroValue47
  t70 := Tryz.underlying264
  a70 := Tryz.isAgg264
  z70 := Tryz.sizeOf264
  v70 := Tryz.zeroValue264
  t72 := Tryz.underlying266
  a72 := Tryz.isAgg266
  z72 := Tryz.sizeOf266
  v72 := Tryz.zeroValue266
  t127 := Tryz.underlying231
  a127 := Tryz.isAgg231
  z127 := Tryz.sizeOf231
  v127 := Tryz.zeroValue231 }
theorem Tryz.Builder_Extra_169 : Builder.Extra Tryz.prog Tryz.lays169_ren := {
  sizeBuilder := by kernel_rfl
  liesBuilder := by kernel_rfl
  t5 := Tryz.underlying5
  a5 := Tryz.isAgg5
  z5 := Tryz.sizeOf5
  v5 := Tryz.zeroValue5
  infoByte := by kernel_rfl
  cellsByte := by kernel_rfl
  sizeByte := by kernel_rfl
  neB5 := by decide }
open Go.RowKit in
/-- (*strings.Builder).String: "String returns the accumulated string.": WHATEVER THE BUILDER HOLDS. (LAID: no walk: one application.) -/
theorem Tryz.Builder_String_any (B b : Nat) (l : List UInt8) (w : World) (h : Lib.IsBuilder 266 5 B b (Lib.byteCells l) w) (hBw : B ≤ w.heap.size) :
    Calls Tryz.prog 265 #[.pointer (some ⟨b, 0, none⟩)] w fun e w' => e = .returned (.string ⟨l.toArray⟩) ∧ Below B w w' := Any.Builder_String_any Tryz.lays169 Tryz.Builder_Extra_169 B b l w h hBw
def Tryz.lays160_ren : Go.Shelf.Ren := ⟨fun | 160 => 86 | 232 => 124 | 231 => 123 | 227 => 125 | 234 => 127 | 233 => 126 | 236 => 129 | 235 => 128 | 228 => 157 | 271 => 160 | 151 => 159 | 197 => 158 | 120 => 175 | 152 => 174 | 260 => 173 | 137 => 87 | 119 => 189 | 224 => 187 | 225 => 186 | 217 => 130 | 266 => 161 | n => n, fun | 9 => 9 | 4 => 4 | 3 => 3 | 5 => 5 | 117 => 157 | 116 => 156 | 0 => 0 | 124 => 160 | 21 => 21 | 105 => 181 | 46 => 209 | 119 => 210 | 139 => 213 | 138 => 212 | n => n, fun | 3 => 4 | 4 => 5 | n => n⟩
theorem Tryz.lays160 : Go.Proofs.Lays.n160 Tryz.prog Tryz.lays160_ren := {
  mixed := by kernel_rfl
  f119 := Tryz.func189.trans (congrArg some (by kernel_rfl))
  f120 := Tryz.func175.trans (congrArg some (by kernel_rfl))
  f137 := Tryz.func87.trans (congrArg some (by kernel_rfl))
  f151 := Tryz.func159.trans (congrArg some (by kernel_rfl))
  f152 := Tryz.func174.trans (congrArg some (by kernel_rfl))
  f160 := Tryz.func86.trans (congrArg some (by kernel_rfl))
  f197 := Tryz.func158.trans (congrArg some (by kernel_rfl))
  f217 := Tryz.func130.trans (congrArg some (by kernel_rfl))
  f224 := Tryz.func187.trans (congrArg some (by kernel_rfl))
  f225 := Tryz.func186.trans (congrArg some (by kernel_rfl))
  f227 := Tryz.func125.trans (congrArg some (by kernel_rfl))
  f228 := Tryz.func157.trans (congrArg some (by kernel_rfl))
  f231 := Tryz.func123.trans (congrArg some (by kernel_rfl))
  f232 := Tryz.func124.trans (congrArg some (by kernel_rfl))
  f233 := Tryz.func126.trans (congrArg some (by kernel_rfl))
  f234 := Tryz.func127.trans (congrArg some (by kernel_rfl))
  f235 := Tryz.func128.trans (congrArg some (by kernel_rfl))
  f236 := Tryz.func129.trans (congrArg some (by kernel_rfl))
  f260 := Tryz.func173.trans (congrArg some (by kernel_rfl))
  f266 := Tryz.func161.trans (congrArg some (by kernel_rfl))
  f271 := Tryz.func160.trans (congrArg some (by kernel_rfl))
  t0 := Tryz.underlying0
  a0 := Tryz.isAgg0
  z0 := Tryz.sizeOf0
  v0 := Tryz.zeroValue0
  t3 := Tryz.underlying3
  a3 := Tryz.isAgg3
  z3 := Tryz.sizeOf3
  v3 := Tryz.zeroValue3
  t4 := Tryz.underlying4
  a4 := Tryz.isAgg4
  z4 := Tryz.sizeOf4
  v4 := Tryz.zeroValue4
  t5 := Tryz.underlying5
  a5 := Tryz.isAgg5
  z5 := Tryz.sizeOf5
  v5 := Tryz.zeroValue5
  t9 := Tryz.underlying9
  a9 := Tryz.isAgg9
  z9 := Tryz.sizeOf9
  v9 := Tryz.zeroValue9
  t21 := Tryz.underlying21
  a21 := Tryz.isAgg21
  z21 := Tryz.sizeOf21
  v21 := Tryz.zeroValue21
  t46 := Tryz.underlying209
  a46 := Tryz.isAgg209
  z46 := Tryz.sizeOf209
  v46 := Tryz.zeroValue209
  t105 := Tryz.underlying181
  a105 := Tryz.isAgg181
  z105 := Tryz.sizeOf181
  v105 := Tryz.zeroValue181
  t116 := Tryz.underlying156
  a116 := Tryz.isAgg156
  z116 := Tryz.sizeOf156
  t117 := Tryz.underlying157
  a117 := Tryz.isAgg157
  z117 := Tryz.sizeOf157
  v117 := Tryz.zeroValue157
  t119 := Tryz.underlying210
  a119 := Tryz.isAgg210
  z119 := Tryz.sizeOf210
  t124 := Tryz.underlying160
  a124 := Tryz.isAgg160
  z124 := Tryz.sizeOf160
  v124 := Tryz.zeroValue160
  t138 := Tryz.underlying212
  a138 := Tryz.isAgg212
  z138 := Tryz.sizeOf212
  v138 := Tryz.zeroValue212
  t139 := Tryz.underlying213
  a139 := Tryz.isAgg213
  z139 := Tryz.sizeOf213
  v139 := Tryz.zeroValue213
  g3 := by kernel_rfl
  g4 := by kernel_rfl }
def Tryz.lays137_ren : Go.Shelf.Ren := ⟨fun | 137 => 87 | 217 => 130 | 266 => 161 | n => n, fun | 9 => 9 | 5 => 5 | 3 => 3 | n => n, fun | n => n⟩
theorem Tryz.lays137 : Go.Proofs.Lays.n137 Tryz.prog Tryz.lays137_ren := {
  mixed := by kernel_rfl
  f137 := Tryz.func87.trans (congrArg some (by kernel_rfl))
  f217 := Tryz.func130.trans (congrArg some (by kernel_rfl))
  f266 := Tryz.func161.trans (congrArg some (by kernel_rfl))
  t3 := Tryz.underlying3
  a3 := Tryz.isAgg3
  z3 := Tryz.sizeOf3
  v3 := Tryz.zeroValue3
  t5 := Tryz.underlying5
  a5 := Tryz.isAgg5
  z5 := Tryz.sizeOf5
  v5 := Tryz.zeroValue5
  t9 := Tryz.underlying9
  a9 := Tryz.isAgg9
  z9 := Tryz.sizeOf9
  v9 := Tryz.zeroValue9 }
open Go.RowKit in
/-- strings.IndexByte: "IndexByte returns the index of the first instance of c in s, or -1 if c is not present in s.": IT RETURNS 'Lib.indexByte s c'; the world is as it was. (LAID: no walk: one application.) -/
theorem Tryz.strings_IndexByte (s : ByteArray) (c : Int) (w : World) :
    Calls Tryz.prog 87 #[.string s, .int .u8 c] w fun e w' => e = .returned (.int .i64 (Lib.indexByte s.data.toList c.toNat.toUInt8)) ∧ w' = w := Any.strings_IndexByte Tryz.lays137 s c w
def Tryz.lays103_ren : Go.Shelf.Ren := ⟨fun | 103 => 176 | 210 => 190 | 206 => 197 | n => n, fun | 9 => 9 | 4 => 4 | 24 => 196 | 3 => 3 | n => n, fun | n => n⟩
theorem Tryz.lays103 : Go.Proofs.Lays.n103 Tryz.prog Tryz.lays103_ren := {
  mixed := by kernel_rfl
  f103 := Tryz.func176.trans (congrArg some (by kernel_rfl))
  f206 := Tryz.func197.trans (congrArg some (by kernel_rfl))
  f210 := Tryz.func190.trans (congrArg some (by kernel_rfl))
  t3 := Tryz.underlying3
  a3 := Tryz.isAgg3
  z3 := Tryz.sizeOf3
  v3 := Tryz.zeroValue3
  t4 := Tryz.underlying4
  a4 := Tryz.isAgg4
  z4 := Tryz.sizeOf4
  v4 := Tryz.zeroValue4
  t9 := Tryz.underlying9
  a9 := Tryz.isAgg9
  z9 := Tryz.sizeOf9
  v9 := Tryz.zeroValue9
  t24 := Tryz.underlying196
  a24 := Tryz.isAgg196
  z24 := Tryz.sizeOf196
  v24 := Tryz.zeroValue196 }
open Go.RowKit in
/-- strings.CutPrefix: "CutPrefix returns s without the provided leading prefix string and reports whether it found the prefix. If s doesn't start with prefix, CutPrefix returns s, false. If prefix is the empty string, CutPrefix returns s, true.": IT RETURNS '(Lib.trimPrefix s p, Lib.hasPrefix s p)'; the world is as it was. (LAID: no walk: one application.) -/
theorem Tryz.strings_CutPrefix (s p : ByteArray) (w : World) :
    Calls Tryz.prog 176 #[.string s, .string p] w fun e w' => e = .returned (.tuple #[.string ⟨(Lib.trimPrefix s.data.toList p.data.toList).toArray⟩, .bool (Lib.hasPrefix s.data.toList p.data.toList)]) ∧ w' = w := Any.strings_CutPrefix Tryz.lays103 s p w
def Tryz.lays171_ren : Go.Shelf.Ren := ⟨fun | 171 => 207 | 243 => 208 | 246 => 209 | 283 => 210 | 284 => 211 | 285 => 212 | 286 => 213 | 129 => 215 | 317 => 214 | 318 => 216 | 319 => 217 | 320 => 218 | 337 => 219 | 338 => 220 | n => n, fun | 3 => 3 | 9 => 9 | 2 => 2 | 4 => 4 | 171 => 236 | 0 => 0 | 53 => 221 | 37 => 47 | 5 => 5 | 173 => 239 | 212 => 242 | 51 => 217 | 20 => 20 | 213 => 243 | 46 => 209 | 232 => 246 | 233 => 247 | n => n, fun | 17 => 8 | 18 => 9 | 19 => 10 | n => n⟩
theorem Tryz.lays171 : Go.Proofs.Lays.n171 Tryz.prog Tryz.lays171_ren := {
  mixed := by kernel_rfl
  f129 := Tryz.func215.trans (congrArg some (by kernel_rfl))
  f171 := Tryz.func207.trans (congrArg some (by kernel_rfl))
  f243 := Tryz.func208.trans (congrArg some (by kernel_rfl))
  f246 := Tryz.func209.trans (congrArg some (by kernel_rfl))
  f283 := Tryz.func210.trans (congrArg some (by kernel_rfl))
  f284 := Tryz.func211.trans (congrArg some (by kernel_rfl))
  f285 := Tryz.func212.trans (congrArg some (by kernel_rfl))
  f286 := Tryz.func213.trans (congrArg some (by kernel_rfl))
  f317 := Tryz.func214.trans (congrArg some (by kernel_rfl))
  f318 := Tryz.func216.trans (congrArg some (by kernel_rfl))
  f319 := Tryz.func217.trans (congrArg some (by kernel_rfl))
  f320 := Tryz.func218.trans (congrArg some (by kernel_rfl))
  f337 := Tryz.func219.trans (congrArg some (by kernel_rfl))
  f338 := Tryz.func220.trans (congrArg some (by kernel_rfl))
  t0 := Tryz.underlying0
  a0 := Tryz.isAgg0
  z0 := Tryz.sizeOf0
  v0 := Tryz.zeroValue0
  t2 := Tryz.underlying2
  a2 := Tryz.isAgg2
  z2 := Tryz.sizeOf2
  v2 := Tryz.zeroValue2
  t3 := Tryz.underlying3
  a3 := Tryz.isAgg3
  z3 := Tryz.sizeOf3
  v3 := Tryz.zeroValue3
  t4 := Tryz.underlying4
  a4 := Tryz.isAgg4
  z4 := Tryz.sizeOf4
  v4 := Tryz.zeroValue4
  t5 := Tryz.underlying5
  a5 := Tryz.isAgg5
  z5 := Tryz.sizeOf5
  v5 := Tryz.zeroValue5
  t9 := Tryz.underlying9
  a9 := Tryz.isAgg9
  z9 := Tryz.sizeOf9
  v9 := Tryz.zeroValue9
  t20 := Tryz.underlying20
  a20 := Tryz.isAgg20
  z20 := Tryz.sizeOf20
  v20 := Tryz.zeroValue20
  t37 := Tryz.underlying47
  a37 := Tryz.isAgg47
  z37 := Tryz.sizeOf47
  v37 := Tryz.zeroValue47
  t46 := Tryz.underlying209
  a46 := Tryz.isAgg209
  z46 := Tryz.sizeOf209
  v46 := Tryz.zeroValue209
  t51 := Tryz.underlying217
  a51 := Tryz.isAgg217
  z51 := Tryz.sizeOf217
  v51 := Tryz.zeroValue217
  t53 := Tryz.underlying221
  a53 := Tryz.isAgg221
  z53 := Tryz.sizeOf221
  v53 := Tryz.zeroValue221
  t171 := Tryz.underlying236
  a171 := Tryz.isAgg236
  z171 := Tryz.sizeOf236
  v171 := Tryz.zeroValue236
  t173 := Tryz.underlying239
  a173 := Tryz.isAgg239
  z173 := Tryz.sizeOf239
  v173 := Tryz.zeroValue239
  t212 := Tryz.underlying242
  a212 := Tryz.isAgg242
  z212 := Tryz.sizeOf242
  v212 := Tryz.zeroValue242
  t213 := Tryz.underlying243
  a213 := Tryz.isAgg243
  z213 := Tryz.sizeOf243
  t232 := Tryz.underlying246
  a232 := Tryz.isAgg246
  z232 := Tryz.sizeOf246
  v232 := Tryz.zeroValue246
  t233 := Tryz.underlying247
  a233 := Tryz.isAgg247
  z233 := Tryz.sizeOf247
  v233 := Tryz.zeroValue247
  g17 := by kernel_rfl
  g18 := by kernel_rfl
  g19 := by kernel_rfl }
open Go.RowKit Go.Sort Go.Lib in
/-- THE ROAD WITHOUT THE TABLE: 0 <= i < 100: NO PREMISE ON THE WORLD, AND THE WORLD IS AS IT WAS: a row that keeps its argument in that range need list no table ('laid = []'). (LAID: no walk: one application.) -/
theorem Tryz.strconv_Itoa_small (i : Nat) (hi : i < 100) (w : World) :
    Calls Tryz.prog 207 #[.int .i64 i] w fun e w' => e = .returned (.string ⟨(Lib.decDigits i).toArray⟩) ∧ w' = w := Any.strconv_Itoa_small Tryz.lays171 i hi w
def Tryz.laysC174_ren : Go.Shelf.Ren := ⟨fun | 174 => 179 | 247 => 192 | 245 => 193 | 287 => 198 | 279 => 199 | 280 => 200 | 281 => 201 | 282 => 202 | 321 => 203 | 322 => 204 | 316 => 205 | 171 => 207 | 205 => 206 | 243 => 208 | 246 => 209 | 283 => 210 | 284 => 211 | 285 => 212 | 286 => 213 | 129 => 215 | 317 => 214 | 318 => 216 | 319 => 217 | 320 => 218 | 337 => 219 | 338 => 220 | n => n, fun | 9 => 9 | 3 => 3 | 2 => 2 | 75 => 201 | 85 => 202 | 4 => 4 | 167 => 220 | 5 => 5 | 53 => 221 | 175 => 222 | 46 => 209 | 168 => 224 | 37 => 47 | 0 => 0 | 210 => 229 | 21 => 21 | 127 => 231 | 145 => 234 | 143 => 232 | 171 => 236 | 173 => 239 | 212 => 242 | 51 => 217 | 20 => 20 | 213 => 243 | 232 => 246 | 233 => 247 | 80 => 69 | n => n, fun | 15 => 6 | 16 => 7 | 17 => 8 | 18 => 9 | 19 => 10 | n => n⟩
theorem Tryz.laysC174 : Go.Proofs.LaysC.n174 Tryz.prog Tryz.laysC174_ren := {
  mixed := by kernel_rfl
  f129 := Tryz.func215.trans (congrArg some (by kernel_rfl))
  f171 := Tryz.func207.trans (congrArg some (by kernel_rfl))
  f174 := Tryz.func179.trans (congrArg some (by kernel_rfl))
  f205 := Tryz.func206.trans (congrArg some (by kernel_rfl))
  f243 := Tryz.func208.trans (congrArg some (by kernel_rfl))
  f245 := Tryz.func193.trans (congrArg some (by kernel_rfl))
  f246 := Tryz.func209.trans (congrArg some (by kernel_rfl))
  f247 := Tryz.func192.trans (congrArg some (by kernel_rfl))
  f279 := Tryz.func199.trans (congrArg some (by kernel_rfl))
  f280 := Tryz.func200.trans (congrArg some (by kernel_rfl))
  f281 := Tryz.func201.trans (congrArg some (by kernel_rfl))
  f282 := Tryz.func202.trans (congrArg some (by kernel_rfl))
  f283 := Tryz.func210.trans (congrArg some (by kernel_rfl))
  f284 := Tryz.func211.trans (congrArg some (by kernel_rfl))
  f285 := Tryz.func212.trans (congrArg some (by kernel_rfl))
  f286 := Tryz.func213.trans (congrArg some (by kernel_rfl))
  f287 := Tryz.func198.trans (congrArg some (by kernel_rfl))
  f316 := Tryz.func205.trans (congrArg some (by kernel_rfl))
  f317 := Tryz.func214.trans (congrArg some (by kernel_rfl))
  f318 := Tryz.func216.trans (congrArg some (by kernel_rfl))
  f319 := Tryz.func217.trans (congrArg some (by kernel_rfl))
  f320 := Tryz.func218.trans (congrArg some (by kernel_rfl))
  f321 := Tryz.func203.trans (congrArg some (by kernel_rfl))
  f322 := Tryz.func204.trans (congrArg some (by kernel_rfl))
  f337 := Tryz.func219.trans (congrArg some (by kernel_rfl))
  f338 := Tryz.func220.trans (congrArg some (by kernel_rfl))
  t0 := Tryz.underlying0
  a0 := Tryz.isAgg0
  z0 := Tryz.sizeOf0
  v0 := Tryz.zeroValue0
  t2 := Tryz.underlying2
  a2 := Tryz.isAgg2
  z2 := Tryz.sizeOf2
  v2 := Tryz.zeroValue2
  t3 := Tryz.underlying3
  a3 := Tryz.isAgg3
  z3 := Tryz.sizeOf3
  v3 := Tryz.zeroValue3
  t4 := Tryz.underlying4
  a4 := Tryz.isAgg4
  z4 := Tryz.sizeOf4
  v4 := Tryz.zeroValue4
  t5 := Tryz.underlying5
  a5 := Tryz.isAgg5
  z5 := Tryz.sizeOf5
  v5 := Tryz.zeroValue5
  t9 := Tryz.underlying9
  a9 := Tryz.isAgg9
  z9 := Tryz.sizeOf9
  v9 := Tryz.zeroValue9
  t20 := Tryz.underlying20
  a20 := Tryz.isAgg20
  z20 := Tryz.sizeOf20
  v20 := Tryz.zeroValue20
  t21 := Tryz.underlying21
  a21 := Tryz.isAgg21
  z21 := Tryz.sizeOf21
  v21 := Tryz.zeroValue21
  t37 := Tryz.underlying47
  a37 := Tryz.isAgg47
  z37 := Tryz.sizeOf47
  v37 := Tryz.zeroValue47
  t46 := Tryz.underlying209
  a46 := Tryz.isAgg209
  z46 := Tryz.sizeOf209
  v46 := Tryz.zeroValue209
  t51 := Tryz.underlying217
  a51 := Tryz.isAgg217
  z51 := Tryz.sizeOf217
  v51 := Tryz.zeroValue217
  t53 := Tryz.underlying221
  a53 := Tryz.isAgg221
  z53 := Tryz.sizeOf221
  v53 := Tryz.zeroValue221
  t75 := Tryz.underlying201
  a75 := Tryz.isAgg201
  z75 := Tryz.sizeOf201
  v75 := Tryz.zeroValue201
  t85 := Tryz.underlying202
  a85 := Tryz.isAgg202
  z85 := Tryz.sizeOf202
  v85 := Tryz.zeroValue202
  t127 := Tryz.underlying231
  a127 := Tryz.isAgg231
  z127 := Tryz.sizeOf231
  v127 := Tryz.zeroValue231
  t143 := Tryz.underlying232
  a143 := Tryz.isAgg232
  z143 := Tryz.sizeOf232
  v143 := Tryz.zeroValue232
  t145 := Tryz.underlying234
  a145 := Tryz.isAgg234
  z145 := Tryz.sizeOf234
  v145 := Tryz.zeroValue234
  t167 := Tryz.underlying220
  a167 := Tryz.isAgg220
  z167 := Tryz.sizeOf220
  v167 := Tryz.zeroValue220
  t168 := Tryz.underlying224
  a168 := Tryz.isAgg224
  z168 := Tryz.sizeOf224
  v168 := Tryz.zeroValue224
  t171 := Tryz.underlying236
  a171 := Tryz.isAgg236
  z171 := Tryz.sizeOf236
  v171 := Tryz.zeroValue236
  t173 := Tryz.underlying239
  a173 := Tryz.isAgg239
  z173 := Tryz.sizeOf239
  v173 := Tryz.zeroValue239
  t175 := Tryz.underlying222
  a175 := Tryz.isAgg222
  z175 := Tryz.sizeOf222
  v175 := Tryz.zeroValue222
  t210 := Tryz.underlying229
  a210 := Tryz.isAgg229
  z210 := Tryz.sizeOf229
  v210 := Tryz.zeroValue229
  t212 := Tryz.underlying242
  a212 := Tryz.isAgg242
  z212 := Tryz.sizeOf242
  v212 := Tryz.zeroValue242
  t213 := Tryz.underlying243
  a213 := Tryz.isAgg243
  z213 := Tryz.sizeOf243
  t232 := Tryz.underlying246
  a232 := Tryz.isAgg246
  z232 := Tryz.sizeOf246
  v232 := Tryz.zeroValue246
  t233 := Tryz.underlying247
  a233 := Tryz.isAgg247
  z233 := Tryz.sizeOf247
  v233 := Tryz.zeroValue247
  g15 := by kernel_rfl
  g16 := by kernel_rfl
  g17 := by kernel_rfl
  g18 := by kernel_rfl
  g19 := by kernel_rfl
  t80 := Tryz.underlying69
  a80 := Tryz.isAgg69
  z80 := Tryz.sizeOf69
  v80 := Tryz.zeroValue69
  i0 := by kernel_rfl
  i2 := by kernel_rfl
  i3 := by kernel_rfl
  i4 := by kernel_rfl
  i5 := by kernel_rfl
  i9 := by kernel_rfl
  i20 := by kernel_rfl
  i21 := by kernel_rfl
  i37 := by kernel_rfl
  i46 := by kernel_rfl
  i51 := by kernel_rfl
  i53 := by kernel_rfl
  i75 := by kernel_rfl
  i80 := by kernel_rfl
  i85 := by kernel_rfl
  i127 := by kernel_rfl
  i143 := by kernel_rfl
  i145 := by kernel_rfl
  i167 := by kernel_rfl
  i168 := by kernel_rfl
  i171 := by kernel_rfl
  i173 := by kernel_rfl
  i175 := by kernel_rfl
  i210 := by kernel_rfl
  i212 := by kernel_rfl
  i232 := by kernel_rfl
  i233 := by kernel_rfl
  m15 := by kernel_rfl
  m16 := by kernel_rfl
  m17 := by kernel_rfl
  m18 := by kernel_rfl
  m19 := by kernel_rfl
  c0 := by kernel_rfl
  c2 := by kernel_rfl
  c3 := by kernel_rfl
  c4 := by kernel_rfl
  c5 := by kernel_rfl
  c9 := by kernel_rfl
  c20 := by kernel_rfl
  c21 := by kernel_rfl
  c37 := by kernel_rfl
  c46 := by kernel_rfl
  c51 := by kernel_rfl
  c53 := by kernel_rfl
  c75 := by kernel_rfl
  c80 := by kernel_rfl
  c85 := by kernel_rfl
  c127 := by kernel_rfl
  c143 := by kernel_rfl
  c145 := by kernel_rfl
  c167 := by kernel_rfl
  c168 := by kernel_rfl
  c171 := by kernel_rfl
  c173 := by kernel_rfl
  c175 := by kernel_rfl
  c210 := by kernel_rfl
  c212 := by kernel_rfl
  c213 := by kernel_rfl
  c232 := by kernel_rfl
  c233 := by kernel_rfl }
open Go.RowKit in
/-- strconv.ParseInt(s, 10, 64), AT EVERY STRING THAT SPELLS AN int64 ('Lib.parseIntB 64 s.data.toList = .ok v'): v, AND NO ERROR. (LAID: no walk: one application.) -/
theorem Tryz.strconv_ParseInt_10_at64_ok (s : ByteArray) (hmax : s.size ≤ 9223372036854775806) (v : Int) (h : Lib.parseIntB 64 s.data.toList = .ok v) (w : World) :
    Calls Tryz.prog 179 #[.string s, .int .i64 10, .int .i64 64] w fun e w' => e = .returned (.tuple #[.int .i64 v, .nilIface]) ∧ (w' = w ∨ ∃ t, w' = Lib.bytesWorld w 5 t) := Any.strconv_ParseInt_10_at64_ok Tryz.laysC174 s hmax v h w
open Go.RowKit in
/-- strconv.ParseInt(s, 10, 64), AT EVERY STRING THAT IS NO DECIMAL NUMERAL: 0, AND AN ERROR THAT IS NOT nil: a *NumError in a new block N: {Func: "ParseInt", Num: s's bytes, Err: what the variable ErrSyntax holds}. Of what was there nothing has turned. (LAID: no walk: one application.) -/
theorem Tryz.strconv_ParseInt_10_at64_syntax (s : ByteArray) (hlim : s.size ≤ 281474976710656) (h : Lib.parseIntB 64 s.data.toList = Lib.NumEnd.syntax) (ev : Value) (w : World) (hv : w.cell? ⟨6, 0, none⟩ = some ev) (hev : ev = .nilIface ∨ ∃ te pe, ev = .iface te pe) :
    Calls Tryz.prog 179 #[.string s, .int .i64 10, .int .i64 64] w fun e w' => ∃ N, e = .returned (.tuple #[.int .i64 (0), .iface 224 (.pointer (some ⟨N, 0, none⟩))]) ∧ w.heap.size ≤ N ∧ w'.heap[N]? = some (.cells #[.string ⟨#[80, 97, 114, 115, 101, 73, 110, 116]⟩, .string s, ev] 229 (0, 0)) ∧ Below w.heap.size w w' := Any.strconv_ParseInt_10_at64_syntax Tryz.laysC174 s hlim h ev w hv hev
open Go.RowKit in
/-- strconv.ParseInt(s, 10, 64), AT EVERY NUMERAL THAT NO int64 HOLDS: THE GREATEST OR THE LEAST int64, BY THE SIGN ('Lib.intSat 64'), AND AN ERROR THAT IS NOT nil: a *NumError in a new block N: {Func: "ParseInt", Num: s's bytes, Err: what the variable ErrRange holds}. Of what was there nothing has turned. (LAID: no walk: one application.) -/
theorem Tryz.strconv_ParseInt_10_at64_range (s : ByteArray) (hlim : s.size ≤ 281474976710656) (h : Lib.parseIntB 64 s.data.toList = .range) (ev : Value) (w : World) (hv : w.cell? ⟨7, 0, none⟩ = some ev) (hev : ev = .nilIface ∨ ∃ te pe, ev = .iface te pe) :
    Calls Tryz.prog 179 #[.string s, .int .i64 10, .int .i64 64] w fun e w' => ∃ N, e = .returned (.tuple #[.int .i64 (Lib.intSat 64 s.data.toList), .iface 224 (.pointer (some ⟨N, 0, none⟩))]) ∧ w.heap.size ≤ N ∧ w'.heap[N]? = some (.cells #[.string ⟨#[80, 97, 114, 115, 101, 73, 110, 116]⟩, .string s, ev] 229 (0, 0)) ∧ Below w.heap.size w w' := Any.strconv_ParseInt_10_at64_range Tryz.laysC174 s hlim h ev w hv hev
def Tryz.lays145_ren : Go.Shelf.Ren := ⟨fun | 145 => 177 | 220 => 191 | 219 => 172 | 217 => 130 | 225 => 186 | 224 => 187 | 267 => 188 | 266 => 161 | 314 => 196 | n => n, fun | 9 => 9 | 4 => 4 | 59 => 198 | 3 => 3 | 5 => 5 | 46 => 209 | 146 => 218 | 51 => 217 | n => n, fun | 1 => 2 | n => n⟩
theorem Tryz.lays145 : Go.Proofs.Lays.n145 Tryz.prog Tryz.lays145_ren := {
  mixed := by kernel_rfl
  f145 := Tryz.func177.trans (congrArg some (by kernel_rfl))
  f217 := Tryz.func130.trans (congrArg some (by kernel_rfl))
  f219 := Tryz.func172.trans (congrArg some (by kernel_rfl))
  f220 := Tryz.func191.trans (congrArg some (by kernel_rfl))
  f224 := Tryz.func187.trans (congrArg some (by kernel_rfl))
  f225 := Tryz.func186.trans (congrArg some (by kernel_rfl))
  f266 := Tryz.func161.trans (congrArg some (by kernel_rfl))
  f267 := Tryz.func188.trans (congrArg some (by kernel_rfl))
  f314 := Tryz.func196.trans (congrArg some (by kernel_rfl))
  t3 := Tryz.underlying3
  a3 := Tryz.isAgg3
  z3 := Tryz.sizeOf3
  v3 := Tryz.zeroValue3
  t4 := Tryz.underlying4
  a4 := Tryz.isAgg4
  z4 := Tryz.sizeOf4
  v4 := Tryz.zeroValue4
  t5 := Tryz.underlying5
  a5 := Tryz.isAgg5
  z5 := Tryz.sizeOf5
  v5 := Tryz.zeroValue5
  t9 := Tryz.underlying9
  a9 := Tryz.isAgg9
  z9 := Tryz.sizeOf9
  v9 := Tryz.zeroValue9
  t46 := Tryz.underlying209
  a46 := Tryz.isAgg209
  z46 := Tryz.sizeOf209
  v46 := Tryz.zeroValue209
  t51 := Tryz.underlying217
  a51 := Tryz.isAgg217
  z51 := Tryz.sizeOf217
  v51 := Tryz.zeroValue217
  t59 := Tryz.underlying198
  a59 := Tryz.isAgg198
  z59 := Tryz.sizeOf198
  v59 := Tryz.zeroValue198
  t146 := Tryz.underlying218
  a146 := Tryz.isAgg218
  z146 := Tryz.sizeOf218
  v146 := Tryz.zeroValue218
  g1 := by kernel_rfl }
open Go.RowKit Go.Lib in
/-- strings.Cut: "Cut slices s around the first instance of sep, returning the text before and after sep. The found result reports whether sep appears in s. If sep does not appear in s, cut returns s, "", false.": IT RETURNS 'Lib.cut s sep'; the world is as it was but for the count of draws. (LAID: no walk: one application.) -/
theorem Tryz.strings_Cut (s sep : ByteArray) (m : Int) (w : World) (hs : s.size < 4294967281) (hm : w.cell? ⟨2, 0, none⟩ = some (.int .i64 m)) :
    Calls Tryz.prog 177 #[.string s, .string sep] w fun e w' => e = .returned (.tuple #[.string ⟨(Lib.cut s.data.toList sep.data.toList).1.toArray⟩, .string ⟨(Lib.cut s.data.toList sep.data.toList).2.1.toArray⟩, .bool (Lib.cut s.data.toList sep.data.toList).2.2]) ∧ ∃ n, w' = w.drewN n := Any.strings_Cut Tryz.lays145 s sep m w hs hm
def Tryz.laysM145_ren : Go.Shelf.Ren := ⟨fun | 145 => 177 | 220 => 191 | 219 => 172 | 217 => 130 | 225 => 186 | 224 => 187 | 267 => 188 | 266 => 161 | 314 => 196 | n => n, fun | 9 => 9 | 4 => 4 | 59 => 198 | 3 => 3 | 5 => 5 | 46 => 209 | 146 => 218 | 51 => 217 | n => n, fun | 1 => 2 | n => n⟩
theorem Tryz.laysM145 : Go.Proofs.LaysM.n145 Tryz.prog Tryz.laysM145_ren := {
  mixed := by kernel_rfl
  f145 := Tryz.func177.trans (congrArg some (by kernel_rfl))
  f217 := Tryz.func130.trans (congrArg some (by kernel_rfl))
  f219 := Tryz.func172.trans (congrArg some (by kernel_rfl))
  f220 := Tryz.func191.trans (congrArg some (by kernel_rfl))
  f224 := Tryz.func187.trans (congrArg some (by kernel_rfl))
  f225 := Tryz.func186.trans (congrArg some (by kernel_rfl))
  f266 := Tryz.func161.trans (congrArg some (by kernel_rfl))
  f267 := Tryz.func188.trans (congrArg some (by kernel_rfl))
  f314 := Tryz.func196.trans (congrArg some (by kernel_rfl))
  t3 := Tryz.underlying3
  a3 := Tryz.isAgg3
  z3 := Tryz.sizeOf3
  v3 := Tryz.zeroValue3
  t4 := Tryz.underlying4
  a4 := Tryz.isAgg4
  z4 := Tryz.sizeOf4
  v4 := Tryz.zeroValue4
  t5 := Tryz.underlying5
  a5 := Tryz.isAgg5
  z5 := Tryz.sizeOf5
  v5 := Tryz.zeroValue5
  t9 := Tryz.underlying9
  a9 := Tryz.isAgg9
  z9 := Tryz.sizeOf9
  v9 := Tryz.zeroValue9
  t46 := Tryz.underlying209
  a46 := Tryz.isAgg209
  z46 := Tryz.sizeOf209
  v46 := Tryz.zeroValue209
  t51 := Tryz.underlying217
  a51 := Tryz.isAgg217
  z51 := Tryz.sizeOf217
  v51 := Tryz.zeroValue217
  t59 := Tryz.underlying198
  a59 := Tryz.isAgg198
  z59 := Tryz.sizeOf198
  v59 := Tryz.zeroValue198
  t146 := Tryz.underlying218
  a146 := Tryz.isAgg218
  z146 := Tryz.sizeOf218
  v146 := Tryz.zeroValue218
  g1 := by kernel_rfl
  i3 := by kernel_rfl
  i4 := by kernel_rfl
  i5 := by kernel_rfl
  i9 := by kernel_rfl
  i46 := by kernel_rfl
  i51 := by kernel_rfl
  i59 := by kernel_rfl
  i146 := by kernel_rfl
  m1 := by kernel_rfl
  s1_3 := fun w h => Go.Proofs.cell_of_shapedOpen_int (zero := #[.int .i64 0]) (t := 3) h (of_decide_eq_true (by kernel_rfl)) (by kernel_rfl) rfl (by kernel_rfl) (by kernel_rfl) Tryz.underlying3 }
def Tryz.lays101_ren : Go.Shelf.Ren := ⟨fun | 101 => 253 | 208 => 255 | 206 => 197 | n => n, fun | 9 => 9 | 4 => 4 | 3 => 3 | n => n, fun | n => n⟩
theorem Tryz.lays101 : Go.Proofs.Lays.n101 Tryz.prog Tryz.lays101_ren := {
  mixed := by kernel_rfl
  f101 := Tryz.func253.trans (congrArg some (by kernel_rfl))
  f206 := Tryz.func197.trans (congrArg some (by kernel_rfl))
  f208 := Tryz.func255.trans (congrArg some (by kernel_rfl))
  t3 := Tryz.underlying3
  a3 := Tryz.isAgg3
  z3 := Tryz.sizeOf3
  v3 := Tryz.zeroValue3
  t4 := Tryz.underlying4
  a4 := Tryz.isAgg4
  z4 := Tryz.sizeOf4
  v4 := Tryz.zeroValue4
  t9 := Tryz.underlying9
  a9 := Tryz.isAgg9
  z9 := Tryz.sizeOf9
  v9 := Tryz.zeroValue9 }
open Go.RowKit Go.Lib in
/-- strings.TrimPrefix: "TrimPrefix returns s without the provided leading prefix string. If s doesn't start with prefix, s is returned unchanged.": IT RETURNS 'Lib.trimPrefix s prefix'; the world is as it was. (LAID: no walk: one application.) -/
theorem Tryz.strings_TrimPrefix (s p : ByteArray) (w : World) :
    Calls Tryz.prog 253 #[.string s, .string p] w fun e w' => e = .returned (.string ⟨(Lib.trimPrefix s.data.toList p.data.toList).toArray⟩) ∧ w' = w := Any.strings_TrimPrefix Tryz.lays101 s p w
def Tryz.lays146_ren : Go.Shelf.Ren := ⟨fun | 146 => 84 | 221 => 121 | 268 => 153 | 138 => 154 | 143 => 155 | 195 => 170 | 197 => 158 | 218 => 171 | 219 => 172 | 260 => 173 | 217 => 130 | 225 => 186 | 224 => 187 | 267 => 188 | 266 => 161 | 314 => 196 | n => n, fun | 9 => 9 | 31 => 51 | 3 => 3 | 4 => 4 | 0 => 0 | 105 => 181 | 21 => 21 | 5 => 5 | 46 => 209 | 119 => 210 | 139 => 213 | 138 => 212 | 146 => 218 | 51 => 217 | n => n, fun | 1 => 2 | 3 => 4 | 4 => 5 | n => n⟩
theorem Tryz.lays146 : Go.Proofs.Lays.n146 Tryz.prog Tryz.lays146_ren := {
  mixed := by kernel_rfl
  f138 := Tryz.func154.trans (congrArg some (by kernel_rfl))
  f143 := Tryz.func155.trans (congrArg some (by kernel_rfl))
  f146 := Tryz.func84.trans (congrArg some (by kernel_rfl))
  f195 := Tryz.func170.trans (congrArg some (by kernel_rfl))
  f197 := Tryz.func158.trans (congrArg some (by kernel_rfl))
  f217 := Tryz.func130.trans (congrArg some (by kernel_rfl))
  f218 := Tryz.func171.trans (congrArg some (by kernel_rfl))
  f219 := Tryz.func172.trans (congrArg some (by kernel_rfl))
  f221 := Tryz.func121.trans (congrArg some (by kernel_rfl))
  f224 := Tryz.func187.trans (congrArg some (by kernel_rfl))
  f225 := Tryz.func186.trans (congrArg some (by kernel_rfl))
  f260 := Tryz.func173.trans (congrArg some (by kernel_rfl))
  f266 := Tryz.func161.trans (congrArg some (by kernel_rfl))
  f267 := Tryz.func188.trans (congrArg some (by kernel_rfl))
  f268 := Tryz.func153.trans (congrArg some (by kernel_rfl))
  f314 := Tryz.func196.trans (congrArg some (by kernel_rfl))
  t0 := Tryz.underlying0
  a0 := Tryz.isAgg0
  z0 := Tryz.sizeOf0
  v0 := Tryz.zeroValue0
  t3 := Tryz.underlying3
  a3 := Tryz.isAgg3
  z3 := Tryz.sizeOf3
  v3 := Tryz.zeroValue3
  t4 := Tryz.underlying4
  a4 := Tryz.isAgg4
  z4 := Tryz.sizeOf4
  v4 := Tryz.zeroValue4
  t5 := Tryz.underlying5
  a5 := Tryz.isAgg5
  z5 := Tryz.sizeOf5
  v5 := Tryz.zeroValue5
  t9 := Tryz.underlying9
  a9 := Tryz.isAgg9
  z9 := Tryz.sizeOf9
  v9 := Tryz.zeroValue9
  t21 := Tryz.underlying21
  a21 := Tryz.isAgg21
  z21 := Tryz.sizeOf21
  v21 := Tryz.zeroValue21
  t31 := Tryz.underlying51
  a31 := Tryz.isAgg51
  z31 := Tryz.sizeOf51
  v31 := Tryz.zeroValue51
  t46 := Tryz.underlying209
  a46 := Tryz.isAgg209
  z46 := Tryz.sizeOf209
  v46 := Tryz.zeroValue209
  t51 := Tryz.underlying217
  a51 := Tryz.isAgg217
  z51 := Tryz.sizeOf217
  v51 := Tryz.zeroValue217
  t105 := Tryz.underlying181
  a105 := Tryz.isAgg181
  z105 := Tryz.sizeOf181
  v105 := Tryz.zeroValue181
  t119 := Tryz.underlying210
  a119 := Tryz.isAgg210
  z119 := Tryz.sizeOf210
  t138 := Tryz.underlying212
  a138 := Tryz.isAgg212
  z138 := Tryz.sizeOf212
  v138 := Tryz.zeroValue212
  t139 := Tryz.underlying213
  a139 := Tryz.isAgg213
  z139 := Tryz.sizeOf213
  v139 := Tryz.zeroValue213
  t146 := Tryz.underlying218
  a146 := Tryz.isAgg218
  z146 := Tryz.sizeOf218
  v146 := Tryz.zeroValue218
  g1 := by kernel_rfl
  g3 := by kernel_rfl
  g4 := by kernel_rfl }
open Go.RowKit Go.Lib in
/-- strings.Split. (LAID: no walk: one application.) -/
theorem Tryz.strings_Split (s sep : ByteArray) (m : Int) (w : World) (hs : s.size < 4294967281) (hm : w.cell? ⟨2, 0, none⟩ = some (.int .i64 m)) (h1 : 1 ≤ sep.size) :
    Calls Tryz.prog 84 #[.string s, .string sep] w fun e w' =>
      e = .returned (.slice (some ⟨w.heap.size, 0, none⟩) (Lib.countB s sep + 1) (Lib.countB s sep + 1)) ∧ w' = w.alloc (.cells ((Lib.splitB sep 0 (Lib.countB s sep) s).map Value.string).toArray 9) := Any.strings_Split Tryz.lays146 (by kernel_rfl) s sep m w hs hm h1
def Tryz.laysSlH8_f250_ren : Go.Shelf.Ren := ⟨fun | 8 => 250 | 6 => 254 | n => n, fun | 22 => 51 | 23 => 9 | 25 => 43 | 4 => 4 | 3 => 3 | 0 => 0 | n => n, fun | n => n⟩
theorem Tryz.laysSlH8_f250 : Go.Proofs.SlLaysH.n8 Tryz.prog Tryz.laysSlH8_f250_ren := {
  mixed := by kernel_rfl
  f6 := ⟨Tryz.f254.name, by decide, Tryz.func254.trans (congrArg some (by kernel_rfl))⟩
  f8 := ⟨Tryz.f250.name, by decide, Tryz.func250.trans (congrArg some (by kernel_rfl))⟩
  t0 := Tryz.underlying0
  a0 := Tryz.isAgg0
  z0 := Tryz.sizeOf0
  v0 := Tryz.zeroValue0
  t3 := Tryz.underlying3
  a3 := Tryz.isAgg3
  z3 := Tryz.sizeOf3
  v3 := Tryz.zeroValue3
  t4 := Tryz.underlying4
  a4 := Tryz.isAgg4
  z4 := Tryz.sizeOf4
  v4 := Tryz.zeroValue4
  t22 := Tryz.underlying51
  a22 := Tryz.isAgg51
  z22 := Tryz.sizeOf51
  v22 := Tryz.zeroValue51
  a23 := Tryz.isAgg9
  z23 := Tryz.sizeOf9
  t25 := Tryz.underlying43
  a25 := Tryz.isAgg43
  z25 := Tryz.sizeOf43
  v25 := Tryz.zeroValue43 }
open Go.RowKit Go.Lib in
/-- slices.ContainsFunc: "ContainsFunc reports whether at least one element e of s satisfies f(e).": ITS CALLEE slices.IndexFunc IS MET BY ITS OWN CONTRACT. (LAID AT THE INSTANCE 'slices.ContainsFunc[[]string,string]': no walk: one application.) -/
theorem Tryz.slices_ContainsFunc {α : Type} [Inhabited α] (enc : α → Value) (p : α → Bool) (g : Nat) (lb : Array Value) (eg : ∀ args w, (callFunc g args).run Tryz.prog w = .ok (.enter g args) w) (b off n c : Nat) (zs : List α) (w : World) (hp : PredAt Tryz.prog g lb enc p w) (hz : n ≤ zs.length) (hbig : n ≤ 9223372036854775807) (hc : ∀ j, j < zs.length → w.cell? ⟨b, off + j, none⟩ = some (enc zs[j]!)) :
    Calls Tryz.prog 250 #[.slice (some ⟨b, off, none⟩) n c, .func (.func g) #[] lb] w fun e w' => e = .returned (.bool ((zs.take n).any p)) ∧ ∃ q, w' = w.drewN q := AnyE.slices_ContainsFunc Tryz.laysSlH8_f250 enc p g lb eg b off n c zs w hp hz hbig hc
end Go.Proofs
