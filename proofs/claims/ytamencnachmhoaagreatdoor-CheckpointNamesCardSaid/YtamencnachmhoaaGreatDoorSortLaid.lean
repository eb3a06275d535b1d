/-
  Contracts of the library in this program, in plain declarations (by wip/layplain.py).
-/
import Derived.Shelf.SlLaysF0
import Derived.Shelf.SlLaysC2
import Derived.PlainAid
import Derived.Test.YtamencnachmhoaaGreatDoorProg
namespace Go.Proofs
open Go.RowKit Go.Shelf

def Tryz.sortFile_ren : Go.Shelf.Ren := ⟨fun | 6 => 124 | 15 => 169 | 14 => 168 | 28 => 205 | 29 => 206 | 20 => 197 | 21 => 198 | 22 => 199 | 23 => 200 | 24 => 201 | 25 => 202 | 26 => 203 | 27 => 204 | 46 => 234 | 47 => 235 | 48 => 236 | 49 => 237 | 50 => 238 | 57 => 249 | n => n, fun | 22 => 110 | 24 => 113 | 25 => 179 | 3 => 3 | 39 => 143 | 0 => 0 | 53 => 158 | 55 => 78 | 4 => 4 | 46 => 255 | 45 => 254 | 50 => 227 | 5 => 5 | 9 => 9 | 66 => 279 | 70 => 282 | 76 => 296 | 77 => 297 | n => n, fun | n => n⟩
set_option maxRecDepth 100000 in
theorem Tryz.sortFile : SlLaysF0.n6 Tryz.prog Tryz.sortFile_ren := {
  mixed := by kernel_rfl
  f6 := ⟨ "slices.SortFunc[[]giro/checkpoint.file,giro/checkpoint.file]", of_decide_eq_true (by kernel_rfl), Tryz.func124.trans (congrArg some (by kernel_rfl))⟩
  f14 := ⟨ "slices.pdqsortCmpFunc[giro/checkpoint.file]", of_decide_eq_true (by kernel_rfl), Tryz.func168.trans (congrArg some (by kernel_rfl))⟩
  f15 := Tryz.func169.trans (congrArg some (by kernel_rfl))
  f20 := ⟨ "slices.insertionSortCmpFunc[giro/checkpoint.file]", of_decide_eq_true (by kernel_rfl), Tryz.func197.trans (congrArg some (by kernel_rfl))⟩
  f21 := ⟨ "slices.heapSortCmpFunc[giro/checkpoint.file]", of_decide_eq_true (by kernel_rfl), Tryz.func198.trans (congrArg some (by kernel_rfl))⟩
  f22 := ⟨ "slices.breakPatternsCmpFunc[giro/checkpoint.file]", of_decide_eq_true (by kernel_rfl), Tryz.func199.trans (congrArg some (by kernel_rfl))⟩
  f23 := ⟨ "slices.choosePivotCmpFunc[giro/checkpoint.file]", of_decide_eq_true (by kernel_rfl), Tryz.func200.trans (congrArg some (by kernel_rfl))⟩
  f24 := ⟨ "slices.reverseRangeCmpFunc[giro/checkpoint.file]", of_decide_eq_true (by kernel_rfl), Tryz.func201.trans (congrArg some (by kernel_rfl))⟩
  f25 := ⟨ "slices.partialInsertionSortCmpFunc[giro/checkpoint.file]", of_decide_eq_true (by kernel_rfl), Tryz.func202.trans (congrArg some (by kernel_rfl))⟩
  f26 := ⟨ "slices.partitionEqualCmpFunc[giro/checkpoint.file]", of_decide_eq_true (by kernel_rfl), Tryz.func203.trans (congrArg some (by kernel_rfl))⟩
  f27 := ⟨ "slices.partitionCmpFunc[giro/checkpoint.file]", of_decide_eq_true (by kernel_rfl), Tryz.func204.trans (congrArg some (by kernel_rfl))⟩
  f28 := Tryz.func205.trans (congrArg some (by kernel_rfl))
  f29 := Tryz.func206.trans (congrArg some (by kernel_rfl))
  f46 := ⟨ "slices.siftDownCmpFunc[giro/checkpoint.file]", of_decide_eq_true (by kernel_rfl), Tryz.func234.trans (congrArg some (by kernel_rfl))⟩
  f47 := Tryz.func235.trans (congrArg some (by kernel_rfl))
  f48 := Tryz.func236.trans (congrArg some (by kernel_rfl))
  f49 := ⟨ "slices.medianAdjacentCmpFunc[giro/checkpoint.file]", of_decide_eq_true (by kernel_rfl), Tryz.func237.trans (congrArg some (by kernel_rfl))⟩
  f50 := ⟨ "slices.medianCmpFunc[giro/checkpoint.file]", of_decide_eq_true (by kernel_rfl), Tryz.func238.trans (congrArg some (by kernel_rfl))⟩
  f57 := ⟨ "slices.order2CmpFunc[giro/checkpoint.file]", of_decide_eq_true (by kernel_rfl), Tryz.func249.trans (congrArg some (by kernel_rfl))⟩
  t0 := Tryz.underlying0
  a0 := Tryz.isAgg0
  z0 := Tryz.sizeOf0
  v0 := Tryz.zeroValue0
  t3 := Tryz.underlying3
  a3 := Tryz.isAgg3
  z3 := Tryz.sizeOf3
  v3 := Tryz.zeroValue3
  t4 := Tryz.underlying4
  a4 := Tryz.isAgg4
  z4 := Tryz.sizeOf4
  v4 := Tryz.zeroValue4
  t5 := Tryz.underlying5
  a5 := Tryz.isAgg5
  z5 := Tryz.sizeOf5
  v5 := Tryz.zeroValue5
  t9 := Tryz.underlying9
  a9 := Tryz.isAgg9
  z9 := Tryz.sizeOf9
  v9 := Tryz.zeroValue9
  t22 := Tryz.underlying110
  a22 := Tryz.isAgg110
  z22 := Tryz.sizeOf110
  v22 := Tryz.zeroValue110
  t25 := Tryz.underlying179
  a25 := Tryz.isAgg179
  z25 := Tryz.sizeOf179
  v25 := Tryz.zeroValue179
  t39 := Tryz.underlying143
  a39 := Tryz.isAgg143
  z39 := Tryz.sizeOf143
  v39 := Tryz.zeroValue143
  t45 := Tryz.underlying254
  a45 := Tryz.isAgg254
  z45 := Tryz.sizeOf254
  v45 := Tryz.zeroValue254
  t46 := Tryz.underlying255
  a46 := Tryz.isAgg255
  z46 := Tryz.sizeOf255
  v46 := Tryz.zeroValue255
  t50 := Tryz.underlying227
  a50 := Tryz.isAgg227
  z50 := Tryz.sizeOf227
  v50 := Tryz.zeroValue227
  t53 := Tryz.underlying158
  a53 := Tryz.isAgg158
  z53 := Tryz.sizeOf158
  v53 := Tryz.zeroValue158
  t55 := Tryz.underlying78
  a55 := Tryz.isAgg78
  z55 := Tryz.sizeOf78
  v55 := Tryz.zeroValue78
  t66 := Tryz.underlying279
  a66 := Tryz.isAgg279
  z66 := Tryz.sizeOf279
  v66 := Tryz.zeroValue279
  t70 := Tryz.underlying282
  a70 := Tryz.isAgg282
  z70 := Tryz.sizeOf282
  v70 := Tryz.zeroValue282
  t76 := Tryz.underlying296
  a76 := Tryz.isAgg296
  z76 := Tryz.sizeOf296
  v76 := Tryz.zeroValue296
  t77 := Tryz.underlying297
  a77 := Tryz.isAgg297
  z77 := Tryz.sizeOf297
  v77 := Tryz.zeroValue297 }
def Tryz.cmpInt_ren : Go.Shelf.Ren := ⟨fun | 5 => 126 | 7 => 170 | n => n, fun | 22 => 3 | 3 => 3 | 4 => 4 | n => n, fun | n => n⟩
set_option maxRecDepth 100000 in
theorem Tryz.cmpInt : SlLaysC2.n5 Tryz.prog Tryz.cmpInt_ren := {
  mixed := by kernel_rfl
  f5 := ⟨ "cmp.Compare[int]", of_decide_eq_true (by kernel_rfl), Tryz.func126.trans (congrArg some (by kernel_rfl))⟩
  f7 := ⟨ "cmp.isNaN[int]", of_decide_eq_true (by kernel_rfl), Tryz.func170.trans (congrArg some (by kernel_rfl))⟩
  t3 := Tryz.underlying3
  a3 := Tryz.isAgg3
  z3 := Tryz.sizeOf3
  v3 := Tryz.zeroValue3
  t4 := Tryz.underlying4
  a4 := Tryz.isAgg4
  z4 := Tryz.sizeOf4
  v4 := Tryz.zeroValue4
  t22 := Tryz.underlying3
  a22 := Tryz.isAgg3
  z22 := Tryz.sizeOf3
  v22 := Tryz.zeroValue3 }

end Go.Proofs
