/-
  slices.Sorted(maps.Keys(m)) in this program, in plain declarations (by wip/iterplain.py off the kit's lay-iter.mjs).
-/
import Derived.Shelf.SlIter.Nil
import Derived.Shelf.SortM.Plain
import Derived.Shelf.SortM.SortNone
import Derived.Test.YtamencnachmhoaaGreatDoorProg
namespace Go.Proofs
open Go.RowKit Go.Maps Go.Sort Go.Shelf

def Tryz.keys73_ren : Go.Shelf.Ren := ⟨fun | 7 => 73 | 10 => 129 | n => n, fun | 23 => 98 | 26 => 9 | 3 => 120 | 28 => 118 | 0 => 0 | 27 => 117 | 33 => 54 | 4 => 4 | n => n, fun | n => n⟩
set_option maxRecDepth 100000 in
theorem Tryz.keys73 : SlLaysZ.n7 Tryz.prog Tryz.keys73_ren := {
  mixed := by kernel_rfl
  f7 := ⟨ "maps.Keys[map[string]*giro/disk.file,string,*giro/disk.file]", of_decide_eq_true (by kernel_rfl), Tryz.func73.trans (congrArg some (by kernel_rfl))⟩
  f10 := ⟨ "maps.Keys[map[string]*giro/disk.file,string,*giro/disk.file]$1", of_decide_eq_true (by kernel_rfl), Tryz.func129.trans (congrArg some (by kernel_rfl))⟩
  t0 := Tryz.underlying0
  a0 := Tryz.isAgg0
  z0 := Tryz.sizeOf0
  v0 := Tryz.zeroValue0
  t4 := Tryz.underlying4
  a4 := Tryz.isAgg4
  z4 := Tryz.sizeOf4
  v4 := Tryz.zeroValue4
  t23 := Tryz.underlying98
  a23 := Tryz.isAgg98
  z23 := Tryz.sizeOf98
  v23 := Tryz.zeroValue98
  t26 := Tryz.underlying9
  a26 := Tryz.isAgg9
  z26 := Tryz.sizeOf9
  v26 := Tryz.zeroValue9
  t27 := Tryz.underlying117
  a27 := Tryz.isAgg117
  z27 := Tryz.sizeOf117
  v27 := Tryz.zeroValue117
  t28 := Tryz.underlying118
  a28 := Tryz.isAgg118
  z28 := Tryz.sizeOf118
  v28 := Tryz.zeroValue118
  t33 := Tryz.underlying54
  a33 := Tryz.isAgg54
  z33 := Tryz.sizeOf54
  v33 := Tryz.zeroValue54 }
def Tryz.sorted72_ren : Go.Shelf.Ren := ⟨fun | 6 => 72 | 8 => 127 | 9 => 128 | 11 => 171 | 13 => 169 | 12 => 172 | 23 => 205 | 24 => 206 | 14 => 207 | 15 => 208 | 16 => 209 | 17 => 210 | 18 => 211 | 19 => 212 | 20 => 213 | 21 => 214 | 22 => 215 | 25 => 239 | 26 => 235 | 27 => 236 | 28 => 240 | 29 => 241 | 30 => 242 | 31 => 250 | n => n, fun | 26 => 9 | 28 => 118 | 24 => 50 | 0 => 0 | 3 => 3 | 37 => 143 | 48 => 158 | 50 => 78 | 4 => 4 | 40 => 255 | 39 => 254 | 45 => 227 | 5 => 5 | 9 => 9 | 51 => 279 | 55 => 282 | 57 => 296 | 58 => 297 | 33 => 54 | n => n, fun | n => n⟩
set_option maxRecDepth 100000 in
theorem Tryz.sorted72 : SlLaysZ.n6 Tryz.prog Tryz.sorted72_ren := {
  mixed := by kernel_rfl
  f6 := ⟨ "slices.Sorted[string]", of_decide_eq_true (by kernel_rfl), Tryz.func72.trans (congrArg some (by kernel_rfl))⟩
  f8 := ⟨ "slices.Collect[string]", of_decide_eq_true (by kernel_rfl), Tryz.func127.trans (congrArg some (by kernel_rfl))⟩
  f11 := ⟨ "slices.AppendSeq[[]string,string]", of_decide_eq_true (by kernel_rfl), Tryz.func171.trans (congrArg some (by kernel_rfl))⟩
  t0 := Tryz.underlying0
  a0 := Tryz.isAgg0
  z0 := Tryz.sizeOf0
  v0 := Tryz.zeroValue0
  t24 := Tryz.underlying50
  a24 := Tryz.isAgg50
  z24 := Tryz.sizeOf50
  v24 := Tryz.zeroValue50
  t26 := Tryz.underlying9
  a26 := Tryz.isAgg9
  z26 := Tryz.sizeOf9
  v26 := Tryz.zeroValue9
  t28 := Tryz.underlying118
  a28 := Tryz.isAgg118
  z28 := Tryz.sizeOf118
  v28 := Tryz.zeroValue118
  i26 := by kernel_rfl }
def Tryz.sort128_ren : Go.Shelf.Ren := ⟨fun | 6 => 128 | 8 => 169 | 9 => 172 | 19 => 205 | 20 => 206 | 21 => 207 | 22 => 208 | 23 => 209 | 24 => 210 | 25 => 211 | 26 => 212 | 27 => 213 | 28 => 214 | 29 => 215 | 36 => 239 | 31 => 235 | 32 => 236 | 37 => 240 | 38 => 241 | 39 => 242 | 41 => 250 | n => n, fun | 27 => 50 | 29 => 9 | 3 => 3 | 32 => 143 | 26 => 50 | 0 => 0 | 44 => 158 | 46 => 78 | 4 => 4 | 36 => 255 | 35 => 254 | 41 => 227 | 5 => 5 | 9 => 9 | 53 => 279 | 57 => 282 | 63 => 296 | 64 => 297 | n => n, fun | n => n⟩
set_option maxRecDepth 100000 in
theorem Tryz.sort128 : SlLaysM.n6 Tryz.prog Tryz.sort128_ren := {
  mixed := by kernel_rfl
  f6 := ⟨ "slices.Sort[[]string,string]", of_decide_eq_true (by kernel_rfl), Tryz.func128.trans (congrArg some (by kernel_rfl))⟩
  f8 := Tryz.func169.trans (congrArg some (by kernel_rfl))
  f9 := ⟨ "slices.pdqsortOrdered[string]", of_decide_eq_true (by kernel_rfl), Tryz.func172.trans (congrArg some (by kernel_rfl))⟩
  f19 := Tryz.func205.trans (congrArg some (by kernel_rfl))
  f20 := Tryz.func206.trans (congrArg some (by kernel_rfl))
  f21 := ⟨ "slices.insertionSortOrdered[string]", of_decide_eq_true (by kernel_rfl), Tryz.func207.trans (congrArg some (by kernel_rfl))⟩
  f22 := ⟨ "slices.heapSortOrdered[string]", of_decide_eq_true (by kernel_rfl), Tryz.func208.trans (congrArg some (by kernel_rfl))⟩
  f23 := ⟨ "slices.breakPatternsOrdered[string]", of_decide_eq_true (by kernel_rfl), Tryz.func209.trans (congrArg some (by kernel_rfl))⟩
  f24 := ⟨ "slices.choosePivotOrdered[string]", of_decide_eq_true (by kernel_rfl), Tryz.func210.trans (congrArg some (by kernel_rfl))⟩
  f25 := ⟨ "slices.reverseRangeOrdered[string]", of_decide_eq_true (by kernel_rfl), Tryz.func211.trans (congrArg some (by kernel_rfl))⟩
  f26 := ⟨ "slices.partialInsertionSortOrdered[string]", of_decide_eq_true (by kernel_rfl), Tryz.func212.trans (congrArg some (by kernel_rfl))⟩
  f27 := ⟨ "cmp.Less[string]", of_decide_eq_true (by kernel_rfl), Tryz.func213.trans (congrArg some (by kernel_rfl))⟩
  f28 := ⟨ "slices.partitionEqualOrdered[string]", of_decide_eq_true (by kernel_rfl), Tryz.func214.trans (congrArg some (by kernel_rfl))⟩
  f29 := ⟨ "slices.partitionOrdered[string]", of_decide_eq_true (by kernel_rfl), Tryz.func215.trans (congrArg some (by kernel_rfl))⟩
  f31 := Tryz.func235.trans (congrArg some (by kernel_rfl))
  f32 := Tryz.func236.trans (congrArg some (by kernel_rfl))
  f36 := ⟨ "slices.siftDownOrdered[string]", of_decide_eq_true (by kernel_rfl), Tryz.func239.trans (congrArg some (by kernel_rfl))⟩
  f37 := ⟨ "slices.medianAdjacentOrdered[string]", of_decide_eq_true (by kernel_rfl), Tryz.func240.trans (congrArg some (by kernel_rfl))⟩
  f38 := ⟨ "slices.medianOrdered[string]", of_decide_eq_true (by kernel_rfl), Tryz.func241.trans (congrArg some (by kernel_rfl))⟩
  f39 := ⟨ "cmp.isNaN[string]", of_decide_eq_true (by kernel_rfl), Tryz.func242.trans (congrArg some (by kernel_rfl))⟩
  f41 := ⟨ "slices.order2Ordered[string]", of_decide_eq_true (by kernel_rfl), Tryz.func250.trans (congrArg some (by kernel_rfl))⟩
  t0 := Tryz.underlying0
  a0 := Tryz.isAgg0
  z0 := Tryz.sizeOf0
  v0 := Tryz.zeroValue0
  t3 := Tryz.underlying3
  a3 := Tryz.isAgg3
  z3 := Tryz.sizeOf3
  v3 := Tryz.zeroValue3
  t4 := Tryz.underlying4
  a4 := Tryz.isAgg4
  z4 := Tryz.sizeOf4
  v4 := Tryz.zeroValue4
  t5 := Tryz.underlying5
  a5 := Tryz.isAgg5
  z5 := Tryz.sizeOf5
  v5 := Tryz.zeroValue5
  t9 := Tryz.underlying9
  a9 := Tryz.isAgg9
  z9 := Tryz.sizeOf9
  v9 := Tryz.zeroValue9
  t26 := Tryz.underlying50
  a26 := Tryz.isAgg50
  z26 := Tryz.sizeOf50
  v26 := Tryz.zeroValue50
  t27 := Tryz.underlying50
  a27 := Tryz.isAgg50
  z27 := Tryz.sizeOf50
  v27 := Tryz.zeroValue50
  t29 := Tryz.underlying9
  a29 := Tryz.isAgg9
  z29 := Tryz.sizeOf9
  v29 := Tryz.zeroValue9
  t32 := Tryz.underlying143
  a32 := Tryz.isAgg143
  z32 := Tryz.sizeOf143
  v32 := Tryz.zeroValue143
  t35 := Tryz.underlying254
  a35 := Tryz.isAgg254
  z35 := Tryz.sizeOf254
  v35 := Tryz.zeroValue254
  t36 := Tryz.underlying255
  a36 := Tryz.isAgg255
  z36 := Tryz.sizeOf255
  v36 := Tryz.zeroValue255
  t41 := Tryz.underlying227
  a41 := Tryz.isAgg227
  z41 := Tryz.sizeOf227
  v41 := Tryz.zeroValue227
  t44 := Tryz.underlying158
  a44 := Tryz.isAgg158
  z44 := Tryz.sizeOf158
  v44 := Tryz.zeroValue158
  t46 := Tryz.underlying78
  a46 := Tryz.isAgg78
  z46 := Tryz.sizeOf78
  v46 := Tryz.zeroValue78
  t53 := Tryz.underlying279
  a53 := Tryz.isAgg279
  z53 := Tryz.sizeOf279
  v53 := Tryz.zeroValue279
  t57 := Tryz.underlying282
  a57 := Tryz.isAgg282
  z57 := Tryz.sizeOf282
  v57 := Tryz.zeroValue282
  t63 := Tryz.underlying296
  a63 := Tryz.isAgg296
  z63 := Tryz.sizeOf296
  v63 := Tryz.zeroValue296
  t64 := Tryz.underlying297
  a64 := Tryz.isAgg297
  z64 := Tryz.sizeOf297
  v64 := Tryz.zeroValue297 }

/-- slices.Sort's two contracts at this dump, at the fence that asks nothing. -/
theorem Tryz.sorts72 (m : Nat) : AnyZ.SortsIn Tryz.prog Tryz.sorted72_ren Fence.wide m :=
  ⟨fun blk off cap ss W hH hblk hsz => callsIn_wide.2 (AnyM.slices_Sort_string Tryz.sort128 blk off cap ss W hH hblk hsz),
   fun p cap W => callsIn_wide.2 (AnyM.slices_Sort_string_none Tryz.sort128 p cap W)⟩

/-- **maps.Keys[map[string]*giro/disk.file,string,*giro/disk.file], at whatever map, the nil one too:** a function value over ONE NEW BLOCK, which holds the map. -/
theorem Tryz.maps_Keys_73 (mb : Option Nat) (W : World) : CallsIn Fence.wide 5 Tryz.prog 73 #[.map mb] W fun e w' => e = .returned (.func (.func 129) #[] #[.pointer (some ⟨W.heap.size, 0, none⟩)]) ∧ w' = W.alloc (.cells #[.map mb] 98) :=
  AnyZ.keys_in Tryz.keys73 Fence.wide 5 trivial rfl mb W

set_option maxHeartbeats 1000000 in
/-- **slices.Sorted[string] AT WHAT maps.Keys[map[string]*giro/disk.file,string,*giro/disk.file] HANDED BACK FOR A MAP THAT IS NOT nil** ('w': the world AHEAD of maps.Keys' call): A NEW SLICE THAT HOLDS THE MAP's KEYS, SORTED; nil just where it has none; nothing that lay before has turned. -/
theorem Tryz.slices_Sorted_keys_72_73 {H : Type} (b nn : Nat) (D0 : DataW H) (R : Value → Option (DataW H × List MemPlace)) (w : World) (hown : w.ownsMap Tryz.prog 9 R b nn D0) (hmax : Maps.size D0 ≤ maxLen) (hbytes : Maps.size D0 * 16 ≤ 140737488355328) :
    CallsIn Fence.wide 5 Tryz.prog 72 #[.func (.func 129) #[] #[.pointer (some ⟨w.heap.size, 0, none⟩)]] (w.alloc (.cells #[.map (some b)] 98)) fun e w' => ∃ (v : Value) (ss : List (List UInt8)), e = .returned v ∧ ss.Perm (strKeys D0) ∧
      w'.ownsRow (w.alloc (.cells #[.map (some b)] 98)).heap.size 9 1 v ss.length ((ss.mergeSort (fun x y => decide (x ≤ y))).map encStr) ∧ (v = .slice none 0 0 ↔ ss = []) ∧ Below (w.alloc (.cells #[.map (some b)] 98)).heap.size (w.alloc (.cells #[.map (some b)] 98)) w' := by
  have hbl := hown.lt
  have hseq : SeqGives Fence.wide 2 Tryz.prog 129 #[.pointer (some ⟨w.heap.size, 0, none⟩)] encStr (fun ss => ss.Perm (strKeys D0)) (Maps.size D0) (w.alloc (.cells #[.map (some b)] 98)) :=
    AnyZ.keys_gives (ρ := Tryz.keys73_ren) { Tryz.keys73 with } Fence.wide _ trivial rfl (by omega) w.heap.size b nn D0 _ (by simp) (by simp) (by
      obtain ⟨es, clock, hb, Ft, hs, hD⟩ := hown
      exact ⟨es, clock, (Below.heap_alloc _ _ b hbl).trans hb, Ft, hs, hD⟩)
  exact AnyZ.sorted_in Tryz.sorted72 Fence.wide 5 trivial trivial trivial trivial rfl (by omega) (Tryz.sorts72 _) (enters_of Tryz.func128 (by kernel_rfl) rfl) 129 #[.pointer (some ⟨w.heap.size, 0, none⟩)] trivial (enters_of Tryz.func129 (by kernel_rfl) rfl) _ _ hmax hbytes _ hseq

set_option maxHeartbeats 1000000 in
/-- **.. AND FOR THE nil MAP: nil.** -/
theorem Tryz.slices_Sorted_keys_nil_72_73 (w : World) :
    CallsIn Fence.wide 5 Tryz.prog 72 #[.func (.func 129) #[] #[.pointer (some ⟨w.heap.size, 0, none⟩)]] (w.alloc (.cells #[.map none] 98)) fun e w' => ∃ (v : Value) (ss : List (List UInt8)), e = .returned v ∧ ss = [] ∧
      w'.ownsRow (w.alloc (.cells #[.map none] 98)).heap.size 9 1 v ss.length ((ss.mergeSort (fun x y => decide (x ≤ y))).map encStr) ∧ (v = .slice none 0 0 ↔ ss = []) ∧ Below (w.alloc (.cells #[.map none] 98)).heap.size (w.alloc (.cells #[.map none] 98)) w' := by
  have hseq : SeqGives Fence.wide 2 Tryz.prog 129 #[.pointer (some ⟨w.heap.size, 0, none⟩)] encStr (fun ss : List (List UInt8) => ss = []) 0 (w.alloc (.cells #[.map none] 98)) :=
    AnyZ.keys_gives_nil (ρ := Tryz.keys73_ren) { Tryz.keys73 with } Fence.wide _ trivial rfl w.heap.size _ (by simp) (by simp)
  exact AnyZ.sorted_in Tryz.sorted72 Fence.wide 5 trivial trivial trivial trivial rfl (by omega) (Tryz.sorts72 _) (enters_of Tryz.func128 (by kernel_rfl) rfl) 129 #[.pointer (some ⟨w.heap.size, 0, none⟩)] trivial (enters_of Tryz.func129 (by kernel_rfl) rfl) _ 0 (Nat.zero_le _) (by omega) _ hseq

end Go.Proofs
