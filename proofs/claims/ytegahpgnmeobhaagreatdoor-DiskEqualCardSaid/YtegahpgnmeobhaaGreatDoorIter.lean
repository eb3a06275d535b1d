/-
  slices.Sorted(maps.Keys(m)) in this program, in plain declarations (by wip/iterplain.py off the kit's lay-iter.mjs).
-/
import Derived.Shelf.SlIter.Nil
import Derived.Shelf.SortM.Plain
import Derived.Shelf.SortM.SortNone
import Derived.Test.YtegahpgnmeobhaaGreatDoorProg
namespace Go.Proofs
open Go.RowKit Go.Maps Go.Sort Go.Shelf

def Tryz.keys41_ren : Go.Shelf.Ren := ⟨fun | 7 => 41 | 10 => 74 | n => n, fun | 23 => 70 | 26 => 9 | 3 => 80 | 28 => 78 | 0 => 0 | 27 => 77 | 33 => 67 | 4 => 4 | n => n, fun | n => n⟩
set_option maxRecDepth 100000 in
theorem Tryz.keys41 : SlLaysZ.n7 Tryz.prog Tryz.keys41_ren := {
  mixed := by kernel_rfl
  f7 := ⟨ "maps.Keys[map[string]*giro/disk.file,string,*giro/disk.file]", of_decide_eq_true (by kernel_rfl), Tryz.func41.trans (congrArg some (by kernel_rfl))⟩
  f10 := ⟨ "maps.Keys[map[string]*giro/disk.file,string,*giro/disk.file]$1", of_decide_eq_true (by kernel_rfl), Tryz.func74.trans (congrArg some (by kernel_rfl))⟩
  t0 := Tryz.underlying0
  a0 := Tryz.isAgg0
  z0 := Tryz.sizeOf0
  v0 := Tryz.zeroValue0
  t4 := Tryz.underlying4
  a4 := Tryz.isAgg4
  z4 := Tryz.sizeOf4
  v4 := Tryz.zeroValue4
  t23 := Tryz.underlying70
  a23 := Tryz.isAgg70
  z23 := Tryz.sizeOf70
  v23 := Tryz.zeroValue70
  t26 := Tryz.underlying9
  a26 := Tryz.isAgg9
  z26 := Tryz.sizeOf9
  v26 := Tryz.zeroValue9
  t27 := Tryz.underlying77
  a27 := Tryz.isAgg77
  z27 := Tryz.sizeOf77
  v27 := Tryz.zeroValue77
  t28 := Tryz.underlying78
  a28 := Tryz.isAgg78
  z28 := Tryz.sizeOf78
  v28 := Tryz.zeroValue78
  t33 := Tryz.underlying67
  a33 := Tryz.isAgg67
  z33 := Tryz.sizeOf67
  v33 := Tryz.zeroValue67 }
def Tryz.sorted40_ren : Go.Shelf.Ren := ⟨fun | 6 => 40 | 8 => 72 | 9 => 73 | 11 => 90 | 13 => 92 | 12 => 91 | 23 => 109 | 24 => 110 | 14 => 100 | 15 => 101 | 16 => 102 | 17 => 103 | 18 => 104 | 19 => 105 | 20 => 106 | 21 => 107 | 22 => 108 | 25 => 115 | 26 => 116 | 27 => 117 | 28 => 118 | 29 => 119 | 30 => 120 | 31 => 124 | n => n, fun | 26 => 9 | 28 => 78 | 24 => 43 | 0 => 0 | 3 => 3 | 37 => 91 | 48 => 137 | 50 => 139 | 4 => 4 | 40 => 129 | 39 => 128 | 45 => 134 | 5 => 5 | 9 => 9 | 51 => 144 | 55 => 148 | 57 => 151 | 58 => 152 | 33 => 67 | n => n, fun | n => n⟩
set_option maxRecDepth 100000 in
theorem Tryz.sorted40 : SlLaysZ.n6 Tryz.prog Tryz.sorted40_ren := {
  mixed := by kernel_rfl
  f6 := ⟨ "slices.Sorted[string]", of_decide_eq_true (by kernel_rfl), Tryz.func40.trans (congrArg some (by kernel_rfl))⟩
  f8 := ⟨ "slices.Collect[string]", of_decide_eq_true (by kernel_rfl), Tryz.func72.trans (congrArg some (by kernel_rfl))⟩
  f11 := ⟨ "slices.AppendSeq[[]string,string]", of_decide_eq_true (by kernel_rfl), Tryz.func90.trans (congrArg some (by kernel_rfl))⟩
  t0 := Tryz.underlying0
  a0 := Tryz.isAgg0
  z0 := Tryz.sizeOf0
  v0 := Tryz.zeroValue0
  t24 := Tryz.underlying43
  a24 := Tryz.isAgg43
  z24 := Tryz.sizeOf43
  v24 := Tryz.zeroValue43
  t26 := Tryz.underlying9
  a26 := Tryz.isAgg9
  z26 := Tryz.sizeOf9
  v26 := Tryz.zeroValue9
  t28 := Tryz.underlying78
  a28 := Tryz.isAgg78
  z28 := Tryz.sizeOf78
  v28 := Tryz.zeroValue78
  i26 := by kernel_rfl }
def Tryz.sort73_ren : Go.Shelf.Ren := ⟨fun | 6 => 73 | 8 => 92 | 9 => 91 | 19 => 109 | 20 => 110 | 21 => 100 | 22 => 101 | 23 => 102 | 24 => 103 | 25 => 104 | 26 => 105 | 27 => 106 | 28 => 107 | 29 => 108 | 36 => 115 | 31 => 116 | 32 => 117 | 37 => 118 | 38 => 119 | 39 => 120 | 41 => 124 | n => n, fun | 27 => 43 | 29 => 9 | 3 => 3 | 32 => 91 | 26 => 43 | 0 => 0 | 44 => 137 | 46 => 139 | 4 => 4 | 36 => 129 | 35 => 128 | 41 => 134 | 5 => 5 | 9 => 9 | 53 => 144 | 57 => 148 | 63 => 151 | 64 => 152 | n => n, fun | n => n⟩
set_option maxRecDepth 100000 in
theorem Tryz.sort73 : SlLaysM.n6 Tryz.prog Tryz.sort73_ren := {
  mixed := by kernel_rfl
  f6 := ⟨ "slices.Sort[[]string,string]", of_decide_eq_true (by kernel_rfl), Tryz.func73.trans (congrArg some (by kernel_rfl))⟩
  f8 := Tryz.func92.trans (congrArg some (by kernel_rfl))
  f9 := ⟨ "slices.pdqsortOrdered[string]", of_decide_eq_true (by kernel_rfl), Tryz.func91.trans (congrArg some (by kernel_rfl))⟩
  f19 := Tryz.func109.trans (congrArg some (by kernel_rfl))
  f20 := Tryz.func110.trans (congrArg some (by kernel_rfl))
  f21 := ⟨ "slices.insertionSortOrdered[string]", of_decide_eq_true (by kernel_rfl), Tryz.func100.trans (congrArg some (by kernel_rfl))⟩
  f22 := ⟨ "slices.heapSortOrdered[string]", of_decide_eq_true (by kernel_rfl), Tryz.func101.trans (congrArg some (by kernel_rfl))⟩
  f23 := ⟨ "slices.breakPatternsOrdered[string]", of_decide_eq_true (by kernel_rfl), Tryz.func102.trans (congrArg some (by kernel_rfl))⟩
  f24 := ⟨ "slices.choosePivotOrdered[string]", of_decide_eq_true (by kernel_rfl), Tryz.func103.trans (congrArg some (by kernel_rfl))⟩
  f25 := ⟨ "slices.reverseRangeOrdered[string]", of_decide_eq_true (by kernel_rfl), Tryz.func104.trans (congrArg some (by kernel_rfl))⟩
  f26 := ⟨ "slices.partialInsertionSortOrdered[string]", of_decide_eq_true (by kernel_rfl), Tryz.func105.trans (congrArg some (by kernel_rfl))⟩
  f27 := ⟨ "cmp.Less[string]", of_decide_eq_true (by kernel_rfl), Tryz.func106.trans (congrArg some (by kernel_rfl))⟩
  f28 := ⟨ "slices.partitionEqualOrdered[string]", of_decide_eq_true (by kernel_rfl), Tryz.func107.trans (congrArg some (by kernel_rfl))⟩
  f29 := ⟨ "slices.partitionOrdered[string]", of_decide_eq_true (by kernel_rfl), Tryz.func108.trans (congrArg some (by kernel_rfl))⟩
  f31 := Tryz.func116.trans (congrArg some (by kernel_rfl))
  f32 := Tryz.func117.trans (congrArg some (by kernel_rfl))
  f36 := ⟨ "slices.siftDownOrdered[string]", of_decide_eq_true (by kernel_rfl), Tryz.func115.trans (congrArg some (by kernel_rfl))⟩
  f37 := ⟨ "slices.medianAdjacentOrdered[string]", of_decide_eq_true (by kernel_rfl), Tryz.func118.trans (congrArg some (by kernel_rfl))⟩
  f38 := ⟨ "slices.medianOrdered[string]", of_decide_eq_true (by kernel_rfl), Tryz.func119.trans (congrArg some (by kernel_rfl))⟩
  f39 := ⟨ "cmp.isNaN[string]", of_decide_eq_true (by kernel_rfl), Tryz.func120.trans (congrArg some (by kernel_rfl))⟩
  f41 := ⟨ "slices.order2Ordered[string]", of_decide_eq_true (by kernel_rfl), Tryz.func124.trans (congrArg some (by kernel_rfl))⟩
  t0 := Tryz.underlying0
  a0 := Tryz.isAgg0
  z0 := Tryz.sizeOf0
  v0 := Tryz.zeroValue0
  t3 := Tryz.underlying3
  a3 := Tryz.isAgg3
  z3 := Tryz.sizeOf3
  v3 := Tryz.zeroValue3
  t4 := Tryz.underlying4
  a4 := Tryz.isAgg4
  z4 := Tryz.sizeOf4
  v4 := Tryz.zeroValue4
  t5 := Tryz.underlying5
  a5 := Tryz.isAgg5
  z5 := Tryz.sizeOf5
  v5 := Tryz.zeroValue5
  t9 := Tryz.underlying9
  a9 := Tryz.isAgg9
  z9 := Tryz.sizeOf9
  v9 := Tryz.zeroValue9
  t26 := Tryz.underlying43
  a26 := Tryz.isAgg43
  z26 := Tryz.sizeOf43
  v26 := Tryz.zeroValue43
  t27 := Tryz.underlying43
  a27 := Tryz.isAgg43
  z27 := Tryz.sizeOf43
  v27 := Tryz.zeroValue43
  t29 := Tryz.underlying9
  a29 := Tryz.isAgg9
  z29 := Tryz.sizeOf9
  v29 := Tryz.zeroValue9
  t32 := Tryz.underlying91
  a32 := Tryz.isAgg91
  z32 := Tryz.sizeOf91
  v32 := Tryz.zeroValue91
  t35 := Tryz.underlying128
  a35 := Tryz.isAgg128
  z35 := Tryz.sizeOf128
  v35 := Tryz.zeroValue128
  t36 := Tryz.underlying129
  a36 := Tryz.isAgg129
  z36 := Tryz.sizeOf129
  v36 := Tryz.zeroValue129
  t41 := Tryz.underlying134
  a41 := Tryz.isAgg134
  z41 := Tryz.sizeOf134
  v41 := Tryz.zeroValue134
  t44 := Tryz.underlying137
  a44 := Tryz.isAgg137
  z44 := Tryz.sizeOf137
  v44 := Tryz.zeroValue137
  t46 := Tryz.underlying139
  a46 := Tryz.isAgg139
  z46 := Tryz.sizeOf139
  v46 := Tryz.zeroValue139
  t53 := Tryz.underlying144
  a53 := Tryz.isAgg144
  z53 := Tryz.sizeOf144
  v53 := Tryz.zeroValue144
  t57 := Tryz.underlying148
  a57 := Tryz.isAgg148
  z57 := Tryz.sizeOf148
  v57 := Tryz.zeroValue148
  t63 := Tryz.underlying151
  a63 := Tryz.isAgg151
  z63 := Tryz.sizeOf151
  v63 := Tryz.zeroValue151
  t64 := Tryz.underlying152
  a64 := Tryz.isAgg152
  z64 := Tryz.sizeOf152
  v64 := Tryz.zeroValue152 }

/-- slices.Sort's two contracts at this dump, at the fence that asks nothing. -/
theorem Tryz.sorts40 (m : Nat) : AnyZ.SortsIn Tryz.prog Tryz.sorted40_ren Fence.wide m :=
  ⟨fun blk off cap ss W hH hblk hsz => callsIn_wide.2 (AnyM.slices_Sort_string Tryz.sort73 blk off cap ss W hH hblk hsz),
   fun p cap W => callsIn_wide.2 (AnyM.slices_Sort_string_none Tryz.sort73 p cap W)⟩

/-- **maps.Keys[map[string]*giro/disk.file,string,*giro/disk.file], at whatever map, the nil one too:** a function value over ONE NEW BLOCK, which holds the map. -/
theorem Tryz.maps_Keys_41 (mb : Option Nat) (W : World) : CallsIn Fence.wide 5 Tryz.prog 41 #[.map mb] W fun e w' => e = .returned (.func (.func 74) #[] #[.pointer (some ⟨W.heap.size, 0, none⟩)]) ∧ w' = W.alloc (.cells #[.map mb] 70) :=
  AnyZ.keys_in Tryz.keys41 Fence.wide 5 trivial rfl mb W

set_option maxHeartbeats 1000000 in
/-- **slices.Sorted[string] AT WHAT maps.Keys[map[string]*giro/disk.file,string,*giro/disk.file] HANDED BACK FOR A MAP THAT IS NOT nil** ('w': the world AHEAD of maps.Keys' call): A NEW SLICE THAT HOLDS THE MAP's KEYS, SORTED; nil just where it has none; nothing that lay before has turned. -/
theorem Tryz.slices_Sorted_keys_40_41 {H : Type} (b nn : Nat) (D0 : DataW H) (R : Value → Option (DataW H × List MemPlace)) (w : World) (hown : w.ownsMap Tryz.prog 9 R b nn D0) (hmax : Maps.size D0 ≤ maxLen) (hbytes : Maps.size D0 * 16 ≤ 140737488355328) :
    CallsIn Fence.wide 5 Tryz.prog 40 #[.func (.func 74) #[] #[.pointer (some ⟨w.heap.size, 0, none⟩)]] (w.alloc (.cells #[.map (some b)] 70)) fun e w' => ∃ (v : Value) (ss : List (List UInt8)), e = .returned v ∧ ss.Perm (strKeys D0) ∧
      w'.ownsRow (w.alloc (.cells #[.map (some b)] 70)).heap.size 9 1 v ss.length ((ss.mergeSort (fun x y => decide (x ≤ y))).map encStr) ∧ (v = .slice none 0 0 ↔ ss = []) ∧ Below (w.alloc (.cells #[.map (some b)] 70)).heap.size (w.alloc (.cells #[.map (some b)] 70)) w' := by
  have hbl := hown.lt
  have hseq : SeqGives Fence.wide 2 Tryz.prog 74 #[.pointer (some ⟨w.heap.size, 0, none⟩)] encStr (fun ss => ss.Perm (strKeys D0)) (Maps.size D0) (w.alloc (.cells #[.map (some b)] 70)) :=
    AnyZ.keys_gives (ρ := Tryz.keys41_ren) { Tryz.keys41 with } Fence.wide _ trivial rfl (by omega) w.heap.size b nn D0 _ (by simp) (by simp) (by
      obtain ⟨es, clock, hb, Ft, hs, hD⟩ := hown
      exact ⟨es, clock, (Below.heap_alloc _ _ b hbl).trans hb, Ft, hs, hD⟩)
  exact AnyZ.sorted_in Tryz.sorted40 Fence.wide 5 trivial trivial trivial trivial rfl (by omega) (Tryz.sorts40 _) (enters_of Tryz.func73 (by kernel_rfl) rfl) 74 #[.pointer (some ⟨w.heap.size, 0, none⟩)] trivial (enters_of Tryz.func74 (by kernel_rfl) rfl) _ _ hmax hbytes _ hseq

set_option maxHeartbeats 1000000 in
/-- **.. AND FOR THE nil MAP: nil.** -/
theorem Tryz.slices_Sorted_keys_nil_40_41 (w : World) :
    CallsIn Fence.wide 5 Tryz.prog 40 #[.func (.func 74) #[] #[.pointer (some ⟨w.heap.size, 0, none⟩)]] (w.alloc (.cells #[.map none] 70)) fun e w' => ∃ (v : Value) (ss : List (List UInt8)), e = .returned v ∧ ss = [] ∧
      w'.ownsRow (w.alloc (.cells #[.map none] 70)).heap.size 9 1 v ss.length ((ss.mergeSort (fun x y => decide (x ≤ y))).map encStr) ∧ (v = .slice none 0 0 ↔ ss = []) ∧ Below (w.alloc (.cells #[.map none] 70)).heap.size (w.alloc (.cells #[.map none] 70)) w' := by
  have hseq : SeqGives Fence.wide 2 Tryz.prog 74 #[.pointer (some ⟨w.heap.size, 0, none⟩)] encStr (fun ss : List (List UInt8) => ss = []) 0 (w.alloc (.cells #[.map none] 70)) :=
    AnyZ.keys_gives_nil (ρ := Tryz.keys41_ren) { Tryz.keys41 with } Fence.wide _ trivial rfl w.heap.size _ (by simp) (by simp)
  exact AnyZ.sorted_in Tryz.sorted40 Fence.wide 5 trivial trivial trivial trivial rfl (by omega) (Tryz.sorts40 _) (enters_of Tryz.func73 (by kernel_rfl) rfl) 74 #[.pointer (some ⟨w.heap.size, 0, none⟩)] trivial (enters_of Tryz.func74 (by kernel_rfl) rfl) _ 0 (Nat.zero_le _) (by omega) _ hseq

end Go.Proofs
