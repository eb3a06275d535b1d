/-
  slices.Sorted(maps.Keys(m)) in this program, in plain declarations (by wip/iterplain.py off the kit's lay-iter.mjs).
-/
import Derived.Shelf.SlIter.Nil
import Derived.Shelf.SortM.Plain
import Derived.Shelf.SortM.SortNone
import Derived.Test.YtegahpgnmeobhaaDoorProg
namespace Go.Proofs
open Go.RowKit Go.Maps Go.Sort Go.Shelf

def Tryd.keys26_ren : Go.Shelf.Ren := ⟨fun | 7 => 26 | 10 => 38 | n => n, fun | 23 => 35 | 26 => 9 | 3 => 40 | 28 => 53 | 0 => 0 | 27 => 52 | 33 => 39 | 4 => 4 | n => n, fun | n => n⟩
set_option maxRecDepth 100000 in
theorem Tryd.keys26 : SlLaysZ.n7 Tryd.prog Tryd.keys26_ren := {
  mixed := by kernel_rfl
  f7 := ⟨ "maps.Keys[map[string]*giro/disk.file,string,*giro/disk.file]", of_decide_eq_true (by kernel_rfl), Tryd.func26.trans (congrArg some (by kernel_rfl))⟩
  f10 := ⟨ "maps.Keys[map[string]*giro/disk.file,string,*giro/disk.file]$1", of_decide_eq_true (by kernel_rfl), Tryd.func38.trans (congrArg some (by kernel_rfl))⟩
  t0 := Tryd.underlying0
  a0 := Tryd.isAgg0
  z0 := Tryd.sizeOf0
  v0 := Tryd.zeroValue0
  t4 := Tryd.underlying4
  a4 := Tryd.isAgg4
  z4 := Tryd.sizeOf4
  v4 := Tryd.zeroValue4
  t23 := Tryd.underlying35
  a23 := Tryd.isAgg35
  z23 := Tryd.sizeOf35
  v23 := Tryd.zeroValue35
  t26 := Tryd.underlying9
  a26 := Tryd.isAgg9
  z26 := Tryd.sizeOf9
  v26 := Tryd.zeroValue9
  t27 := Tryd.underlying52
  a27 := Tryd.isAgg52
  z27 := Tryd.sizeOf52
  v27 := Tryd.zeroValue52
  t28 := Tryd.underlying53
  a28 := Tryd.isAgg53
  z28 := Tryd.sizeOf53
  v28 := Tryd.zeroValue53
  t33 := Tryd.underlying39
  a33 := Tryd.isAgg39
  z33 := Tryd.sizeOf39
  v33 := Tryd.zeroValue39 }
def Tryd.sorted25_ren : Go.Shelf.Ren := ⟨fun | 6 => 25 | 8 => 36 | 9 => 37 | 11 => 48 | 13 => 50 | 12 => 49 | 23 => 64 | 24 => 65 | 14 => 55 | 15 => 56 | 16 => 57 | 17 => 58 | 18 => 59 | 19 => 60 | 20 => 61 | 21 => 62 | 22 => 63 | 25 => 69 | 26 => 70 | 27 => 71 | 28 => 72 | 29 => 73 | 30 => 74 | 31 => 79 | n => n, fun | 26 => 9 | 28 => 53 | 24 => 50 | 0 => 0 | 3 => 3 | 37 => 75 | 48 => 90 | 50 => 92 | 4 => 4 | 40 => 82 | 39 => 81 | 45 => 87 | 5 => 5 | 9 => 9 | 51 => 94 | 55 => 98 | 57 => 107 | 58 => 108 | 33 => 39 | n => n, fun | n => n⟩
set_option maxRecDepth 100000 in
theorem Tryd.sorted25 : SlLaysZ.n6 Tryd.prog Tryd.sorted25_ren := {
  mixed := by kernel_rfl
  f6 := ⟨ "slices.Sorted[string]", of_decide_eq_true (by kernel_rfl), Tryd.func25.trans (congrArg some (by kernel_rfl))⟩
  f8 := ⟨ "slices.Collect[string]", of_decide_eq_true (by kernel_rfl), Tryd.func36.trans (congrArg some (by kernel_rfl))⟩
  f11 := ⟨ "slices.AppendSeq[[]string,string]", of_decide_eq_true (by kernel_rfl), Tryd.func48.trans (congrArg some (by kernel_rfl))⟩
  t0 := Tryd.underlying0
  a0 := Tryd.isAgg0
  z0 := Tryd.sizeOf0
  v0 := Tryd.zeroValue0
  t24 := Tryd.underlying50
  a24 := Tryd.isAgg50
  z24 := Tryd.sizeOf50
  v24 := Tryd.zeroValue50
  t26 := Tryd.underlying9
  a26 := Tryd.isAgg9
  z26 := Tryd.sizeOf9
  v26 := Tryd.zeroValue9
  t28 := Tryd.underlying53
  a28 := Tryd.isAgg53
  z28 := Tryd.sizeOf53
  v28 := Tryd.zeroValue53
  i26 := by kernel_rfl }
def Tryd.sort37_ren : Go.Shelf.Ren := ⟨fun | 6 => 37 | 8 => 50 | 9 => 49 | 19 => 64 | 20 => 65 | 21 => 55 | 22 => 56 | 23 => 57 | 24 => 58 | 25 => 59 | 26 => 60 | 27 => 61 | 28 => 62 | 29 => 63 | 36 => 69 | 31 => 70 | 32 => 71 | 37 => 72 | 38 => 73 | 39 => 74 | 41 => 79 | n => n, fun | 27 => 50 | 29 => 9 | 3 => 3 | 32 => 75 | 26 => 50 | 0 => 0 | 44 => 90 | 46 => 92 | 4 => 4 | 36 => 82 | 35 => 81 | 41 => 87 | 5 => 5 | 9 => 9 | 53 => 94 | 57 => 98 | 63 => 107 | 64 => 108 | n => n, fun | n => n⟩
set_option maxRecDepth 100000 in
theorem Tryd.sort37 : SlLaysM.n6 Tryd.prog Tryd.sort37_ren := {
  mixed := by kernel_rfl
  f6 := ⟨ "slices.Sort[[]string,string]", of_decide_eq_true (by kernel_rfl), Tryd.func37.trans (congrArg some (by kernel_rfl))⟩
  f8 := Tryd.func50.trans (congrArg some (by kernel_rfl))
  f9 := ⟨ "slices.pdqsortOrdered[string]", of_decide_eq_true (by kernel_rfl), Tryd.func49.trans (congrArg some (by kernel_rfl))⟩
  f19 := Tryd.func64.trans (congrArg some (by kernel_rfl))
  f20 := Tryd.func65.trans (congrArg some (by kernel_rfl))
  f21 := ⟨ "slices.insertionSortOrdered[string]", of_decide_eq_true (by kernel_rfl), Tryd.func55.trans (congrArg some (by kernel_rfl))⟩
  f22 := ⟨ "slices.heapSortOrdered[string]", of_decide_eq_true (by kernel_rfl), Tryd.func56.trans (congrArg some (by kernel_rfl))⟩
  f23 := ⟨ "slices.breakPatternsOrdered[string]", of_decide_eq_true (by kernel_rfl), Tryd.func57.trans (congrArg some (by kernel_rfl))⟩
  f24 := ⟨ "slices.choosePivotOrdered[string]", of_decide_eq_true (by kernel_rfl), Tryd.func58.trans (congrArg some (by kernel_rfl))⟩
  f25 := ⟨ "slices.reverseRangeOrdered[string]", of_decide_eq_true (by kernel_rfl), Tryd.func59.trans (congrArg some (by kernel_rfl))⟩
  f26 := ⟨ "slices.partialInsertionSortOrdered[string]", of_decide_eq_true (by kernel_rfl), Tryd.func60.trans (congrArg some (by kernel_rfl))⟩
  f27 := ⟨ "cmp.Less[string]", of_decide_eq_true (by kernel_rfl), Tryd.func61.trans (congrArg some (by kernel_rfl))⟩
  f28 := ⟨ "slices.partitionEqualOrdered[string]", of_decide_eq_true (by kernel_rfl), Tryd.func62.trans (congrArg some (by kernel_rfl))⟩
  f29 := ⟨ "slices.partitionOrdered[string]", of_decide_eq_true (by kernel_rfl), Tryd.func63.trans (congrArg some (by kernel_rfl))⟩
  f31 := Tryd.func70.trans (congrArg some (by kernel_rfl))
  f32 := Tryd.func71.trans (congrArg some (by kernel_rfl))
  f36 := ⟨ "slices.siftDownOrdered[string]", of_decide_eq_true (by kernel_rfl), Tryd.func69.trans (congrArg some (by kernel_rfl))⟩
  f37 := ⟨ "slices.medianAdjacentOrdered[string]", of_decide_eq_true (by kernel_rfl), Tryd.func72.trans (congrArg some (by kernel_rfl))⟩
  f38 := ⟨ "slices.medianOrdered[string]", of_decide_eq_true (by kernel_rfl), Tryd.func73.trans (congrArg some (by kernel_rfl))⟩
  f39 := ⟨ "cmp.isNaN[string]", of_decide_eq_true (by kernel_rfl), Tryd.func74.trans (congrArg some (by kernel_rfl))⟩
  f41 := ⟨ "slices.order2Ordered[string]", of_decide_eq_true (by kernel_rfl), Tryd.func79.trans (congrArg some (by kernel_rfl))⟩
  t0 := Tryd.underlying0
  a0 := Tryd.isAgg0
  z0 := Tryd.sizeOf0
  v0 := Tryd.zeroValue0
  t3 := Tryd.underlying3
  a3 := Tryd.isAgg3
  z3 := Tryd.sizeOf3
  v3 := Tryd.zeroValue3
  t4 := Tryd.underlying4
  a4 := Tryd.isAgg4
  z4 := Tryd.sizeOf4
  v4 := Tryd.zeroValue4
  t5 := Tryd.underlying5
  a5 := Tryd.isAgg5
  z5 := Tryd.sizeOf5
  v5 := Tryd.zeroValue5
  t9 := Tryd.underlying9
  a9 := Tryd.isAgg9
  z9 := Tryd.sizeOf9
  v9 := Tryd.zeroValue9
  t26 := Tryd.underlying50
  a26 := Tryd.isAgg50
  z26 := Tryd.sizeOf50
  v26 := Tryd.zeroValue50
  t27 := Tryd.underlying50
  a27 := Tryd.isAgg50
  z27 := Tryd.sizeOf50
  v27 := Tryd.zeroValue50
  t29 := Tryd.underlying9
  a29 := Tryd.isAgg9
  z29 := Tryd.sizeOf9
  v29 := Tryd.zeroValue9
  t32 := Tryd.underlying75
  a32 := Tryd.isAgg75
  z32 := Tryd.sizeOf75
  v32 := Tryd.zeroValue75
  t35 := Tryd.underlying81
  a35 := Tryd.isAgg81
  z35 := Tryd.sizeOf81
  v35 := Tryd.zeroValue81
  t36 := Tryd.underlying82
  a36 := Tryd.isAgg82
  z36 := Tryd.sizeOf82
  v36 := Tryd.zeroValue82
  t41 := Tryd.underlying87
  a41 := Tryd.isAgg87
  z41 := Tryd.sizeOf87
  v41 := Tryd.zeroValue87
  t44 := Tryd.underlying90
  a44 := Tryd.isAgg90
  z44 := Tryd.sizeOf90
  v44 := Tryd.zeroValue90
  t46 := Tryd.underlying92
  a46 := Tryd.isAgg92
  z46 := Tryd.sizeOf92
  v46 := Tryd.zeroValue92
  t53 := Tryd.underlying94
  a53 := Tryd.isAgg94
  z53 := Tryd.sizeOf94
  v53 := Tryd.zeroValue94
  t57 := Tryd.underlying98
  a57 := Tryd.isAgg98
  z57 := Tryd.sizeOf98
  v57 := Tryd.zeroValue98
  t63 := Tryd.underlying107
  a63 := Tryd.isAgg107
  z63 := Tryd.sizeOf107
  v63 := Tryd.zeroValue107
  t64 := Tryd.underlying108
  a64 := Tryd.isAgg108
  z64 := Tryd.sizeOf108
  v64 := Tryd.zeroValue108 }

/-- slices.Sort's two contracts at this dump, at the fence that asks nothing. -/
theorem Tryd.sorts25 (m : Nat) : AnyZ.SortsIn Tryd.prog Tryd.sorted25_ren Fence.wide m :=
  ⟨fun blk off cap ss W hH hblk hsz => callsIn_wide.2 (AnyM.slices_Sort_string Tryd.sort37 blk off cap ss W hH hblk hsz),
   fun p cap W => callsIn_wide.2 (AnyM.slices_Sort_string_none Tryd.sort37 p cap W)⟩

/-- **maps.Keys[map[string]*giro/disk.file,string,*giro/disk.file], at whatever map, the nil one too:** a function value over ONE NEW BLOCK, which holds the map. -/
theorem Tryd.maps_Keys_26 (mb : Option Nat) (W : World) : CallsIn Fence.wide 5 Tryd.prog 26 #[.map mb] W fun e w' => e = .returned (.func (.func 38) #[] #[.pointer (some ⟨W.heap.size, 0, none⟩)]) ∧ w' = W.alloc (.cells #[.map mb] 35) :=
  AnyZ.keys_in Tryd.keys26 Fence.wide 5 trivial rfl mb W

set_option maxHeartbeats 1000000 in
/-- **slices.Sorted[string] AT WHAT maps.Keys[map[string]*giro/disk.file,string,*giro/disk.file] HANDED BACK FOR A MAP THAT IS NOT nil** ('w': the world AHEAD of maps.Keys' call): A NEW SLICE THAT HOLDS THE MAP's KEYS, SORTED; nil just where it has none; nothing that lay before has turned. -/
theorem Tryd.slices_Sorted_keys_25_26 {H : Type} (b nn : Nat) (D0 : DataW H) (R : Value → Option (DataW H × List MemPlace)) (w : World) (hown : w.ownsMap Tryd.prog 9 R b nn D0) (hmax : Maps.size D0 ≤ maxLen) (hbytes : Maps.size D0 * 16 ≤ 140737488355328) :
    CallsIn Fence.wide 5 Tryd.prog 25 #[.func (.func 38) #[] #[.pointer (some ⟨w.heap.size, 0, none⟩)]] (w.alloc (.cells #[.map (some b)] 35)) fun e w' => ∃ (v : Value) (ss : List (List UInt8)), e = .returned v ∧ ss.Perm (strKeys D0) ∧
      w'.ownsRow (w.alloc (.cells #[.map (some b)] 35)).heap.size 9 1 v ss.length ((ss.mergeSort (fun x y => decide (x ≤ y))).map encStr) ∧ (v = .slice none 0 0 ↔ ss = []) ∧ Below (w.alloc (.cells #[.map (some b)] 35)).heap.size (w.alloc (.cells #[.map (some b)] 35)) w' := by
  have hbl := hown.lt
  have hseq : SeqGives Fence.wide 2 Tryd.prog 38 #[.pointer (some ⟨w.heap.size, 0, none⟩)] encStr (fun ss => ss.Perm (strKeys D0)) (Maps.size D0) (w.alloc (.cells #[.map (some b)] 35)) :=
    AnyZ.keys_gives (ρ := Tryd.keys26_ren) { Tryd.keys26 with } Fence.wide _ trivial rfl (by omega) w.heap.size b nn D0 _ (by simp) (by simp) (by
      obtain ⟨es, clock, hb, Ft, hs, hD⟩ := hown
      exact ⟨es, clock, (Below.heap_alloc _ _ b hbl).trans hb, Ft, hs, hD⟩)
  exact AnyZ.sorted_in Tryd.sorted25 Fence.wide 5 trivial trivial trivial trivial rfl (by omega) (Tryd.sorts25 _) (enters_of Tryd.func37 (by kernel_rfl) rfl) 38 #[.pointer (some ⟨w.heap.size, 0, none⟩)] trivial (enters_of Tryd.func38 (by kernel_rfl) rfl) _ _ hmax hbytes _ hseq

set_option maxHeartbeats 1000000 in
/-- **.. AND FOR THE nil MAP: nil.** -/
theorem Tryd.slices_Sorted_keys_nil_25_26 (w : World) :
    CallsIn Fence.wide 5 Tryd.prog 25 #[.func (.func 38) #[] #[.pointer (some ⟨w.heap.size, 0, none⟩)]] (w.alloc (.cells #[.map none] 35)) fun e w' => ∃ (v : Value) (ss : List (List UInt8)), e = .returned v ∧ ss = [] ∧
      w'.ownsRow (w.alloc (.cells #[.map none] 35)).heap.size 9 1 v ss.length ((ss.mergeSort (fun x y => decide (x ≤ y))).map encStr) ∧ (v = .slice none 0 0 ↔ ss = []) ∧ Below (w.alloc (.cells #[.map none] 35)).heap.size (w.alloc (.cells #[.map none] 35)) w' := by
  have hseq : SeqGives Fence.wide 2 Tryd.prog 38 #[.pointer (some ⟨w.heap.size, 0, none⟩)] encStr (fun ss : List (List UInt8) => ss = []) 0 (w.alloc (.cells #[.map none] 35)) :=
    AnyZ.keys_gives_nil (ρ := Tryd.keys26_ren) { Tryd.keys26 with } Fence.wide _ trivial rfl w.heap.size _ (by simp) (by simp)
  exact AnyZ.sorted_in Tryd.sorted25 Fence.wide 5 trivial trivial trivial trivial rfl (by omega) (Tryd.sorts25 _) (enters_of Tryd.func37 (by kernel_rfl) rfl) 38 #[.pointer (some ⟨w.heap.size, 0, none⟩)] trivial (enters_of Tryd.func38 (by kernel_rfl) rfl) _ 0 (Nat.zero_le _) (by omega) _ hseq

end Go.Proofs
