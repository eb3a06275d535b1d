/-
  slices.Sorted(maps.Keys(m)) in this program, in plain declarations (by wip/iterplain.py off the kit's lay-iter.mjs).
-/
import Derived.Shelf.SlIter.Nil
import Derived.Shelf.SortM.Plain
import Derived.Shelf.SortM.SortNone
import Derived.Test.YtcbnbhlgikjbeaaGreatDoorProg
namespace Go.Proofs
open Go.RowKit Go.Maps Go.Sort Go.Shelf

def Tryz.keys66_ren : Go.Shelf.Ren := ⟨fun | 7 => 66 | 10 => 103 | n => n, fun | 23 => 73 | 26 => 9 | 3 => 77 | 28 => 115 | 0 => 0 | 27 => 114 | 33 => 64 | 4 => 4 | n => n, fun | n => n⟩
set_option maxRecDepth 100000 in
theorem Tryz.keys66 : SlLaysZ.n7 Tryz.prog Tryz.keys66_ren := {
  mixed := by kernel_rfl
  f7 := ⟨ "maps.Keys[map[string]*giro/disk.file,string,*giro/disk.file]", of_decide_eq_true (by kernel_rfl), Tryz.func66.trans (congrArg some (by kernel_rfl))⟩
  f10 := ⟨ "maps.Keys[map[string]*giro/disk.file,string,*giro/disk.file]$1", of_decide_eq_true (by kernel_rfl), Tryz.func103.trans (congrArg some (by kernel_rfl))⟩
  t0 := Tryz.underlying0
  a0 := Tryz.isAgg0
  z0 := Tryz.sizeOf0
  v0 := Tryz.zeroValue0
  t4 := Tryz.underlying4
  a4 := Tryz.isAgg4
  z4 := Tryz.sizeOf4
  v4 := Tryz.zeroValue4
  t23 := Tryz.underlying73
  a23 := Tryz.isAgg73
  z23 := Tryz.sizeOf73
  v23 := Tryz.zeroValue73
  t26 := Tryz.underlying9
  a26 := Tryz.isAgg9
  z26 := Tryz.sizeOf9
  v26 := Tryz.zeroValue9
  t27 := Tryz.underlying114
  a27 := Tryz.isAgg114
  z27 := Tryz.sizeOf114
  v27 := Tryz.zeroValue114
  t28 := Tryz.underlying115
  a28 := Tryz.isAgg115
  z28 := Tryz.sizeOf115
  v28 := Tryz.zeroValue115
  t33 := Tryz.underlying64
  a33 := Tryz.isAgg64
  z33 := Tryz.sizeOf64
  v33 := Tryz.zeroValue64 }
def Tryz.sorted65_ren : Go.Shelf.Ren := ⟨fun | 6 => 65 | 8 => 101 | 9 => 102 | 11 => 130 | 13 => 132 | 12 => 131 | 23 => 155 | 24 => 156 | 14 => 146 | 15 => 147 | 16 => 148 | 17 => 149 | 18 => 150 | 19 => 151 | 20 => 152 | 21 => 153 | 22 => 154 | 25 => 166 | 26 => 167 | 27 => 168 | 28 => 169 | 29 => 170 | 30 => 171 | 31 => 180 | n => n, fun | 26 => 9 | 28 => 115 | 24 => 23 | 0 => 0 | 3 => 3 | 37 => 150 | 48 => 165 | 50 => 149 | 4 => 4 | 40 => 202 | 39 => 201 | 45 => 94 | 5 => 5 | 9 => 9 | 51 => 217 | 55 => 221 | 57 => 233 | 58 => 234 | 33 => 64 | n => n, fun | n => n⟩
set_option maxRecDepth 100000 in
theorem Tryz.sorted65 : SlLaysZ.n6 Tryz.prog Tryz.sorted65_ren := {
  mixed := by kernel_rfl
  f6 := ⟨ "slices.Sorted[string]", of_decide_eq_true (by kernel_rfl), Tryz.func65.trans (congrArg some (by kernel_rfl))⟩
  f8 := ⟨ "slices.Collect[string]", of_decide_eq_true (by kernel_rfl), Tryz.func101.trans (congrArg some (by kernel_rfl))⟩
  f11 := ⟨ "slices.AppendSeq[[]string,string]", of_decide_eq_true (by kernel_rfl), Tryz.func130.trans (congrArg some (by kernel_rfl))⟩
  t0 := Tryz.underlying0
  a0 := Tryz.isAgg0
  z0 := Tryz.sizeOf0
  v0 := Tryz.zeroValue0
  t24 := Tryz.underlying23
  a24 := Tryz.isAgg23
  z24 := Tryz.sizeOf23
  v24 := Tryz.zeroValue23
  t26 := Tryz.underlying9
  a26 := Tryz.isAgg9
  z26 := Tryz.sizeOf9
  v26 := Tryz.zeroValue9
  t28 := Tryz.underlying115
  a28 := Tryz.isAgg115
  z28 := Tryz.sizeOf115
  v28 := Tryz.zeroValue115
  i26 := by kernel_rfl }
def Tryz.sort102_ren : Go.Shelf.Ren := ⟨fun | 6 => 102 | 8 => 132 | 9 => 131 | 19 => 155 | 20 => 156 | 21 => 146 | 22 => 147 | 23 => 148 | 24 => 149 | 25 => 150 | 26 => 151 | 27 => 152 | 28 => 153 | 29 => 154 | 36 => 166 | 31 => 167 | 32 => 168 | 37 => 169 | 38 => 170 | 39 => 171 | 41 => 180 | n => n, fun | 27 => 23 | 29 => 9 | 3 => 3 | 32 => 150 | 26 => 23 | 0 => 0 | 44 => 165 | 46 => 149 | 4 => 4 | 36 => 202 | 35 => 201 | 41 => 94 | 5 => 5 | 9 => 9 | 53 => 217 | 57 => 221 | 63 => 233 | 64 => 234 | n => n, fun | n => n⟩
set_option maxRecDepth 100000 in
theorem Tryz.sort102 : SlLaysM.n6 Tryz.prog Tryz.sort102_ren := {
  mixed := by kernel_rfl
  f6 := ⟨ "slices.Sort[[]string,string]", of_decide_eq_true (by kernel_rfl), Tryz.func102.trans (congrArg some (by kernel_rfl))⟩
  f8 := Tryz.func132.trans (congrArg some (by kernel_rfl))
  f9 := ⟨ "slices.pdqsortOrdered[string]", of_decide_eq_true (by kernel_rfl), Tryz.func131.trans (congrArg some (by kernel_rfl))⟩
  f19 := Tryz.func155.trans (congrArg some (by kernel_rfl))
  f20 := Tryz.func156.trans (congrArg some (by kernel_rfl))
  f21 := ⟨ "slices.insertionSortOrdered[string]", of_decide_eq_true (by kernel_rfl), Tryz.func146.trans (congrArg some (by kernel_rfl))⟩
  f22 := ⟨ "slices.heapSortOrdered[string]", of_decide_eq_true (by kernel_rfl), Tryz.func147.trans (congrArg some (by kernel_rfl))⟩
  f23 := ⟨ "slices.breakPatternsOrdered[string]", of_decide_eq_true (by kernel_rfl), Tryz.func148.trans (congrArg some (by kernel_rfl))⟩
  f24 := ⟨ "slices.choosePivotOrdered[string]", of_decide_eq_true (by kernel_rfl), Tryz.func149.trans (congrArg some (by kernel_rfl))⟩
  f25 := ⟨ "slices.reverseRangeOrdered[string]", of_decide_eq_true (by kernel_rfl), Tryz.func150.trans (congrArg some (by kernel_rfl))⟩
  f26 := ⟨ "slices.partialInsertionSortOrdered[string]", of_decide_eq_true (by kernel_rfl), Tryz.func151.trans (congrArg some (by kernel_rfl))⟩
  f27 := ⟨ "cmp.Less[string]", of_decide_eq_true (by kernel_rfl), Tryz.func152.trans (congrArg some (by kernel_rfl))⟩
  f28 := ⟨ "slices.partitionEqualOrdered[string]", of_decide_eq_true (by kernel_rfl), Tryz.func153.trans (congrArg some (by kernel_rfl))⟩
  f29 := ⟨ "slices.partitionOrdered[string]", of_decide_eq_true (by kernel_rfl), Tryz.func154.trans (congrArg some (by kernel_rfl))⟩
  f31 := Tryz.func167.trans (congrArg some (by kernel_rfl))
  f32 := Tryz.func168.trans (congrArg some (by kernel_rfl))
  f36 := ⟨ "slices.siftDownOrdered[string]", of_decide_eq_true (by kernel_rfl), Tryz.func166.trans (congrArg some (by kernel_rfl))⟩
  f37 := ⟨ "slices.medianAdjacentOrdered[string]", of_decide_eq_true (by kernel_rfl), Tryz.func169.trans (congrArg some (by kernel_rfl))⟩
  f38 := ⟨ "slices.medianOrdered[string]", of_decide_eq_true (by kernel_rfl), Tryz.func170.trans (congrArg some (by kernel_rfl))⟩
  f39 := ⟨ "cmp.isNaN[string]", of_decide_eq_true (by kernel_rfl), Tryz.func171.trans (congrArg some (by kernel_rfl))⟩
  f41 := ⟨ "slices.order2Ordered[string]", of_decide_eq_true (by kernel_rfl), Tryz.func180.trans (congrArg some (by kernel_rfl))⟩
  t0 := Tryz.underlying0
  a0 := Tryz.isAgg0
  z0 := Tryz.sizeOf0
  v0 := Tryz.zeroValue0
  t3 := Tryz.underlying3
  a3 := Tryz.isAgg3
  z3 := Tryz.sizeOf3
  v3 := Tryz.zeroValue3
  t4 := Tryz.underlying4
  a4 := Tryz.isAgg4
  z4 := Tryz.sizeOf4
  v4 := Tryz.zeroValue4
  t5 := Tryz.underlying5
  a5 := Tryz.isAgg5
  z5 := Tryz.sizeOf5
  v5 := Tryz.zeroValue5
  t9 := Tryz.underlying9
  a9 := Tryz.isAgg9
  z9 := Tryz.sizeOf9
  v9 := Tryz.zeroValue9
  t26 := Tryz.underlying23
  a26 := Tryz.isAgg23
  z26 := Tryz.sizeOf23
  v26 := Tryz.zeroValue23
  t27 := Tryz.underlying23
  a27 := Tryz.isAgg23
  z27 := Tryz.sizeOf23
  v27 := Tryz.zeroValue23
  t29 := Tryz.underlying9
  a29 := Tryz.isAgg9
  z29 := Tryz.sizeOf9
  v29 := Tryz.zeroValue9
  t32 := Tryz.underlying150
  a32 := Tryz.isAgg150
  z32 := Tryz.sizeOf150
  v32 := Tryz.zeroValue150
  t35 := Tryz.underlying201
  a35 := Tryz.isAgg201
  z35 := Tryz.sizeOf201
  v35 := Tryz.zeroValue201
  t36 := Tryz.underlying202
  a36 := Tryz.isAgg202
  z36 := Tryz.sizeOf202
  v36 := Tryz.zeroValue202
  t41 := Tryz.underlying94
  a41 := Tryz.isAgg94
  z41 := Tryz.sizeOf94
  v41 := Tryz.zeroValue94
  t44 := Tryz.underlying165
  a44 := Tryz.isAgg165
  z44 := Tryz.sizeOf165
  v44 := Tryz.zeroValue165
  t46 := Tryz.underlying149
  a46 := Tryz.isAgg149
  z46 := Tryz.sizeOf149
  v46 := Tryz.zeroValue149
  t53 := Tryz.underlying217
  a53 := Tryz.isAgg217
  z53 := Tryz.sizeOf217
  v53 := Tryz.zeroValue217
  t57 := Tryz.underlying221
  a57 := Tryz.isAgg221
  z57 := Tryz.sizeOf221
  v57 := Tryz.zeroValue221
  t63 := Tryz.underlying233
  a63 := Tryz.isAgg233
  z63 := Tryz.sizeOf233
  v63 := Tryz.zeroValue233
  t64 := Tryz.underlying234
  a64 := Tryz.isAgg234
  z64 := Tryz.sizeOf234
  v64 := Tryz.zeroValue234 }

/-- slices.Sort's two contracts at this dump, at the fence that asks nothing. -/
theorem Tryz.sorts65 (m : Nat) : AnyZ.SortsIn Tryz.prog Tryz.sorted65_ren Fence.wide m :=
  ⟨fun blk off cap ss W hH hblk hsz => callsIn_wide.2 (AnyM.slices_Sort_string Tryz.sort102 blk off cap ss W hH hblk hsz),
   fun p cap W => callsIn_wide.2 (AnyM.slices_Sort_string_none Tryz.sort102 p cap W)⟩

/-- **maps.Keys[map[string]*giro/disk.file,string,*giro/disk.file], at whatever map, the nil one too:** a function value over ONE NEW BLOCK, which holds the map. -/
theorem Tryz.maps_Keys_66 (mb : Option Nat) (W : World) : CallsIn Fence.wide 5 Tryz.prog 66 #[.map mb] W fun e w' => e = .returned (.func (.func 103) #[] #[.pointer (some ⟨W.heap.size, 0, none⟩)]) ∧ w' = W.alloc (.cells #[.map mb] 73) :=
  AnyZ.keys_in Tryz.keys66 Fence.wide 5 trivial rfl mb W

set_option maxHeartbeats 1000000 in
/-- **slices.Sorted[string] AT WHAT maps.Keys[map[string]*giro/disk.file,string,*giro/disk.file] HANDED BACK FOR A MAP THAT IS NOT nil** ('w': the world AHEAD of maps.Keys' call): A NEW SLICE THAT HOLDS THE MAP's KEYS, SORTED; nil just where it has none; nothing that lay before has turned. -/
theorem Tryz.slices_Sorted_keys_65_66 {H : Type} (b nn : Nat) (D0 : DataW H) (R : Value → Option (DataW H × List MemPlace)) (w : World) (hown : w.ownsMap Tryz.prog 9 R b nn D0) (hmax : Maps.size D0 ≤ maxLen) (hbytes : Maps.size D0 * 16 ≤ 140737488355328) :
    CallsIn Fence.wide 5 Tryz.prog 65 #[.func (.func 103) #[] #[.pointer (some ⟨w.heap.size, 0, none⟩)]] (w.alloc (.cells #[.map (some b)] 73)) fun e w' => ∃ (v : Value) (ss : List (List UInt8)), e = .returned v ∧ ss.Perm (strKeys D0) ∧
      w'.ownsRow (w.alloc (.cells #[.map (some b)] 73)).heap.size 9 1 v ss.length ((ss.mergeSort (fun x y => decide (x ≤ y))).map encStr) ∧ (v = .slice none 0 0 ↔ ss = []) ∧ Below (w.alloc (.cells #[.map (some b)] 73)).heap.size (w.alloc (.cells #[.map (some b)] 73)) w' := by
  have hbl := hown.lt
  have hseq : SeqGives Fence.wide 2 Tryz.prog 103 #[.pointer (some ⟨w.heap.size, 0, none⟩)] encStr (fun ss => ss.Perm (strKeys D0)) (Maps.size D0) (w.alloc (.cells #[.map (some b)] 73)) :=
    AnyZ.keys_gives (ρ := Tryz.keys66_ren) { Tryz.keys66 with } Fence.wide _ trivial rfl (by omega) w.heap.size b nn D0 _ (by simp) (by simp) (by
      obtain ⟨es, clock, hb, Ft, hs, hD⟩ := hown
      exact ⟨es, clock, (Below.heap_alloc _ _ b hbl).trans hb, Ft, hs, hD⟩)
  exact AnyZ.sorted_in Tryz.sorted65 Fence.wide 5 trivial trivial trivial trivial rfl (by omega) (Tryz.sorts65 _) (enters_of Tryz.func102 (by kernel_rfl) rfl) 103 #[.pointer (some ⟨w.heap.size, 0, none⟩)] trivial (enters_of Tryz.func103 (by kernel_rfl) rfl) _ _ hmax hbytes _ hseq

set_option maxHeartbeats 1000000 in
/-- **.. AND FOR THE nil MAP: nil.** -/
theorem Tryz.slices_Sorted_keys_nil_65_66 (w : World) :
    CallsIn Fence.wide 5 Tryz.prog 65 #[.func (.func 103) #[] #[.pointer (some ⟨w.heap.size, 0, none⟩)]] (w.alloc (.cells #[.map none] 73)) fun e w' => ∃ (v : Value) (ss : List (List UInt8)), e = .returned v ∧ ss = [] ∧
      w'.ownsRow (w.alloc (.cells #[.map none] 73)).heap.size 9 1 v ss.length ((ss.mergeSort (fun x y => decide (x ≤ y))).map encStr) ∧ (v = .slice none 0 0 ↔ ss = []) ∧ Below (w.alloc (.cells #[.map none] 73)).heap.size (w.alloc (.cells #[.map none] 73)) w' := by
  have hseq : SeqGives Fence.wide 2 Tryz.prog 103 #[.pointer (some ⟨w.heap.size, 0, none⟩)] encStr (fun ss : List (List UInt8) => ss = []) 0 (w.alloc (.cells #[.map none] 73)) :=
    AnyZ.keys_gives_nil (ρ := Tryz.keys66_ren) { Tryz.keys66 with } Fence.wide _ trivial rfl w.heap.size _ (by simp) (by simp)
  exact AnyZ.sorted_in Tryz.sorted65 Fence.wide 5 trivial trivial trivial trivial rfl (by omega) (Tryz.sorts65 _) (enters_of Tryz.func102 (by kernel_rfl) rfl) 103 #[.pointer (some ⟨w.heap.size, 0, none⟩)] trivial (enters_of Tryz.func103 (by kernel_rfl) rfl) _ 0 (Nat.zero_le _) (by omega) _ hseq

end Go.Proofs
