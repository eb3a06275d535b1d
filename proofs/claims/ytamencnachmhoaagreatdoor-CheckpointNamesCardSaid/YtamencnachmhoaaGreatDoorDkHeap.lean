/-
  THE DISK's MEMORY: slices that are read, slices that are owned; append of zeros; who owns which block, by colours.
-/
import Derived.Test.YtamencnachmhoaaGreatDoorProg
import Derived.Test.YtamencnachmhoaaGreatDoorDkPlain4
import Derived.WalkKit
import Derived.WalkSpells
import Derived.Maps.RangeWalk
import Derived.Maps.Ext
import Derived.Deep.AppendLies
import Derived.Laws.CopyOwn
import Derived.Lib.AppendZerosOnto
import Derived.Lib.AppendIntMem
import Derived.Lib.Hide
namespace Go.Proofs.YtamencnachmhoaaGreatDoor
open Go.RowKit

abbrev dkCells (l : Dk.Bs) : List Value := Lib.byteCells l
theorem dkCells_length (l : Dk.Bs) : (dkCells l).length = l.length := by simp [dkCells, Lib.byteCells]
theorem dkCells_append (l m : Dk.Bs) : dkCells (l ++ m) = dkCells l ++ dkCells m := by simp [dkCells, Lib.byteCells]
theorem dkCells_get (l : Dk.Bs) (j : Nat) (u : Value) (h : (dkCells l)[j]? = some u) : ∃ c, l[j]? = some c ∧ u = .int .u8 c.toNat := by
  simp only [dkCells, Lib.byteCells, List.getElem?_map, Option.map_eq_some_iff] at h
  obtain ⟨c, hc, rfl⟩ := h
  exact ⟨c, hc, rfl⟩
theorem dkCells_at (l : Dk.Bs) (j : Nat) (c : UInt8) (h : l[j]? = some c) : (dkCells l)[j]? = some (.int .u8 c.toNat) := by
  simp only [dkCells, Lib.byteCells, List.getElem?_map, h, Option.map_some]
theorem dkCells_one (l : Dk.Bs) : ∀ u ∈ dkCells l, u.oneCell' = true := by
  intro u hu
  simp only [dkCells, Lib.byteCells, List.mem_map] at hu
  obtain ⟨c, _, rfl⟩ := hu
  rfl
theorem dkCells_zeros (k : Nat) : dkCells (List.replicate k 0) = List.replicate k (Value.int .u8 0) := by
  simp [dkCells, Lib.byteCells]

theorem dk_infoByte : (Tryz.prog.info? 5).map (fun i => (i.zero, i.size, i.bytes)) = some (some (.int .u8 0), 1, 1) := by kernel_rfl
theorem dk_add (g j : Nat) (o : Nat) : (⟨g, o, none⟩ : Addr).add j = ⟨g, o + j, none⟩ := by
  unfold Addr.add; split <;> simp_all

theorem dk_zeroCells (k : Nat) : (Builtin.zeroCells (Value.int .u8 0).cells k) = (List.replicate k (Value.int .u8 0)).toArray := by
  have hc : (Value.int .u8 0).cells = #[Value.int .u8 0] := rfl
  rw [hc]
  apply Array.ext
  · simp [Builtin.zeroCells]
  · intro i h1 h2
    simp [Builtin.zeroCells, Nat.mod_one]

theorem dk_zeros_room (w : World) (ty : TypeId) (g sLen sCap : Nat) (cur : Array Value) (hg : w.heap[g]? = some (.cells cur 5 (0, 0))) (k : Nat) (h0 : 0 < k) (hroom : sLen + k ≤ sCap) (hfit : sLen + k ≤ cur.size) (h48 : k ≤ 1099511627776) :
    (Builtin.append_ #[22, 3] ty #[.slice (some ⟨g, 0, none⟩) sLen sCap, .int .i64 k]).run Tryz.prog w =
      .ok (.slice (some ⟨g, 0, none⟩) (sLen + k) sCap) (w.setRow g (cur.toList.take sLen ++ List.replicate k (Value.int .u8 0) ++ cur.toList.drop (sLen + k)).toArray) := by
  obtain ⟨i, hi, hz, hsz, hby⟩ := info_parts dk_infoByte
  have hst := run_storeCells_at Tryz.prog g sLen 5 (List.replicate k (Value.int .u8 0)) 0 cur w hg (by simpa using hfit) (by intro u hu; obtain ⟨_, rfl⟩ := List.mem_replicate.1 hu; rfl)
  simp only [Nat.add_zero, List.length_replicate] at hst
  have hw : IntKind.i64.wrap (k : Int) = k := by rw [IntKind.wrap_i64]; omega
  have hneg : ¬ ((k : Int) < 0) := by omega
  have h48i : ¬ (281474976710656 < (k : Int)) := by omega
  have hk : k ≠ 0 := by omega
  have hzc : (Builtin.zeroCells (Value.int .u8 0).cells k).toList = List.replicate k (Value.int .u8 0) := by rw [dk_zeroCells]
  simp only [Value.cells] at hzc
  simp [Builtin.append_, run_underlying Tryz.underlying22, run_underlying Tryz.underlying3, sizeOf, typeInfo, zeroValue, hi, hz, hsz, hby, asInt, asIntOf, hw, hneg, h48i, hk, hroom, dk_add, hst, hzc, Value.cells]

theorem dk_append_zeros (w : World) (ty : TypeId) (base : Nat) (v : Value) (n : Nat) (xs : List Value) (hown : w.ownsRow base 5 1 v n xs) (k : Nat) (h0 : 0 < k) (hb : n + k ≤ 1099511627776) (hbase : base ≤ w.heap.size) :
    ∃ g cap w', (Builtin.append_ #[22, 3] ty #[v, .int .i64 k]).run Tryz.prog w = .ok (.slice (some ⟨g, 0, none⟩) (n + k) cap) w' ∧
      w'.ownsRow base 5 1 (.slice (some ⟨g, 0, none⟩) (n + k) cap) (n + k) (xs ++ List.replicate k (Value.int .u8 0)) ∧ w.grownBy w' v.ownBlock ∧ (v.ownBlock = some g ∨ g = w.heap.size) := by
  obtain ⟨i, hi, hz, hsz, hby⟩ := info_parts dk_infoByte
  have hlen : xs.length = n := by simpa using hown.1
  have hl2 : (xs ++ List.replicate k (Value.int .u8 0)).length = (n + k) * 1 := by simp [hlen]
  rcases hown.2 with ⟨rfl, rfl⟩ | ⟨g, cap, cur, rfl, hbg, hg, hnc, hcm, hcs, htake⟩
  · have hx : xs = [] := List.eq_nil_of_length_eq_zero hlen
    subst hx
    have hr := Lib.run_append_nil_zeros (P := Tryz.prog) w 22 3 ty 5 i (.int .u8 0) .i64 .i64 Tryz.underlying22 Tryz.underlying3 hi hz k h0 (by omega) (by omega) (by rw [hby]; omega)
    rw [dk_zeroCells, dk_zeroCells] at hr
    refine ⟨_, _, _, by rw [Nat.zero_add]; exact hr, ⟨hl2, .inr ⟨w.heap.size, _, _, rfl, hbase, heap_alloc_new w.drew _, ?_, ?_, ?_, ?_⟩⟩, ⟨rfl, rfl, rfl, by simp, fun j hj _ => Below.heap_alloc w.drew _ j hj⟩, Or.inr rfl⟩
    · rw [Nat.zero_add]; exact grownCap_ge w k 0 5
    · exact grownCap_le_maxLen w k 0 5 (by unfold maxLen; omega)
    · have := grownCap_ge w k 0 5
      simp
      omega
    · simp
  · by_cases hroom : n + k ≤ cap
    · have hr := dk_zeros_room w ty g n cap cur hg k h0 hroom (by rw [hcs]; omega) (by omega)
      refine ⟨_, _, _, hr, ⟨hl2, .inr ⟨g, cap, _, rfl, hbg, setRow_heap w g cur _ 5 _ hg, hroom, hcm, ?_, ?_⟩⟩, ⟨rfl, rfl, rfl, by simp, fun j _ hj => setRow_other w g j _ (fun e => hj (by simp [Value.ownBlock, e]))⟩, Or.inl rfl⟩
      · have : cur.toList.length = cap * 1 := by simpa using hcs
        simp only [List.size_toArray, List.length_append, List.length_take, List.length_drop, List.length_replicate]
        omega
      · rw [Nat.mul_one] at htake
        rw [htake, Nat.mul_one, List.toList_toArray]
        rw [Nat.mul_one] at hl2
        rw [← hl2]
        exact List.take_left
    · have holds : ∀ j u, xs[j]? = some u → w.drew.cell? ((⟨g, 0, none⟩ : Addr).add j) = some u := hown.cells (g := g) rfl
      have hf := run_firstCells_some (P := Tryz.prog) w.drew i.size n ⟨g, 0, none⟩ n cap xs (by rw [hsz]; omega) holds
      have hr := Lib.run_append_grow_zeros (P := Tryz.prog) w 22 3 ty 5 i (.int .u8 0) .i64 .i64 Tryz.underlying22 Tryz.underlying3 hi hz (some ⟨g, 0, none⟩) n cap xs hf k h0 (by omega) (by omega) (by omega) (by rw [hby]; omega) (growslice_fits (by omega) (by rw [hby]; omega))
      rw [dk_zeroCells, dk_zeroCells] at hr
      refine ⟨_, _, _, hr, ⟨hl2, .inr ⟨w.heap.size, _, _, rfl, hbase, heap_alloc_new w.drew _, ?_, ?_, ?_, ?_⟩⟩, ⟨rfl, rfl, rfl, by simp, fun j hj _ => Below.heap_alloc w.drew _ j hj⟩, Or.inr rfl⟩
      · exact grownCap_ge w (n + k) cap 5
      · exact grownCap_le_maxLen w (n + k) cap 5 (by unfold maxLen; omega)
      · have := grownCap_ge w (n + k) cap 5
        simp [hlen]
        omega
      · rw [hl2.symm]
        simp only [Array.toList_append]
        exact List.take_left

/-- a slice that is read: its bytes lie in a block below B -/
def RdB (W : World) (B : Nat) (v : Value) (l : Dk.Bs) : Prop :=
  (l = [] ∧ ∃ a c, v = .slice a 0 c) ∨ ∃ g off cap, v = .slice (some ⟨g, off, none⟩) l.length cap ∧ l.length ≤ cap ∧ g < B ∧ g < W.heap.size ∧ ∀ j c, l[j]? = some c → W.cell? ⟨g, off + j, none⟩ = some (.int .u8 c.toNat)

theorem RdB.below {W W' : World} {B : Nat} {v : Value} {l : Dk.Bs} (h : RdB W B v l) (hb : Below B W W') : RdB W' B v l := by
  rcases h with h | ⟨g, off, cap, hv, hc, hg, hs, hx⟩
  · exact .inl h
  · exact .inr ⟨g, off, cap, hv, hc, hg, Nat.lt_of_lt_of_le hs hb.size, fun j c hj => (hb.cell (p := ⟨g, off + j, none⟩) hg).trans (hx j c hj)⟩
theorem RdB.mono {W : World} {B B' : Nat} {v : Value} {l : Dk.Bs} (h : RdB W B v l) (hb : B ≤ B') : RdB W B' v l := by
  rcases h with h | ⟨g, off, cap, hv, hc, hg, hx⟩
  · exact .inl h
  · exact .inr ⟨g, off, cap, hv, hc, by omega, hx⟩
theorem RdB.form {W : World} {B : Nat} {v : Value} {l : Dk.Bs} (h : RdB W B v l) : ∃ a cap, v = .slice a l.length cap := by
  rcases h with ⟨rfl, a, c, rfl⟩ | ⟨g, off, cap, hv, _⟩
  · exact ⟨a, c, rfl⟩
  · exact ⟨_, _, hv⟩
/-- an owned row is read -/
theorem RdB.of_own {W : World} {b : Nat} {v : Value} {l : Dk.Bs} (h : W.ownsRow b 5 1 v l.length (dkCells l)) : RdB W W.heap.size v l := by
  rcases h.2 with ⟨rfl, h0⟩ | ⟨g, cap, cur, rfl, hB, hh, hn, hcap, hcur, htake⟩
  · exact .inl ⟨List.eq_nil_of_length_eq_zero h0, _, _, rfl⟩
  · refine .inr ⟨g, 0, cap, rfl, hn, (Array.getElem?_eq_some_iff.1 hh).1, (Array.getElem?_eq_some_iff.1 hh).1, fun j c hj => ?_⟩
    have := h.cells (g := g) rfl j _ (dkCells_at l j c hj)
    rwa [dk_add] at this

end Go.Proofs.YtamencnachmhoaaGreatDoor
