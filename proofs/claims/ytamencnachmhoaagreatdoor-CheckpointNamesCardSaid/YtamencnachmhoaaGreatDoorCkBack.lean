/-
  slices.Backward over a store's files: an iterator that hands over what the row holds, from behind.
-/
import Derived.RangeFuncNested
import Derived.RangeFuncBound
import Derived.RangeFuncCalls
import Derived.RangeFuncLeaves
import Derived.Shelf.Abstract
import Derived.Shelf.RegionOpen
import Derived.WalkKit
import Derived.OwnWalkIn
import Derived.TacticsInMore
import Derived.LoopNIn
import Derived.LoopIn
import Derived.Test.YtamencnachmhoaaGreatDoorCkSequences
import Derived.Test.YtamencnachmhoaaGreatDoorWlBack
namespace Go.Proofs.YtamencnachmhoaaGreatDoor
open Go.RowKit Go.Shelf

attribute [local go_sem] Oper.semAt_some

namespace Ck
def idx (L : Nat) : List Nat := (List.range L).reverse
def fat (F : List (Bs × Nat)) (k : Nat) : Bs × Nat := F.getD k ([], 0)
theorem idx_length (L : Nat) : (idx L).length = L := by unfold idx; simp
theorem idx_at {L j : Nat} (h : j < L) : (idx L)[j]? = some (L - 1 - j) := by
  unfold idx
  rw [List.getElem?_reverse (by simpa using h), List.length_range, List.getElem?_range (by omega)]
theorem idx_step {L j : Nat} (h : j < L) : (idx L).take (j + 1) = (idx L).take j ++ [L - 1 - j] := by
  rw [List.take_add_one, idx_at h]
  rfl
theorem fat_rev (F : List (Bs × Nat)) : F.reverse = (idx F.length).map (fat F) := by
  unfold idx
  rw [List.map_reverse]
  congr 1
  apply List.ext_getElem?
  intro k
  rw [List.getElem?_map]
  by_cases h : k < F.length
  · rw [List.getElem?_range h, List.getElem?_eq_getElem h]
    simp [fat, h]
  · rw [List.getElem?_eq_none (by omega), List.getElem?_eq_none (by simp; omega)]
    rfl
def encB (F : List (Bs × Nat)) (k : Nat) : Array Value := #[.int .i64 (k : Int), .agg #[.string ⟨(fat F k).1.toArray⟩, .int .i64 ((fat F k).2 : Int)]]
end Ck

def FilesIn (W : World) (n₀ : Nat) (F : List (Ck.Bs × Nat)) (a : Option Addr) : Prop :=
  0 < F.length → ∃ sb, a = some ⟨sb, 0, none⟩ ∧ sb < n₀ ∧ ∀ (k : Nat) (x : Ck.Bs × Nat), F[k]? = some x → W.cell? ⟨sb, k * 2, none⟩ = some (.string ⟨x.1.toArray⟩) ∧ W.cell? ⟨sb, k * 2 + 1, none⟩ = some (.int .i64 x.2)
theorem FilesIn.below {W W' : World} {n₀ : Nat} {F : List (Ck.Bs × Nat)} {a : Option Addr} (h : FilesIn W n₀ F a) (hb : Below n₀ W W') : FilesIn W' n₀ F a := fun hp => by
  obtain ⟨sb, h1, h2, h3⟩ := h hp
  exact ⟨sb, h1, h2, fun k x hx => ⟨(hb.cell (p := ⟨sb, k * 2, none⟩) h2).trans (h3 k x hx).1, (hb.cell (p := ⟨sb, k * 2 + 1, none⟩) h2).trans (h3 k x hx).2⟩⟩

set_option maxRecDepth 100000 in
set_option maxHeartbeats 1000000 in
theorem ck_back1 (Fn : Fence) (n : Nat) (h6 : Fn.fn 130) (hro : Fn.round = none) (hn : 1 ≤ n) (l Bn n₀ : Nat) (F : List (Ck.Bs × Nat)) (a : Option Addr) (cap : Nat) (hFL : F.length ≤ 1000000) (J Jx : List Nat → World → Prop)
    (hY : ∀ pre x W, J pre W → pre.length < F.length → YieldAt Fn (n - 1) Tryz.prog l (Ck.encB F x) W fun e W' =>
      (e = .returned (.bool true) ∧ J (pre ++ [x]) W' ∧ Below n₀ W W') ∨ (e = .returned (.bool false) ∧ Jx (pre ++ [x]) W'))
    (W : World) (hB : W.cell? ⟨Bn, 0, none⟩ = some (.slice a F.length cap)) (hBn : Bn < n₀) (hF : FilesIn W n₀ F a) (h0 : J [] W) :
    CallsIn Fn n Tryz.prog 130 #[.func (.yield l) #[] #[], .pointer (some ⟨Bn, 0, none⟩)] W fun e W' => (∃ v, e = .returned v) ∧
      ((∃ ys, ys = Ck.idx F.length ∧ J ys W') ∨ (∃ pre, pre <+: Ck.idx F.length ∧ Jx pre W')) := by
  have HF := Lib.hid hF
  obtain ⟨L, hL⟩ : ∃ L, L = F.length := ⟨_, rfl⟩
  rw [← hL] at hY hB hFL ⊢
  have HL := Lib.hid hL
  clear hF hL
  refine callsIn_of_wp Tryz.func130 rfl h6 ?_ hro
  simp only [Tryz.ntmps130, List.size_toArray, List.length_cons, List.length_nil, Nat.reduceAdd, Nat.reduceSub, Array.replicate_succ, Array.replicate_zero, List.push_toArray, List.append_toArray, List.nil_append, List.cons_append]
  gi_wp2
  gi_loopw [3] (fun iv wr => ∃ j : Nat, j ≤ L ∧ iv = .int .i64 ((L : Int) - 1 - j) ∧ J ((Ck.idx L).take j) wr ∧ Hid (Below n₀ W wr)) (fun iv wr => (RowKit.intOf iv + 1).toNat)
  case atStart => exact ⟨0, Nat.zero_le _, by simp, by simpa using h0, Lib.hid (Below.refl _ _)⟩
  case round =>
    obtain ⟨j, hj, rfl, hJs, HB⟩ := hrel
    by_cases hlt : j < L
    · obtain ⟨k, hk⟩ : ∃ k, k = L - 1 - j := ⟨_, rfl⟩
      have ek : (L : Int) - 1 - (j : Int) = (k : Int) := by omega
      have HSTEP := Lib.hid (Ck.idx_step hlt)
      rw [← hk] at HSTEP
      obtain ⟨sb, rfl, hsb, hcl⟩ := HF.out (by have := HL.out; omega)
      obtain ⟨x, hxk⟩ : ∃ x, F[k]? = some x := ⟨_, List.getElem?_eq_getElem (by have := HL.out; omega)⟩
      obtain ⟨z0, z1⟩ := hcl k x hxk
      have y0 : wr.cell? ⟨sb, k * 2, none⟩ = some (.string ⟨x.1.toArray⟩) := (HB.out.cell (p := ⟨sb, k * 2, none⟩) hsb).trans z0
      have y1 : wr.cell? ⟨sb, k * 2 + 1, none⟩ = some (.int .i64 x.2) := (HB.out.cell (p := ⟨sb, k * 2 + 1, none⟩) hsb).trans z1
      have y2 := (HB.out.cell (p := ⟨Bn, 0, none⟩) hBn).trans hB
      obtain ⟨fn, tmps, assign, body, hy, hR⟩ := hY _ k wr hJs (by rw [List.length_take, Ck.idx_length]; omega)
      have hfat : Ck.fat F k = x := by unfold Ck.fat; rw [List.getD_eq_getElem?_getD, hxk]; rfl
      unfold Ck.encB at hy
      rw [hfat] at hy
      obtain ⟨xn, xq⟩ := x
      simp only [] at hy y0 y1
      obtain ⟨X, hX⟩ : ∃ X : ByteArray, X = ⟨xn.toArray⟩ := ⟨_, rfl⟩
      rw [← hX] at hy y0
      have j0 : (k : Int) < (L : Int) := by omega
      have j1 : (0 : Int) ≤ (k : Int) := by omega
      rw [ek]
      have HJ := Lib.hid hj
      have HK := Lib.hid hk
      have HLT := Lib.hid hlt
      clear hX hfat hxk hcl z0 z1 hY ek hk hj hlt
      gi_wp2
      refine hR.mono ?_
      rintro e W3 (⟨rfl, hJ3, hk3⟩ | ⟨rfl, hJx3⟩)
      · have HB3 := Lib.hid (HB.out.trans hk3)
        have HJ3 := Lib.hid hJ3
        clear hk3 hJ3 hR hy
        gi_wp2
        go_roundw
        case rel =>
          refine ⟨j + 1, by have := HLT.out; omega, ?_, by rw [HSTEP.out]; exact HJ3.out, HB3⟩
          have := HK.out
          have := HLT.out
          congr 1
          omega
        case measure =>
          have := HK.out
          have := HLT.out
          simp [RowKit.intOf]
          try omega
      · gi_wp2
        refine bodyPost_ret (results_none rfl _ _ _) rfl ?_
        refine ⟨⟨_, rfl⟩, .inr ⟨_, ?_, hJx3⟩⟩
        rw [← HSTEP.out]
        exact List.take_prefix _ _
    · obtain rfl : j = L := by omega
      have ek : (j : Int) - 1 - (j : Int) = -1 := by omega
      rw [ek]
      have HJs := Lib.hid hJs
      clear hY hJs ek
      gi_wp2
      go_end0
      refine ⟨⟨_, rfl⟩, .inl ⟨_, rfl, ?_⟩⟩
      have h := HJs.out
      rw [List.take_of_length_le (by rw [Ck.idx_length]; omega)] at h
      exact h

theorem ck_Backward (w : World) (a : Option Addr) (n cap : Nat) : Calls Tryz.prog 74 #[.slice a n cap] w fun e w' => e = .returned (.func (.func 130) #[] #[.pointer (some ⟨w.heap.size, 0, none⟩)]) ∧ w' = w.alloc (.cells #[.slice a n cap] 110) := by
  have hmf : ∀ (fn : Fn) (first cap : Array Value) (w : World), (Instr.makeFunc fn first cap).run Tryz.prog w = .ok (.func fn first cap) w := fun _ _ _ _ => rfl
  go_enter Tryz.func74, Tryz.ntmps74
  go_wp2_with fail
  go_ret
  exact ⟨rfl, rfl⟩

theorem ck_back_stops (Fn : Fence) (n : Nat) (h6 : Fn.fn 130) (hro : Fn.round = none) (hn : 1 ≤ n) (Bn n₀ : Nat) (F : List (Ck.Bs × Nat)) (a : Option Addr) (cap : Nat) (hFL : F.length ≤ 1000000) (w : World) (hn₀ : n₀ ≤ w.heap.size)
    (hB : w.cell? ⟨Bn, 0, none⟩ = some (.slice a F.length cap)) (hBn : Bn < n₀) (hF : FilesIn w n₀ F a) :
    SeqStopsK Fn n Tryz.prog 130 #[.pointer (some ⟨Bn, 0, none⟩)] (Ck.encB F) (Below n₀) (fun ys => ys = Ck.idx F.length) (fun pre => pre <+: Ck.idx F.length) F.length w := fun l J Jx W hW _ _ hY h0 =>
  ck_back1 Fn n h6 hro hn l Bn n₀ F a cap hFL J Jx hY W ((hW.cell (p := ⟨Bn, 0, none⟩) (Nat.lt_of_lt_of_le hBn hn₀)).trans hB) hBn (hF.below (hW.mono hn₀)) h0

end Go.Proofs.YtamencnachmhoaaGreatDoor
