/-
  pieces; survivors: the odd way.
-/
import Derived.Test.YtegahpgnmeobhaaDoorDkSurv2
namespace Go.Proofs.YtegahpgnmeobhaaDoor
open Go.RowKit

/-- a slice cut in two -/
theorem RdB.cut {W : World} {B : Nat} {v : Value} {l : Dk.Bs} (h : RdB W B v l) (k : Nat) (hk : k ≤ l.length) (h0 : 0 < k) : ∃ g off cap, v = .slice (some ⟨g, off, none⟩) l.length cap ∧ l.length ≤ cap ∧ RdB W B (.slice (some ⟨g, off, none⟩) k cap) (l.take k) ∧
    RdB W B (.slice (if cap = k then some ⟨g, off, none⟩ else some ⟨g, off + k, none⟩) (l.length - k) (cap - k)) (l.drop k) := by
  rcases h with ⟨rfl, _⟩ | ⟨g, off, cap, hv, hc, hg, hgs, hx⟩
  · simp at hk; omega
  · refine ⟨g, off, cap, hv, hc, .inr ⟨g, off, cap, by rw [List.length_take, Nat.min_eq_left hk], by rw [List.length_take]; omega, hg, hgs, fun j c hj => hx j c ?_⟩, .inr ?_⟩
    · rw [List.getElem?_take] at hj
      split at hj
      · exact hj
      · cases hj
    · by_cases e : cap = k
      · refine ⟨g, off, cap - k, by rw [if_pos e, List.length_drop], by rw [List.length_drop]; omega, hg, hgs, fun j c hj => ?_⟩
        rw [List.getElem?_drop, List.getElem?_eq_none (by omega)] at hj
        cases hj
      · refine ⟨g, off + k, cap - k, by rw [if_neg e, List.length_drop], by rw [List.length_drop]; omega, hg, hgs, fun j c hj => ?_⟩
        rw [List.getElem?_drop] at hj
        have := hx (k + j) c hj
        rwa [show off + (k + j) = off + k + j by omega] at this

set_option maxRecDepth 100000 in
set_option maxHeartbeats 4000000 in
theorem dk_pieces (B : Nat) (W : World) (a0 : Nat) (b0 : Dk.Bs) (wb : Value) (hrd : RdB W B wb b0) (hbd : a0 + b0.length ≤ 16777216) (hBW : B ≤ W.heap.size) :
    Calls Tryd.prog 40 #[.agg #[.int .i64 a0, wb]] W fun e W' => ∃ v' vs', e = .returned v' ∧ W'.ownsRow W.heap.size 61 2 v' (Dk.pieces ⟨a0, b0⟩).length (wrCells (Dk.pieces ⟨a0, b0⟩) vs') ∧ WrOk W' B (Dk.pieces ⟨a0, b0⟩) vs' ∧ Below W.heap.size W W' := by
  obtain ⟨i0, hi, hz0, hz1, hz2⟩ := info_parts dk_infoWrite
  obtain ⟨pa, pc, rfl⟩ := hrd.form
  have HRD := Lib.hid hrd
  clear hrd
  go_enter Tryd.func40, Tryd.ntmps40
  go_wp2_with fail
  go_quiet (fail)
  go_wp2_with fail
  go_loopw [3, 4, 5] (fun v bv av wr => ∃ (a : Nat) (b : Dk.Bs) (done : List Dk.Wr) (vs : List Value), wr.ownsRow W.heap.size 61 2 v done.length (wrCells done vs) ∧ RdB wr B bv b ∧ av = .int .i64 a ∧ Hid (Dk.pieces ⟨a0, b0⟩ = done ++ Dk.piecesF b.length a b) ∧ WrOk wr B done vs ∧ Below W.heap.size W wr ∧ a + b.length ≤ 16777216 ∧ done.length + b.length ≤ b0.length) (fun _ bv _ _ => match bv with | .slice _ n _ => n | _ => 0)
  case atStart =>
    refine ⟨a0, b0, [], [], World.ownsRow_nil _ _ _ _, HRD.out.below ?_, rfl, rfl, ⟨rfl, fun k w v h1 _ => by simp at h1⟩, dk_below_drewN ((Below.refl _ _).alloc (Nat.le_refl _) _) nq, hbd, by simp⟩
    exact dk_below_drewN ((Below.refl B _).alloc hBW _) nq
  case round =>
    obtain ⟨a, b, done, vs, hown, hrd, rfl, hP, hok, hbel, hab, hdl⟩ := hrel
    by_cases hb0 : b = []
    · subst hb0
      obtain ⟨ba, bc, rfl⟩ := hrd.form
      have HO := Lib.hid hown
      have HK := Lib.hid hok
      clear hown hok hrd
      go_wp2_with fail
      go_ret
      have e := hP.out
      rw [Dk.piecesF_nil, List.append_nil] at e
      rw [e]
      exact ⟨_, vs, rfl, HO.out, HK.out, hbel⟩
    · have hbl : 0 < b.length := List.length_pos_iff.2 hb0
      obtain ⟨n, hn⟩ : ∃ n, n = min b.length (512 - a % 512) := ⟨_, rfl⟩
      have hn0 : 0 < n := by omega
      have hnl : n ≤ b.length := by omega
      obtain ⟨p, off, cap, rfl, hnc, hhead, htail⟩ := hrd.cut n hnl hn0
      have hminI : min (b.length : Int) (512 - (a : Int) % 512) = (n : Int) := by
        have h1 : (a : Int) % 512 = ((a % 512 : Nat) : Int) := by omega
        omega
      have hml : n ≤ 512 := by omega
      have HN := Lib.hid hn
      clear hn
      have HO := Lib.hid hown
      have HK := Lib.hid hok
      have HR := Lib.hid hrd
      have HH := Lib.hid hhead
      have HT := Lib.hid htail
      have HB := Lib.hid hbel
      clear hown hok hrd hhead htail hbel
      go_wp2_with (at_builtin; refine wpList_append_lies _ rfl _ _ 41 rfl W.heap.size 61 i0 _ 2 32 Tryd.underlying41 hi hz0 hz1 hz2 rfl (by decide) _ _ _ rfl (HO.out.alloc _) _ 1 1 [.int .i64 a, .slice (some ⟨p, off, none⟩) n cap] rfl rfl (World.news_of_block (heap_alloc_new _ _)) (by intro u hu; simp at hu; rcases hu with rfl | rfl <;> rfl) (by decide) (by unfold maxLen; omega) (by omega) (by have := HB.out.size; simp; omega) _ rfl ?_; intro g5 cap5 w5 hown5 hgrow5 hat5 hlt5)
      have hbb : Below W.heap.size W w5 := by
        refine Below.grown (HB.out.alloc HB.out.size _) hgrow5 (by have := HB.out.size; simp; omega) ?_
        intro j hj
        exact (HO.out.lt j hj).1
      have hB5 : ∀ k, k < B → w5.heap[k]? = wr.heap[k]? := fun k hk => (hbb.block k (by omega)).trans (HB.out.block k (by omega)).symm
      have hs5 : wr.heap.size ≤ w5.heap.size := by have := hgrow5.size; simp at this; omega
      refine ⟨⟨a + n, b.drop n, done ++ [⟨a, b.take n⟩], vs ++ [.slice (some ⟨p, off, none⟩) n cap], ?_, HT.out.same hB5 hs5, rfl, ?_, (HK.out.same hB5 hs5).snoc (HH.out.same hB5 hs5) (by simp only [List.length_take]; omega) (by simp only [List.length_take]; omega), hbb, by rw [List.length_drop]; omega, by rw [List.length_append, List.length_drop]; simp; omega⟩, by show b.length - n < b.length; omega⟩
      · rw [List.length_append, wrCells_append _ _ _ _ HK.out.1]
        exact hown5
      · refine Lib.hid ?_
        have e := hP.out
        obtain ⟨k, hk⟩ : ∃ k, b.length = k + 1 := ⟨b.length - 1, by omega⟩
        rw [hk, Dk.piecesF_step k a b hb0, ← HN.out] at e
        rw [e, List.append_assoc, Dk.piecesF_fuel k (b.drop n).length _ _ (by rw [List.length_drop]; omega) (Nat.le_refl _)]
        rfl

end Go.Proofs.YtegahpgnmeobhaaDoor
