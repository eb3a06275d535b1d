/-
  known: the example of the chapter.
-/
import Derived.Test.YtegahpgnmeobhaaDoorDkRestart3
namespace Go.Proofs.YtegahpgnmeobhaaDoor
open Go.RowKit

/-- 'string(b)' over bytes that are read -/
theorem dk_conv {W : World} {B : Nat} {v : Value} {l : Dk.Bs} (h : RdB W B v l) : ∀ W' : World, W'.heap = W.heap → (convert 23 9 v).run Tryd.prog W' = .ok (.string ⟨l.toArray⟩) W' := by
  intro W' hW
  rcases h with ⟨rfl, a, cap, rfl⟩ | ⟨g, off, cap, rfl, _, _, _, hx⟩
  · cases a with
    | none => exact run_convert_bytes_nil W' _ _ Tryd.underlying23 Tryd.underlying5 0 cap _ Tryd.underlying9
    | some a => exact run_convert_bytes_back W' _ _ _ a cap [] Tryd.underlying23 Tryd.underlying5 Tryd.underlying9 (fun j hj => by simp at hj)
  · refine run_convert_bytes_back W' _ _ _ ⟨g, off, none⟩ cap l Tryd.underlying23 Tryd.underlying5 Tryd.underlying9 (fun j hj => ?_)
    rw [dk_add, World.cell?_of_block (w := W) (w' := W') (a := ⟨g, off + j, none⟩) (by rw [hW])]
    exact hx j _ (List.getElem?_eq_getElem hj)

/-- what is ahead of W is untouched, and of colour 0 -/
def Kn (W Wk : World) (c : Nat → Nat) : Prop := Below W.heap.size W Wk ∧ ∀ b, b < W.heap.size → c b = 0
theorem Kn.chg {W Wk W' : World} {c c' : Nat → Nat} {i : Nat} (h : Kn W Wk c) (hc : Chg i c c' Wk W') (hi : i ≠ 0) : Kn W W' c' :=
  ⟨h.1.trans (hc.below h.1.size (fun b hb => by rw [h.2 b hb]; omega)), fun b hb => (hc.col b (Nat.lt_of_lt_of_le hb h.1.size)).trans (h.2 b hb)⟩

/-- bytes that are laid now -/
theorem RdC.made {W : World} {c : Nat → Nat} (l : Dk.Bs) (cs : Array Value) (hcs : cs.toList = dkCells l) (t : TypeId) : RdC (pnt c W.heap.size 0) (W.alloc (.cells cs t)) (.slice (some ⟨W.heap.size, 0, none⟩) l.length l.length) l := by
  refine ⟨.inr ⟨W.heap.size, 0, l.length, rfl, Nat.le_refl _, by simp, by simp, fun j x hj => ?_⟩, fun _ g hg => ?_⟩
  · rw [cell_of_row _ _ _ _ _ _ (heap_alloc_new W _), Nat.zero_add, ← Array.getElem?_toList, hcs]
    exact dkCells_at l j x hj
  · simp only [Value.ownBlock, Option.some.injEq] at hg
    subst hg
    exact pnt_new (Nat.le_refl _)

def kd (f : Dk.Fl) (dn : Bool) : Dk.D := ⟨[([102], f)], -1, dn⟩
theorem kn1 : Dk.D.create ⟨[], -1, false⟩ [102] = (kd ⟨[], []⟩ false, 0) := by kernel_rfl
theorem kn2 : Dk.D.write (kd ⟨[], []⟩ false) [102] (fun n => n) [1, 2, 3] = (kd ⟨[], [⟨0, [1, 2, 3]⟩]⟩ false, 0) := by kernel_rfl
theorem kn3 : Dk.D.sync (kd ⟨[], [⟨0, [1, 2, 3]⟩]⟩ false) [102] = (kd ⟨[1, 2, 3], []⟩ false, 0) := by kernel_rfl
theorem kn4 : Dk.D.write (kd ⟨[1, 2, 3], []⟩ false) [102] (fun n => n) [4, 5, 6] = (kd ⟨[1, 2, 3], [⟨3, [4, 5, 6]⟩]⟩ false, 0) := by kernel_rfl
theorem kn5 : Dk.D.crash (kd ⟨[1, 2, 3], [⟨3, [4, 5, 6]⟩]⟩ false) = (kd ⟨[1, 2, 3], [⟨3, [4, 5, 6]⟩]⟩ true, 0) := by kernel_rfl
theorem kn6 : Dk.D.restart (kd ⟨[1, 2, 3], [⟨3, [4, 5, 6]⟩]⟩ true) [0, 0, 2] = (kd ⟨[1, 2, 3, 4, 5], []⟩ false, 0) := by kernel_rfl
theorem kn7 : Dk.D.restart (kd ⟨[1, 2, 3], [⟨3, [4, 5, 6]⟩]⟩ true) [0, 1] = (kd ⟨[1, 2, 3, 4, 5, 6], []⟩ false, 0) := by kernel_rfl
theorem kn8 : Dk.D.read (kd ⟨[1, 2, 3, 4, 5], []⟩ false) [102] = ([1, 2, 3, 4, 5], 0) := by kernel_rfl
theorem kn9 : Dk.D.read (kd ⟨[1, 2, 3, 4, 5, 6], []⟩ false) [102] = ([1, 2, 3, 4, 5, 6], 0) := by kernel_rfl

theorem dk_bw {c c' : Nat → Nat} {W W' : World} (hb : Below W.heap.size W W') (hc : ∀ k, k < W.heap.size → c' k = c k) : Chg 3 c c' W W' := Chg.of_below' hb hc

set_option maxRecDepth 100000 in
set_option maxHeartbeats 4000000 in
theorem dk_known (W : World) : Calls Tryd.prog 6 #[] W fun e W' => e = .returned (.bool true) ∧ Below W.heap.size W W' := by
  have n0 := dk_new W 1 (fun _ => 0) (by decide)
  go_enter Tryd.func6, Tryd.ntmps6
  go_wp2_with fail
  refine n0.mono ?_
  rintro e W1 ⟨g, rfl, d1, b1⟩
  have K1 : Kn W W1 (pnt (fun _ => 0) W.heap.size 1) := ⟨b1, fun b hb => pnt_old hb⟩
  generalize pnt (fun _ => 0) W.heap.size 1 = c1 at *
  have n1 := dk_create d1 ⟨#[102]⟩ (by decide) (by decide) (by decide)
  rw [show (⟨#[102]⟩ : ByteArray).data.toList = [102] from rfl, kn1] at n1
  clear n0 b1 d1
  go_wp2_with fail
  refine n1.mono ?_
  rintro e W2 ⟨c2, rfl, d2, h2⟩
  have K2 := K1.chg h2 (by decide)
  clear n1 h2 K1
  have d3 := d2.chg (Chg.alloc (i := 2) (.cells #[.int .u8 1, .int .u8 2, .int .u8 3] 5) 0) (by decide) (by decide)
  have K3 := K2.chg (Chg.alloc (i := 2) (.cells #[.int .u8 1, .int .u8 2, .int .u8 3] 5) 0) (by decide)
  have n3 := dk_Append d3 ⟨#[102]⟩ (by decide) (by decide) [1, 2, 3] _ (RdC.made [1, 2, 3] #[.int .u8 1, .int .u8 2, .int .u8 3] rfl 5) (by decide) (by intro f hf; cases hf; decide)
  rw [show (⟨#[102]⟩ : ByteArray).data.toList = [102] from rfl, kn2] at n3
  clear d2 d3 K2
  go_wp2_with fail
  refine n3.mono ?_
  rintro e W4 ⟨c4, rfl, d4, h4⟩
  have K4 := K3.chg h4 (by decide)
  clear n3 h4 K3
  have n5 := dk_Sync d4 ⟨#[102]⟩ (by decide) (by decide)
  rw [show (⟨#[102]⟩ : ByteArray).data.toList = [102] from rfl, kn3] at n5
  clear d4
  go_wp2_with fail
  refine n5.mono ?_
  rintro e W5 ⟨c5, rfl, d5, h5⟩
  have K5 := K4.chg h5 (by decide)
  clear n5 h5 K4
  have d6 := d5.chg (Chg.alloc (i := 2) (.cells #[.int .u8 4, .int .u8 5, .int .u8 6] 5) 0) (by decide) (by decide)
  have K6 := K5.chg (Chg.alloc (i := 2) (.cells #[.int .u8 4, .int .u8 5, .int .u8 6] 5) 0) (by decide)
  have n6 := dk_Append d6 ⟨#[102]⟩ (by decide) (by decide) [4, 5, 6] _ (RdC.made [4, 5, 6] #[.int .u8 4, .int .u8 5, .int .u8 6] rfl 5) (by decide) (by intro f hf; cases hf; decide)
  rw [show (⟨#[102]⟩ : ByteArray).data.toList = [102] from rfl, kn4] at n6
  clear d5 d6 K5
  go_wp2_with fail
  refine n6.mono ?_
  rintro e W7 ⟨c7, rfl, d7, h7⟩
  have K7 := K6.chg h7 (by decide)
  clear n6 h7 K6
  have n8 := dk_Crash d7
  rw [kn5] at n8
  clear d7
  go_wp2_with fail
  refine n8.mono ?_
  rintro e W8 ⟨c8, rfl, d8, h8⟩
  have K8 := K7.chg h8 (by decide)
  clear n8 h8 K7
  have n9 := dk_Clone d8 2 (by decide) (by decide) (by decide)
  go_wp2_with fail
  refine n9.mono ?_
  rintro e W9 ⟨g', c9, rfl, o9, b9, e9⟩
  have d9 := d8.chg (dk_bw b9 e9) (by decide) (by decide)
  have K9 := K8.chg (dk_bw b9 e9) (by decide)
  clear n9 b9 e9 K8 d8
  have d10 := d9.chg (Chg.alloc (i := 3) (.cells #[.int .u8 0, .int .u8 0, .int .u8 2] 5) 0) (by decide) (by decide)
  have o10 := o9.chg (Chg.alloc (i := 3) (.cells #[.int .u8 0, .int .u8 0, .int .u8 2] 5) 0) (by decide) (by decide)
  have K10 := K9.chg (Chg.alloc (i := 3) (.cells #[.int .u8 0, .int .u8 0, .int .u8 2] 5) 0) (by decide)
  have n10 := dk_Restart d10 _ [0, 0, 2] (RdC.made [0, 0, 2] #[.int .u8 0, .int .u8 0, .int .u8 2] rfl 5) (by decide) (by decide) (by intro p hp; simp [kd] at hp; subst hp; decide)
  rw [kn6] at n10
  clear d9 o9 K9 d10
  go_wp2_with fail
  refine n10.mono ?_
  rintro e W11 ⟨c11, rfl, d11, h11⟩
  have o11 := o10.chg h11 (by decide) (by decide)
  have K11 := K10.chg h11 (by decide)
  clear n10 h11 K10 o10
  have d12 := d11.chg (Chg.alloc (i := 3) (.cells #[.int .u8 0, .int .u8 1] 5) 0) (by decide) (by decide)
  have o12 := o11.chg (Chg.alloc (i := 3) (.cells #[.int .u8 0, .int .u8 1] 5) 0) (by decide) (by decide)
  have K12 := K11.chg (Chg.alloc (i := 3) (.cells #[.int .u8 0, .int .u8 1] 5) 0) (by decide)
  have n12 := dk_Restart o12 _ [0, 1] (RdC.made [0, 1] #[.int .u8 0, .int .u8 1] rfl 5) (by decide) (by decide) (by intro p hp; simp [kd] at hp; subst hp; decide)
  rw [kn7] at n12
  clear d11 o11 K11 o12
  go_wp2_with fail
  refine n12.mono ?_
  rintro e W13 ⟨c13, rfl, o13, h13⟩
  have d13 := d12.chg h13 (by decide) (by decide)
  have K13 := K12.chg h13 (by decide)
  clear n12 h13 K12 d12
  have n13 := dk_Read d13 ⟨#[102]⟩ (by decide)
  rw [show (⟨#[102]⟩ : ByteArray).data.toList = [102] from rfl, kn8] at n13
  clear d13
  go_wp2_with fail
  refine n13.mono ?_
  rintro e W14 ⟨va, rfl, hva, b14⟩
  have o14 := o13.chg (Chg.of_below (i := 3) b14 0) (by decide) (by decide)
  have ra := RdB.of_own hva
  have K14 : Below W.heap.size W W14 := K13.1.trans (b14.mono K13.1.size)
  clear n13 hva b14 o13 K13
  have n14 := dk_Read o14 ⟨#[102]⟩ (by decide)
  rw [show (⟨#[102]⟩ : ByteArray).data.toList = [102] from rfl, kn9] at n14
  clear o14
  obtain ⟨aa, ac, rfl⟩ := ra.form
  go_wp2_with fail
  refine n14.mono ?_
  rintro e W15 ⟨vb, rfl, hvb, b15⟩
  have K15 : Below W.heap.size W W15 := K14.trans (b15.mono K14.size)
  have q1 := dk_conv (ra.below b15) W15 rfl
  have q2 := dk_conv (RdB.of_own hvb) W15 rfl
  obtain ⟨ba, bc, rfl⟩ := dk_own_form hvb
  simp only [List.length_cons, List.length_nil, Nat.reduceAdd] at q1 q2
  clear n14 ra hvb b15 K14
  go_wp2_with fail
  go_ret
  exact ⟨rfl, K15⟩

end Go.Proofs.YtegahpgnmeobhaaDoor
