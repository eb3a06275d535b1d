/-
  checkpoint: load, what a file holds.
-/
import Derived.Test.YtamencnachmhoaaGreatDoorCkOpens
import Derived.Test.YtamencnachmhoaaGreatDoorCkDecode
import Derived.Test.YtamencnachmhoaaGreatDoorDkRead
namespace Go.Proofs.YtamencnachmhoaaGreatDoor
open Go.RowKit

theorem DiskAt.rlen {i : Nat} {c : Nat → Nat} {W : World} {g : Nat} {D : Dk.D} (h : DiskAt i c W g D) (n : Ck.Bs) : (D.read n).1.length ≤ 16777216 := by
  obtain ⟨m, xs, h⟩ := h
  unfold Dk.D.read
  split
  · simp
  · split
    · simp
    · rename_i f hf
      unfold Dk.find at hf
      cases hp : D.fs.find? (fun p => p.1 == n) with
      | none => rw [hp] at hf; cases hf
      | some y =>
        rw [hp] at hf
        have hy := List.mem_of_find?_eq_some hp
        rw [h.fs] at hy
        obtain ⟨x, hx, hxe⟩ := List.mem_map.1 hy
        have : x.f = f := by
          have h2 : y.2 = f := by simpa using hf
          rw [← h2, ← hxe]; rfl
        rw [← this]
        exact (h.file x hx).size

theorem ld_S_step {w w3 : World} {s b : Nat} {x0 y0 : Value} (H : w.cell? ⟨s, 0, none⟩ = some x0 ∧ w.cell? ⟨b, 0, none⟩ = some y0) (hb : Below w.heap.size w w3) : w3.cell? ⟨s, 0, none⟩ = some x0 ∧ w3.cell? ⟨b, 0, none⟩ = some y0 :=
  ⟨(hb.cell (World.block_lt_of_cell? w _ H.1)).trans H.1, (hb.cell (World.block_lt_of_cell? w _ H.2)).trans H.2⟩

set_option maxRecDepth 100000 in
set_option maxHeartbeats 1000000 in
theorem ck_load {i : Nat} {c : Nat → Nat} {W : World} {s g : Nat} {D : Dk.D} {nm x : Ck.Bs} {n : Nat} (hd : DiskAt i c W g D) (hs : StIs c W s g nm) (hi : i ≠ 0) (hx : x.length ≤ 1000) :
    Calls Tryz.prog 70 #[.pointer (some ⟨s, 0, none⟩), .agg #[.string ⟨x.toArray⟩, .int .i64 n]] W fun e W' => Below W.heap.size W W' ∧
      ((∃ d v, Ck.loadF D (x, n) = some d ∧ e = .returned (.tuple #[v, .bool true]) ∧ W'.ownsRow W.heap.size 5 1 v d.length (dkCells d)) ∨
       (Ck.loadF D (x, n) = none ∧ ∃ a k cp, e = .returned (.tuple #[.slice a k cp, .bool false]))) := by
  obtain ⟨W1, hW1⟩ : ∃ W1, W1 = W.alloc (.cells #[.string ⟨x.toArray⟩, .int .i64 n] 113) := ⟨_, rfl⟩
  have b1 : Below W.heap.size W W1 := by rw [hW1]; exact (Below.refl _ _).alloc (Nat.le_refl _) _
  have hrow : W1.heap[W.heap.size]? = some (.cells #[.string ⟨x.toArray⟩, .int .i64 n] 113 (0, 0)) := by rw [hW1]; exact heap_alloc_new _ _
  have y0 : W1.cell? ⟨W.heap.size, 0, none⟩ = some (.string ⟨x.toArray⟩) := by rw [cell_of_row _ _ _ _ _ _ hrow]; rfl
  have y1 : W1.cell? ⟨W.heap.size, 1, none⟩ = some (.int .i64 n) := by rw [cell_of_row _ _ _ _ _ _ hrow]; rfl
  obtain ⟨x0, x1⟩ := (hs.below b1).cells
  have hC1 : Chg (i + 1) c c W W1 := Chg.of_belowSame b1
  have hd1 : DiskAt i c W1 g D := hd.chg hC1 (by omega) (by omega)
  obtain ⟨r, hr⟩ : ∃ r, r = D.read x := ⟨_, rfl⟩
  have hrl := hd.rlen x
  have nR : Hid (∀ o, Below W1.heap.size W1 o → Calls Tryz.prog 26 #[.pointer (some ⟨g, 0, none⟩), .string ⟨x.toArray⟩] o fun e W' => ∃ v, e = .returned (.tuple #[v, .int .i64 r.2]) ∧ W'.ownsRow o.heap.size 5 1 v r.1.length (dkCells r.1) ∧ Below o.heap.size o W') :=
    Lib.hid (fun o ho => by
      have h2 := dk_Read (hd1.chg (Chg.of_belowSame (i := i + 1) ho) (by omega) (by omega)) ⟨x.toArray⟩ (by show x.toArray.size ≤ _; simp; omega)
      rw [hr]
      exact h2)
  have HL : Hid (Ck.loadF D (x, n) = if r.2 ≠ 0 then none else if (Ck.decode r.1).2.2 = 0 ∧ (Ck.decode r.1).1 = n then some (Ck.decode r.1).2.1 else none) := Lib.hid (by rw [hr]; rfl)
  rw [← hr] at hrl
  have HW1 := Lib.hid hW1
  have HB1 := Lib.hid b1
  have HROW := Lib.hid hrow
  clear hd hs hd1 hC1 x1 hr hW1 b1 hrow
  go_enter Tryz.func70, Tryz.ntmps70
  go_upto_region 1 with fail
  rw [← HW1.out]
  go_region_held3 (fun w' => w'.cell? ⟨s, 0, none⟩ = some (.pointer (some ⟨g, 0, none⟩)) ∧ w'.cell? ⟨W.heap.size, 0, none⟩ = some (.string ⟨x.toArray⟩))
    (first | assumption | (refine ⟨?_, ?_⟩ <;> first | assumption | go_keep) | go_keep)
    (first
      | (go_at_call 26; refine (nR.out _ (by first | exact Below.refl _ _ | exact (Below.refl _ _).drew)).mono ?_; rintro e w2 ⟨vr, rfl, o2, b2⟩; have hS2 := ld_S_step (by assumption) b2))
  have bd2 : Below W1.heap.size W1 w2 := Below.trans (Below.drew (Below.refl W1.heap.size W1)) b2
  have HB2 := Lib.hid (HB1.out.trans (bd2.mono HB1.out.size))
  have HO2 : Hid (RdB w2 w2.heap.size vr r.1) := Lib.hid (RdB.of_own o2)
  have y2 : w2.cell? ⟨W.heap.size, 1, none⟩ = some (.int .i64 n) := (bd2.cell (p := ⟨W.heap.size, 1, none⟩) (Array.getElem?_eq_some_iff.1 HROW.out).1).trans y1
  obtain ⟨a2, k2, rfl⟩ := own_slice o2
  have hbl : W.heap.size < w2.heap.size := World.block_lt_of_cell? w2 _ y2
  clear nR x0 y0 y1 bd2 b2 o2 hS2
  obtain ⟨rb, re⟩ := r
  simp only [] at hrl HL HO2
  by_cases hre : re = 0
  · subst hre
    have n3 := ck_Decode w2 _ rb HO2.out hrl
    have HL2 : Hid (Ck.loadF D (x, n) = if (Ck.decode rb).2.2 = 0 ∧ (Ck.decode rb).1 = n then some (Ck.decode rb).2.1 else none) := Lib.hid (by rw [HL.out, if_neg (by simp)])
    clear HL
    generalize Ck.decode rb = q at *
    obtain ⟨qn, qd, qe⟩ := q
    simp only [] at n3 HL2
    go_wp2_with fail
    refine n3.mono ?_
    rintro e w3 ⟨v3, rfl, o3, b3⟩
    have HB3 := Lib.hid (HB2.out.trans (b3.mono HB2.out.size))
    have y3 : w3.cell? ⟨W.heap.size, 1, none⟩ = some (.int .i64 n) := (b3.cell (p := ⟨W.heap.size, 1, none⟩) hbl).trans y2
    have HO3 : Hid (w3.ownsRow W.heap.size 5 1 v3 qd.length (dkCells qd)) := Lib.hid (owns_mono o3 HB2.out.size)
    obtain ⟨a3, k3, rfl⟩ := own_slice o3
    clear n3 o3 b3 y2
    by_cases hqe : qe = 0
    · subst hqe
      by_cases hqn : qn = n
      · have hqb : ((qn : Int) == (n : Int)) = true := by rw [hqn]; simp
        have HF : Hid (Ck.loadF D (x, n) = some qd) := Lib.hid (by rw [HL2.out, if_pos ⟨rfl, hqn⟩])
        clear hqn
        go_upto_region 5 with fail
        go_quiet (fail)
        have hbn : Below w3.heap.size w3 (w3.drewN nq) := dk_below_drewN (Below.refl _ _) nq
        have HB4 := Lib.hid (HB3.out.trans (hbn.mono HB3.out.size))
        have HO4 : Hid ((w3.drewN nq).ownsRow W.heap.size 5 1 (.slice a3 qd.length k3) qd.length (dkCells qd)) := Lib.hid (own_keep HO3.out (fun g hg => hbn.block g (HO3.out.lt g hg).2))
        clear hbn
        go_wp2_with fail
        go_ret2
        exact ⟨HB4.out, .inl ⟨qd, _, HF.out, by first | rfl | (simp [hqb]), HO4.out⟩⟩
      · have hqb : ((qn : Int) == (n : Int)) = false := by rw [beq_eq_false_iff_ne]; omega
        have HF : Hid (Ck.loadF D (x, n) = none) := Lib.hid (by rw [HL2.out, if_neg (fun h => hqn h.2)])
        clear hqn
        go_upto_region 5 with fail
        go_quiet (fail)
        have hbn : Below w3.heap.size w3 (w3.drewN nq) := dk_below_drewN (Below.refl _ _) nq
        have HB4 := Lib.hid (HB3.out.trans (hbn.mono HB3.out.size))
        clear hbn
        go_wp2_with fail
        go_ret2
        exact ⟨HB4.out, .inr ⟨HF.out, _, _, _, by first | rfl | (simp [hqb])⟩⟩
    · have HF : Hid (Ck.loadF D (x, n) = none) := Lib.hid (by rw [HL2.out, if_neg (fun h => hqe h.1)])
      go_upto_region 5 with fail
      go_quiet (fail)
      have hbn : Below w3.heap.size w3 (w3.drewN nq) := dk_below_drewN (Below.refl _ _) nq
      have HB4 := Lib.hid (HB3.out.trans (hbn.mono HB3.out.size))
      clear hbn
      go_wp2_with fail
      go_ret2
      exact ⟨HB4.out, .inr ⟨HF.out, _, _, _, by first | rfl | simp⟩⟩
  · have HF : Hid (Ck.loadF D (x, n) = none) := Lib.hid (by rw [HL.out, if_pos hre])
    go_wp2_with fail
    go_ret2
    exact ⟨HB2.out, .inr ⟨HF.out, _, _, _, rfl⟩⟩

end Go.Proofs.YtamencnachmhoaaGreatDoor
