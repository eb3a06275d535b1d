/-
  checkpoint.Open.
-/
import Derived.Test.YtamencnachmhoaaGreatDoorCkOpen
namespace Go.Proofs.YtamencnachmhoaaGreatDoor
open Go.RowKit

theorem ck_Open_nil (W : World) (p : ByteArray) : Calls Tryz.prog 18 #[.pointer none, .string p] W fun e W' => e = .returned (.tuple #[.pointer none, .int .i64 1]) ∧ W = W' := by
  go_enter Tryz.func18, Tryz.ntmps18
  go_wp2_with fail
  go_ret2
  exact ⟨rfl, rfl⟩

set_option maxRecDepth 100000 in
set_option maxHeartbeats 1000000 in
theorem ck_Open {i : Nat} {c : Nat → Nat} {W : World} {g : Nat} {D : Dk.D} (hd : DiskAt i c W g D) (hi : i ≠ 0) (p : ByteArray) (hps : p.size ≤ 1000) (hmany : D.fs.length ≤ 1000000) (hbud : D.bud ≤ 9223372036854775807) :
    Calls Tryz.prog 18 #[.pointer (some ⟨g, 0, none⟩), .string p] W fun e W' => ∃ c', DiskAt i c' W' g (Ck.openC D p.data.toList).1 ∧ Chg i c c' W W' ∧
      ((Ck.openC D p.data.toList).2 = 0 ∧ (∃ s, e = .returned (.tuple #[.pointer (some ⟨s, 0, none⟩), .int .i64 0]) ∧ StIs c' W' s g p.data.toList) ∨
       (Ck.openC D p.data.toList).2 ≠ 0 ∧ e = .returned (.tuple #[.pointer none, .int .i64 (Ck.openC D p.data.toList).2])) := by
  have n1 := ck_named p W (by omega)
  obtain ⟨nm, hnm⟩ : ∃ nm, nm = p.data.toList := ⟨_, rfl⟩
  have hpe : p = ⟨nm.toArray⟩ := by rw [hnm]
  have hnl : nm.length ≤ 1000 := by rw [hnm, Array.length_toList]; exact hps
  rw [← hnm] at n1 ⊢
  have HPE := Lib.hid hpe
  have HQ : Hid (Ck.openC D nm = if Wl.validP nm = false then (D, 6) else if D.down then (D, 32) else Ck.discard D (Ck.tmpName nm)) := Lib.hid rfl
  have HD := Lib.hid hd
  have hsame : ∀ {W' : World}, Below W.heap.size W W' → DiskAt i c W' g D := fun hb => HD.out.chg (Chg.of_belowSame (i := i + 1) hb) (by omega) (by omega)
  have HSM : Hid (∀ W', Below W.heap.size W W' → DiskAt i c W' g D) := Lib.hid (fun W' hb => hsame hb)
  clear hd hnm hpe hsame
  cases hv : Wl.validP nm with
  | false =>
    rw [hv] at n1
    have HR : Hid (Ck.openC D nm = (D, 6)) := Lib.hid (by rw [HQ.out, if_pos hv])
    go_enter Tryz.func18, Tryz.ntmps18
    go_wp2_with fail
    refine n1.mono ?_
    rintro e W1 ⟨rfl, b1⟩
    have HB1 := Lib.hid b1
    clear n1 b1
    go_wp2_with fail
    go_ret2
    rw [HR.out]
    exact ⟨c, HSM.out _ HB1.out, Chg.of_belowSame HB1.out, .inr ⟨by simp, rfl⟩⟩
  | true =>
    rw [hv] at n1
    cases hdn : D.down with
    | true =>
      have HR : Hid (Ck.openC D nm = (D, 32)) := Lib.hid (by rw [HQ.out, if_neg (by rw [hv]; simp), if_pos hdn])
      go_enter Tryz.func18, Tryz.ntmps18
      go_wp2_with fail
      refine n1.mono ?_
      rintro e W1 ⟨rfl, b1⟩
      have HB1 := Lib.hid b1
      have n2 := dk_Down (HSM.out _ b1)
      rw [hdn] at n2
      clear n1 b1
      go_wp2_with fail
      refine n2.mono ?_
      rintro e W2 ⟨rfl, rfl⟩
      clear n2
      go_wp2_with fail
      go_ret2
      rw [HR.out]
      exact ⟨c, HSM.out _ HB1.out, Chg.of_belowSame HB1.out, .inr ⟨by simp, rfl⟩⟩
    | false =>
      have HR : Hid (Ck.openC D nm = Ck.discard D (Ck.tmpName nm)) := Lib.hid (by rw [HQ.out, if_neg (by rw [hv]; simp), if_neg (by rw [hdn]; simp)])
      go_enter Tryz.func18, Tryz.ntmps18
      go_wp2_with fail
      refine n1.mono ?_
      rintro e W1 ⟨rfl, b1⟩
      have HB1 := Lib.hid b1
      have n2 := dk_Down (HSM.out _ b1)
      rw [hdn] at n2
      clear n1 b1
      go_wp2_with fail
      refine n2.mono ?_
      rintro e W2 ⟨rfl, rfl⟩
      clear n2
      obtain ⟨W3, hW3⟩ : ∃ W3, W3 = W1.alloc (.cells #[.pointer (some ⟨g, 0, none⟩), .string p] 102) := ⟨_, rfl⟩
      have b3 : Below W1.heap.size W1 W3 := by rw [hW3]; exact (Below.refl _ _).alloc (Nat.le_refl _) _
      have hrow : W3.heap[W1.heap.size]? = some (.cells #[.pointer (some ⟨g, 0, none⟩), .string ⟨nm.toArray⟩] 102 (0, 0)) := by rw [← HPE.out, hW3]; exact heap_alloc_new _ _
      have hst : StIs (pnt c W1.heap.size 0) W3 W1.heap.size g nm := ⟨hrow, pnt_new (Nat.le_refl _)⟩
      have HC3 : Hid (Chg i c (pnt c W1.heap.size 0) W W3) := Lib.hid ((Chg.of_belowSame (c := c) HB1.out).trans (Chg.of_below' b3 (fun k hk => pnt_old hk)))
      have HD3 : Hid (DiskAt i (pnt c W1.heap.size 0) W3 g D) := Lib.hid ((HSM.out _ HB1.out).chg (Chg.of_below' (i := i + 1) b3 (fun k hk => pnt_old hk)) (by omega) (by omega))
      generalize pnt c W1.heap.size 0 = c3 at *
      have hs3 : W1.heap.size < W3.heap.size := (Array.getElem?_eq_some_iff.1 hrow).1
      have n3 := ck_temporary hst hnl
      have n4 := ck_discard HD3.out hst hi hmany hbud (x := Ck.tmpName nm) (by unfold Ck.tmpName; rw [List.length_append]; show nm.length + 4 ≤ 1000; have := (Ck.vp_parts hv).2.2; omega)
      have HST := Lib.hid hst
      have HW3 := Lib.hid hW3
      clear b3 hrow hst hW3 hs3
      go_wp2_with fail
      rw [← HW3.out]
      refine n3.mono ?_
      rintro e W4 ⟨rfl, rfl⟩
      clear n3
      go_wp2_with fail
      refine n4.mono ?_
      rintro e W5 ⟨c5, rfl, d5, h5⟩
      have HD5 := Lib.hid d5
      have HC5 := Lib.hid (HC3.out.trans h5)
      have HS5 := Lib.hid (HST.out.chg h5 hi)
      clear n4 d5 h5
      obtain ⟨r, hr⟩ : ∃ r, r = Ck.discard D (Ck.tmpName nm) := ⟨_, rfl⟩
      rw [← hr] at HR HD5 ⊢
      clear hr
      by_cases h0 : r.2 = 0
      · rw [h0]
        go_wp2_with fail
        go_ret2
        rw [HR.out]
        exact ⟨c5, HD5.out, HC5.out, .inl ⟨h0, _, rfl, HS5.out⟩⟩
      · go_wp2_with fail
        go_ret2
        rw [HR.out]
        exact ⟨c5, HD5.out, HC5.out, .inr ⟨h0, rfl⟩⟩

end Go.Proofs.YtamencnachmhoaaGreatDoor
