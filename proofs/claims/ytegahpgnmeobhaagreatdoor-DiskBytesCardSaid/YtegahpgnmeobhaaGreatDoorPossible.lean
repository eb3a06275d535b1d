/-
  girolaw10.possible.
-/
import Derived.Test.YtegahpgnmeobhaaGreatDoorRfApply
import Derived.Test.YtegahpgnmeobhaaGreatDoorBytesPlain
namespace Go.Proofs.YtegahpgnmeobhaaGreatDoor
open Go.RowKit

set_option maxRecDepth 100000 in
set_option maxHeartbeats 4000000 in
theorem rf_possible {c : Nat → Nat} {W : World} {x : Re} (h : ReAt c W x) (k : Nat) (b : UInt8) (hk : k < 1073741824) (hp : Dk.Poss x.f.dur x.f.pend k b) :
    Calls Tryz.prog 16 #[x.val, .int .i64 k, .int .u8 b.toNat] W fun e W' => e = .returned (.bool true) ∧ Below W.heap.size W W' := by
  obtain ⟨nm, dv, wv, vs, ⟨d, l⟩⟩ := x
  have hsz := h.size
  have hmany := h.many
  have hwr := h.wr
  obtain ⟨⟨wo, wc, hwv, hwcap, hwx⟩, _⟩ := h.pend
  have hdr := h.dur.1
  unfold Dk.Fl.contents at *
  simp only [] at hsz hmany hwr hwv hwcap hwx hdr hp ⊢
  subst hwv
  have hdl := Dk.contents_dur_le d l
  obtain ⟨W1, hW1⟩ : ∃ W1, W1 = W.alloc (.cells #[.string ⟨nm.toArray⟩, dv, .slice wo l.length wc] 37) := ⟨_, rfl⟩
  have hb01 : Below W.heap.size W W1 := by rw [hW1]; exact (Below.refl _ _).alloc (Nat.le_refl _) _
  have hrow : W1.heap[W.heap.size]? = some (.cells #[.string ⟨nm.toArray⟩, dv, .slice wo l.length wc] 37 (0, 0)) := by rw [hW1]; exact heap_alloc_new W _
  have c1 : W1.cell? ⟨W.heap.size, 1, none⟩ = some dv := by rw [cell_of_row _ _ _ _ _ _ hrow]; rfl
  have c2 : W1.cell? ⟨W.heap.size, 2, none⟩ = some (.slice wo l.length wc) := by rw [cell_of_row _ _ _ _ _ _ hrow]; rfl
  have hdr1 := hdr.below hb01
  obtain ⟨da, dc, rfl⟩ := hdr.form
  have HW := Lib.hid hW1
  have HB01 := Lib.hid hb01
  have HWX := Lib.hid hwx
  have HWR := Lib.hid hwr
  have hb8 := b.toNat_lt
  unfold Re.val
  simp only []
  have i1 : (0 : Int) ≤ k := by omega
  by_cases hlt : k < d.length
  · obtain ⟨dg, doff, dcap, hdv, hdc, hdg, hdgs, hdx⟩ : ∃ g off cap, Value.slice da d.length dc = .slice (some ⟨g, off, none⟩) d.length cap ∧ d.length ≤ cap ∧ g < W.heap.size ∧ g < W1.heap.size ∧ ∀ j c, d[j]? = some c → W1.cell? ⟨g, off + j, none⟩ = some (.int .u8 c.toNat) := by
      rcases hdr1 with ⟨h, _⟩ | h
      · subst h; simp at hlt
      · exact h
    injection hdv with e1 _ e3
    subst e1 e3
    have q := hdx k d[k] (List.getElem?_eq_getElem hlt)
    have i2 : (k : Int) < d.length := by omega
    rw [hW1] at q
    by_cases hdb : d[k] = b
    · rw [hdb] at q
      clear hW1 hb01 hrow hdr1 hdr h hwx hwr hdx hp hwcap hdb
      go_enter Tryz.func16, Tryz.ntmps16
      go_wp2_with fail
      go_ret
      rw [← HW.out]
      exact ⟨rfl, HB01.out⟩
    · have hz8 := d[k].toNat_lt
      have hne : (((d[k].toNat : Int)) == (b.toNat : Int)) = false := by
        simp only [beq_eq_false_iff_ne, ne_eq]
        intro e
        exact hdb (UInt8.toNat_inj.1 (by omega))
      have HLP : Hid (∃ (j0 : Nat) (w : Dk.Wr), l[j0]? = some w ∧ w.off ≤ k ∧ w.b[k - w.off]? = some b) := by
        rcases hp with h1 | ⟨h1, _⟩ | ⟨w, hw, h1, h2⟩
        · rw [List.getElem?_eq_getElem hlt] at h1
          exact absurd (Option.some.inj h1) hdb
        · omega
        · obtain ⟨j, hj⟩ := List.getElem?_of_mem hw
          exact Lib.hid ⟨j, w, hj, h1, h2⟩
      clear hp
      generalize hdz : d[k] = z at *
      clear hW1 hb01 hrow hdr1 hdr h hwx hwr hdx hwcap hdb hdz
      go_enter Tryz.func16, Tryz.ntmps16
      go_wp2_with fail
      rw [← HW.out]
      obtain ⟨j0, w0, hj0, ho0, hx0⟩ := HLP.out
      have HX0 := Lib.hid hx0
      have HJ0 := Lib.hid hj0
      have hj0l := (List.getElem?_eq_some_iff.1 hj0).1
      clear hx0 hj0
      go_loopw [7] (fun iv wr => ∃ i : Nat, iv = .int .i64 i ∧ i ≤ j0 ∧ Hid (wr = W1)) (fun iv _ => l.length - (RowKit.intOf iv).toNat)
      case atStart => exact ⟨0, rfl, Nat.zero_le _, Lib.hid rfl⟩
      case round =>
        obtain ⟨i, rfl, hi, HWE⟩ := hrel
        obtain rfl := HWE.out
        have hil : i < l.length := by omega
        obtain ⟨wg, rfl, hwg, hwc⟩ := HWX.out (by omega)
        have hvk : i < vs.length := by rw [HWR.out.1]; exact hil
        obtain ⟨e1, e2⟩ := wrCells_at l vs i l[i] vs[i] (List.getElem?_eq_getElem hil) (List.getElem?_eq_getElem hvk)
        obtain ⟨o1, o2, o3⟩ := HWR.out.2 i l[i] vs[i] (List.getElem?_eq_getElem hil) (List.getElem?_eq_getElem hvk)
        have d1 := (HB01.out.cell (p := ⟨wg, i * 2, none⟩) hwg).trans (hwc _ _ e1)
        have d2 := (HB01.out.cell (p := ⟨wg, i * 2 + 1, none⟩) hwg).trans (hwc _ _ e2)
        obtain ⟨u, hu⟩ : ∃ u, u = l[i] := ⟨_, rfl⟩
        have HIJ : Hid (i = j0 → u = w0) := Lib.hid (fun e => by
          subst e
          have := HJ0.out
          rw [List.getElem?_eq_getElem hil] at this
          rw [hu]; exact Option.some.inj this)
        rw [← hu] at o1 o2 o3 d1
        obtain ⟨ub, uo⟩ : ∃ n : Nat, n = u.off := ⟨_, rfl⟩
        rw [← uo] at d1 o3
        have HUO := Lib.hid uo
        clear uo
        rcases o1.1 with ⟨h, _⟩ | ⟨bg, boff, bcap, hbv, hbc, hbg, hbgs, hbx⟩
        · rw [h] at o2; simp at o2
        rw [hbv] at d2
        have hr1 : (0 : Int) ≤ i := by omega
        have hr2 : (i : Int) < l.length := by omega
        by_cases hok : ub ≤ k
        · obtain ⟨m, hm⟩ : ∃ m, m = k - ub := ⟨_, rfl⟩
          have hmI : (k : Int) - (ub : Int) = (m : Int) := by omega
          have HM := Lib.hid hm
          clear hm
          by_cases hml : m < u.b.length
          · have q := (HB01.out.cell (p := ⟨bg, boff + m, none⟩) hbg).trans (hbx m u.b[m] (List.getElem?_eq_getElem hml))
            have hm2 : (m : Int) < u.b.length := by omega
            have hm1 : (0 : Int) ≤ m := by omega
            by_cases hub : u.b[m] = b
            · rw [hub] at q
              clear hub hbx hbv o1 o2 o3 e1 e2 hwc hu hml hbc HIJ
              generalize u.b.length = ul at *
              go_wp2_with fail
              go_ret
              exact ⟨rfl, HB01.out⟩
            · have hy8 := (u.b[m]).toNat_lt
              have hne3 : (((u.b[m]).toNat : Int) == (b.toNat : Int)) = false := by
                simp only [beq_eq_false_iff_ne, ne_eq]
                intro e
                exact hub (UInt8.toNat_inj.1 (by omega))
              have hij : i ≠ j0 := by
                intro e
                have e2 := HIJ.out e
                have hx := HX0.out
                rw [← e2, ← HUO.out, ← HM.out, List.getElem?_eq_getElem hml] at hx
                exact hub (Option.some.inj hx)
              clear HIJ hbx hbv o1 o2 o3 e1 e2 hwc hu hbc
              generalize u.b[m] = y at *
              clear hml hub
              generalize u.b.length = ul at *
              go_wp2_with fail
              exact ⟨⟨i + 1, by go_num, by omega, by first | exact Lib.hid rfl | exact Lib.hid trivial⟩, by simp [RowKit.intOf]; omega⟩
          · have hm2 : ¬ (m : Int) < u.b.length := by omega
            have hm1 : (0 : Int) ≤ m := by omega
            have hij : i ≠ j0 := by
              intro e
              have e2 := HIJ.out e
              have hx := HX0.out
              rw [← e2, ← HUO.out, ← HM.out, List.getElem?_eq_none (by omega)] at hx
              cases hx
            clear hbx hbv o1 o2 o3 e1 e2 hwc hu hml hbc HIJ
            generalize u.b.length = ul at *
            go_wp2_with fail
            exact ⟨⟨i + 1, by go_num, by omega, by first | exact Lib.hid rfl | exact Lib.hid trivial⟩, by simp [RowKit.intOf]; omega⟩
        · have hn : ¬ (0 : Int) ≤ (k : Int) - (ub : Int) := by omega
          have hwr64 : wrap64 ((k : Int) - (ub : Int)) = (k : Int) - (ub : Int) := by unfold wrap64; omega
          have hij : i ≠ j0 := by
            intro e
            have e2 := HIJ.out e
            rw [← e2, ← HUO.out] at ho0
            exact absurd ho0 hok
          clear hbx hbv o1 o2 o3 e1 e2 hwc hu hbc HIJ
          generalize u.b.length = ul at *
          go_wp2_with fail
          exact ⟨⟨i + 1, by go_num, by omega, by first | exact Lib.hid rfl | exact Lib.hid trivial⟩, by simp [RowKit.intOf]; omega⟩
  · have i2 : ¬ (k : Int) < d.length := by omega
    by_cases hb0 : b = 0
    · subst hb0
      clear hW1 hb01 hrow hdr1 hdr h hwx hwr hp hwcap
      go_enter Tryz.func16, Tryz.ntmps16
      go_wp2_with fail
      go_ret
      rw [← HW.out]
      exact ⟨rfl, HB01.out⟩
    · have hne : ((b.toNat : Int) == 0) = false := by
        simp only [beq_eq_false_iff_ne, ne_eq]
        intro e
        exact hb0 (UInt8.toNat_inj.1 (by simp; omega))
      have HLP : Hid (∃ (j0 : Nat) (w : Dk.Wr), l[j0]? = some w ∧ w.off ≤ k ∧ w.b[k - w.off]? = some b) := by
        rcases hp with h1 | ⟨_, h1⟩ | ⟨w, hw, h1, h2⟩
        · rw [List.getElem?_eq_none (by omega)] at h1
          cases h1
        · exact absurd h1 hb0
        · obtain ⟨j, hj⟩ := List.getElem?_of_mem hw
          exact Lib.hid ⟨j, w, hj, h1, h2⟩
      clear hW1 hb01 hrow hdr1 hdr h hwx hwr hwcap hb0 hp
      go_enter Tryz.func16, Tryz.ntmps16
      go_wp2_with fail
      rw [← HW.out]
      obtain ⟨j0, w0, hj0, ho0, hx0⟩ := HLP.out
      have HX0 := Lib.hid hx0
      have HJ0 := Lib.hid hj0
      have hj0l := (List.getElem?_eq_some_iff.1 hj0).1
      clear hx0 hj0
      go_loopw [7] (fun iv wr => ∃ i : Nat, iv = .int .i64 i ∧ i ≤ j0 ∧ Hid (wr = W1)) (fun iv _ => l.length - (RowKit.intOf iv).toNat)
      case atStart => exact ⟨0, rfl, Nat.zero_le _, Lib.hid rfl⟩
      case round =>
        obtain ⟨i, rfl, hi, HWE⟩ := hrel
        obtain rfl := HWE.out
        have hil : i < l.length := by omega
        obtain ⟨wg, rfl, hwg, hwc⟩ := HWX.out (by omega)
        have hvk : i < vs.length := by rw [HWR.out.1]; exact hil
        obtain ⟨e1, e2⟩ := wrCells_at l vs i l[i] vs[i] (List.getElem?_eq_getElem hil) (List.getElem?_eq_getElem hvk)
        obtain ⟨o1, o2, o3⟩ := HWR.out.2 i l[i] vs[i] (List.getElem?_eq_getElem hil) (List.getElem?_eq_getElem hvk)
        have d1 := (HB01.out.cell (p := ⟨wg, i * 2, none⟩) hwg).trans (hwc _ _ e1)
        have d2 := (HB01.out.cell (p := ⟨wg, i * 2 + 1, none⟩) hwg).trans (hwc _ _ e2)
        obtain ⟨u, hu⟩ : ∃ u, u = l[i] := ⟨_, rfl⟩
        have HIJ : Hid (i = j0 → u = w0) := Lib.hid (fun e => by
          subst e
          have := HJ0.out
          rw [List.getElem?_eq_getElem hil] at this
          rw [hu]; exact Option.some.inj this)
        rw [← hu] at o1 o2 o3 d1
        obtain ⟨ub, uo⟩ : ∃ n : Nat, n = u.off := ⟨_, rfl⟩
        rw [← uo] at d1 o3
        have HUO := Lib.hid uo
        clear uo
        rcases o1.1 with ⟨h, _⟩ | ⟨bg, boff, bcap, hbv, hbc, hbg, hbgs, hbx⟩
        · rw [h] at o2; simp at o2
        rw [hbv] at d2
        have hr1 : (0 : Int) ≤ i := by omega
        have hr2 : (i : Int) < l.length := by omega
        by_cases hok : ub ≤ k
        · obtain ⟨m, hm⟩ : ∃ m, m = k - ub := ⟨_, rfl⟩
          have hmI : (k : Int) - (ub : Int) = (m : Int) := by omega
          have HM := Lib.hid hm
          clear hm
          by_cases hml : m < u.b.length
          · have q := (HB01.out.cell (p := ⟨bg, boff + m, none⟩) hbg).trans (hbx m u.b[m] (List.getElem?_eq_getElem hml))
            have hm2 : (m : Int) < u.b.length := by omega
            have hm1 : (0 : Int) ≤ m := by omega
            by_cases hub : u.b[m] = b
            · rw [hub] at q
              clear hub hbx hbv o1 o2 o3 e1 e2 hwc hu hml hbc HIJ
              generalize u.b.length = ul at *
              go_wp2_with fail
              go_ret
              exact ⟨rfl, HB01.out⟩
            · have hy8 := (u.b[m]).toNat_lt
              have hne3 : (((u.b[m]).toNat : Int) == (b.toNat : Int)) = false := by
                simp only [beq_eq_false_iff_ne, ne_eq]
                intro e
                exact hub (UInt8.toNat_inj.1 (by omega))
              have hij : i ≠ j0 := by
                intro e
                have e2 := HIJ.out e
                have hx := HX0.out
                rw [← e2, ← HUO.out, ← HM.out, List.getElem?_eq_getElem hml] at hx
                exact hub (Option.some.inj hx)
              clear HIJ hbx hbv o1 o2 o3 e1 e2 hwc hu hbc
              generalize u.b[m] = y at *
              clear hml hub
              generalize u.b.length = ul at *
              go_wp2_with fail
              exact ⟨⟨i + 1, by go_num, by omega, by first | exact Lib.hid rfl | exact Lib.hid trivial⟩, by simp [RowKit.intOf]; omega⟩
          · have hm2 : ¬ (m : Int) < u.b.length := by omega
            have hm1 : (0 : Int) ≤ m := by omega
            have hij : i ≠ j0 := by
              intro e
              have e2 := HIJ.out e
              have hx := HX0.out
              rw [← e2, ← HUO.out, ← HM.out, List.getElem?_eq_none (by omega)] at hx
              cases hx
            clear hbx hbv o1 o2 o3 e1 e2 hwc hu hml hbc HIJ
            generalize u.b.length = ul at *
            go_wp2_with fail
            exact ⟨⟨i + 1, by go_num, by omega, by first | exact Lib.hid rfl | exact Lib.hid trivial⟩, by simp [RowKit.intOf]; omega⟩
        · have hn : ¬ (0 : Int) ≤ (k : Int) - (ub : Int) := by omega
          have hwr64 : wrap64 ((k : Int) - (ub : Int)) = (k : Int) - (ub : Int) := by unfold wrap64; omega
          have hij : i ≠ j0 := by
            intro e
            have e2 := HIJ.out e
            rw [← e2, ← HUO.out] at ho0
            exact absurd ho0 hok
          clear hbx hbv o1 o2 o3 e1 e2 hwc hu hbc HIJ
          generalize u.b.length = ul at *
          go_wp2_with fail
          exact ⟨⟨i + 1, by go_num, by omega, by first | exact Lib.hid rfl | exact Lib.hid trivial⟩, by simp [RowKit.intOf]; omega⟩

end Go.Proofs.YtegahpgnmeobhaaGreatDoor
