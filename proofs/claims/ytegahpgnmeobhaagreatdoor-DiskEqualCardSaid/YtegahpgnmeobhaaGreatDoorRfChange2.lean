/-
  THE REFERENCE: change: Append.
-/
import Derived.Test.YtegahpgnmeobhaaGreatDoorRfChangeW
namespace Go.Proofs.YtegahpgnmeobhaaGreatDoor
open Go.RowKit

set_option maxRecDepth 100000 in
set_option maxHeartbeats 8000000 in
theorem rf_change2 {c : Nat → Nat} {W : World} {v : Value} {D : Dk.D} (hc : New0 c W.heap.size) (h : RfD c W v D) (hR : Dk.Rising D.fs) (n : Dk.Bs) (o2 o3 : Value) (b : Dk.Bs) (bv : Value) (hbv : RdB W W.heap.size bv b) (hbl : b.length ≤ 1073741824) (hpd : ∀ f, Dk.find n D.fs = some f → f.pend.length < 65536) :
    Calls Tryz.prog 56 #[v, .agg #[.int .i64 2, .string ⟨n.toArray⟩, o2, o3, bv]] W (ChPost c W D (Dk.changeW D n (fun n => n) b).1 (Dk.changeW D n (fun n => n) b).2.1 (Dk.changeW D n (fun n => n) b).2.2) := by
  obtain ⟨sv, xs, rfl, hfs, hA⟩ := h
  obtain ⟨ba, bc, rfl⟩ := hbv.form
  have hlx : D.fs.length = xs.length := by rw [hfs]; simp
  have hA' := hA
  obtain ⟨ao, cap, rfl, hcap, _⟩ := hA'.source
  obtain ⟨W3, hW3, hb3, hz, hcl⟩ := ch_start W (.slice ao xs.length cap) D.bud D.down (.int .i64 2) (.string ⟨n.toArray⟩) (o2) (o3) (.slice ba b.length bc)
  have hfd := rf_find (c := c) (W := W3) (v := rfVal (.slice ao xs.length cap) D) (D := D) ⟨_, xs, rfl, hfs, hA.below hb3⟩ n
  have HFD := Lib.hid hfd
  have HCL := Lib.hid hcl
  have HW3 := Lib.hid hW3
  have HB3 := Lib.hid hb3
  have HZ := Lib.hid hz
  have HA := Lib.hid hA
  have HC := Lib.hid hc
  have HFS := Lib.hid hfs
  have HLX := Lib.hid hlx
  have HR := Lib.hid hR
  have HBV := Lib.hid hbv
  have HPD := Lib.hid hpd
  clear hfd hcl hW3 hb3 hz hA' hc hfs hlx hR hbv hpd
  unfold rfVal at HFD ⊢
  unfold Dk.changeW
  cases hf : Dk.find n D.fs with
  | none =>
    rw [Dk.posInt_none hf] at HFD
    clear hf
    go_enter Tryz.func56, Tryz.ntmps56
    go_wp2_with fail
    rw [← HW3.out]
    refine HFD.out.mono ?_
    rintro e w4 ⟨rfl, hb4⟩
    obtain ⟨⟨a0, a1, a2⟩, ⟨b0, b1, b2, b3, b4⟩, ⟨d0, d1, d2⟩, _, ⟨g0, g1, g2⟩, q1, q3⟩ := HCL.out w4 hb4
    have HB4 := Lib.hid hb4
    have Q3 := Lib.hid q3
    clear q1 q3 hb4
    go_wp2_with fail
    refine bodyPost_ret (results_cell_t3 rfl _ _ (W.heap.size + 1 + 1) _ _ (0, 0) _ rfl (rf_store3 Q3.out) Tryz.underlying27 rfl (by kernel_rfl)) rfl ?_
    exact ch_same HFS.out HA.out (HB3.out.trans (HB4.out.mono (by rw [HZ.out]; omega))) _ _
  | some f =>
    simp only []
    have hpdf := HPD.out f hf
    obtain ⟨k, hkp, hk, hkl, hkx⟩ := Dk.posInt_some hf
    rw [hk] at HFD
    have hkl2 : k < xs.length := by have := HLX.out; omega
    have hxk : xs[k].ent = (n, f) := by
      have := hkx
      rw [HFS.out, List.getElem?_map, List.getElem?_eq_getElem hkl2] at this
      exact Option.some.inj this
    have hxf : xs[k].f = f := congrArg Prod.snd hxk
    obtain ⟨ao', cap', hv, _, hatk⟩ := HA.out.at
    injection hv with hv1 _ hv3
    subst hv1 hv3
    obtain ⟨g, rfl, hg, _, _, _, hX0⟩ := hatk k xs[k] (List.getElem?_eq_getElem hkl2)
    have HATK := Lib.hid hatk
    have HKP := Lib.hid hkp
    have HXF := Lib.hid hxf
    have HXK := Lib.hid hxk
    clear hatk hkp hkx hk hxf hxk hf hkl
    have hfc : f.contents = xs[k].f.contents := by rw [HXF.out]
    rw [hfc]
    clear hfc
    have hszk := hX0.size
    by_cases hN : (xs[k].f.contents.length : Int) < 0 ∨ 16777216 - (b.length : Int) < (xs[k].f.contents.length : Int)
    · rw [if_pos hN]
      go_enter Tryz.func56, Tryz.ntmps56
      go_wp2_with fail
      rw [← HW3.out]
      refine HFD.out.mono ?_
      rintro e w4 ⟨rfl, hb4⟩
      obtain ⟨⟨a0, a1, a2⟩, ⟨b0, b1, b2, b3, b4⟩, ⟨d0, d1, d2⟩, _, ⟨g0, g1, g2⟩, q1, q3⟩ := HCL.out w4 hb4
      have HB4 := Lib.hid hb4
      have hb04 : Below W.heap.size W w4 := HB3.out.trans (HB4.out.mono (by rw [HZ.out]; omega))
      obtain ⟨g', he, _, x1, x2, x3, _⟩ := HATK.out k xs[k] (List.getElem?_eq_getElem hkl2)
      cases he
      have y1 := (hb04.cell (p := ⟨g, k * 3, none⟩) hg).trans x1
      have y2 := (hb04.cell (p := ⟨g, k * 3 + 1, none⟩) hg).trans x2
      have y3 := (hb04.cell (p := ⟨g, k * 3 + 2, none⟩) hg).trans x3
      have hX := hX0.below hb04
      obtain ⟨da, dc, hdv⟩ := hX.dur.1.form
      obtain ⟨wa, wc, hwv, _⟩ := hX.pend.form
      obtain ⟨w5, hw5⟩ : ∃ w5, w5 = w4.alloc (.cells #[.string ⟨xs[k].nm.toArray⟩, .slice da xs[k].f.dur.length dc, .slice wa xs[k].f.pend.length wc] 37) := ⟨_, rfl⟩
      have hb45 : Below w4.heap.size w4 w5 := by rw [hw5]; exact (Below.refl _ _).alloc (Nat.le_refl _) _
      have r5 : w5.heap[w4.heap.size]? = some (.cells #[.string ⟨xs[k].nm.toArray⟩, .slice da xs[k].f.dur.length dc, .slice wa xs[k].f.pend.length wc] 37 (0, 0)) := by rw [hw5]; exact heap_alloc_new _ _
      have s5 : w5.heap.size = w4.heap.size + 1 := by rw [hw5]; simp
      have hct := rf_contents (hX.below hb45)
      unfold Re.val at hct
      rw [hdv, hwv] at hct
      rw [hdv] at y2
      rw [hwv] at y3
      have HCT := Lib.hid hct
      have HW5 := Lib.hid hw5
      have R5 := Lib.hid r5
      have S5 := Lib.hid s5
      have HB04 := Lib.hid hb04
      have HB45 := Lib.hid hb45
      have HDV := Lib.hid hdv
      have HWV := Lib.hid hwv
      have i1 : (0 : Int) ≤ k := by omega
      have i2 : (k : Int) < xs.length := by omega
      clear hct hw5 r5 s5 hb04 hb45 hX q1 q3 hb4 x1 x2 x3 hdv hwv
      go_wp2_with fail
      rw [← HW5.out]
      refine HCT.out.mono ?_
      rintro e w6 ⟨vn, rfl, hon, hb6⟩
      have hz := HZ.out
      have hs4 := HB4.out.size
      have hs5 := S5.out
      have hs6 := hb6.size
      have hb46 : Below w4.heap.size w4 w6 := HB45.out.trans (hb6.mono (by omega))
      obtain ⟨⟨a0, a1, a2⟩, ⟨b0, b1, b2, b3, b4⟩, ⟨d0, d1, d2⟩, ⟨f0, f1, f2⟩, ⟨g0, g1, g2⟩, q1, q3⟩ := HCL.out w6 (HB4.out.trans (hb46.mono hs4))
      have R6 := Lib.hid ((hb6.block w4.heap.size (by omega)).trans R5.out)
      obtain ⟨na, nc, rfl⟩ := rf_own_form hon
      have HON := Lib.hid hon
      have HB6 := Lib.hid hb6
      have HB46 := Lib.hid hb46
      have HB06 := Lib.hid (HB04.out.trans (hb46.mono (by omega)))
      have Q1 := Lib.hid q1
      clear hon hb6 hb46 y1 y2 y3 q1 q3
      obtain ⟨_, _, ⟨d0, d1, d2⟩, _, ⟨g0, g1, g2⟩, _, q3⟩ := HCL.out w6 (HB4.out.trans (HB46.out.mono hs4))
      have Q3 := Lib.hid q3
      clear q3
      have hN0 : ¬ (xs[k].f.contents.length : Int) < 0 := by omega
      have hN1 : 16777216 - (b.length : Int) < (xs[k].f.contents.length : Int) := by omega
      clear hN
      all_goals
        go_wp2_with fail
        refine bodyPost_ret (results_cell_t3 rfl _ _ (W.heap.size + 1 + 1) _ _ (0, 0) _ rfl (rf_store3 Q3.out) Tryz.underlying27 rfl (by kernel_rfl)) rfl ?_
        exact ch_same HFS.out HA.out HB06.out _ _
    · rw [if_neg hN]
      have hN0 : ¬ (xs[k].f.contents.length : Int) < 0 := by omega
      have hN1 : ¬ 16777216 - (b.length : Int) < (xs[k].f.contents.length : Int) := by omega
      clear hN
      by_cases hb0 : b = []
      · rw [if_pos hb0]
        have hb1 : b.length = 0 := by rw [hb0]; rfl
        have hb2 : ((b.length : Int) == 0) = true := by rw [beq_iff_eq]; omega
        clear hb0 hb1
        go_enter Tryz.func56, Tryz.ntmps56
        go_wp2_with fail
        rw [← HW3.out]
        refine HFD.out.mono ?_
        rintro e w4 ⟨rfl, hb4⟩
        obtain ⟨⟨a0, a1, a2⟩, ⟨b0, b1, b2, b3, b4⟩, ⟨d0, d1, d2⟩, _, ⟨g0, g1, g2⟩, q1, q3⟩ := HCL.out w4 hb4
        have HB4 := Lib.hid hb4
        have hb04 : Below W.heap.size W w4 := HB3.out.trans (HB4.out.mono (by rw [HZ.out]; omega))
        obtain ⟨g', he, _, x1, x2, x3, _⟩ := HATK.out k xs[k] (List.getElem?_eq_getElem hkl2)
        cases he
        have y1 := (hb04.cell (p := ⟨g, k * 3, none⟩) hg).trans x1
        have y2 := (hb04.cell (p := ⟨g, k * 3 + 1, none⟩) hg).trans x2
        have y3 := (hb04.cell (p := ⟨g, k * 3 + 2, none⟩) hg).trans x3
        have hX := hX0.below hb04
        obtain ⟨da, dc, hdv⟩ := hX.dur.1.form
        obtain ⟨wa, wc, hwv, _⟩ := hX.pend.form
        obtain ⟨w5, hw5⟩ : ∃ w5, w5 = w4.alloc (.cells #[.string ⟨xs[k].nm.toArray⟩, .slice da xs[k].f.dur.length dc, .slice wa xs[k].f.pend.length wc] 37) := ⟨_, rfl⟩
        have hb45 : Below w4.heap.size w4 w5 := by rw [hw5]; exact (Below.refl _ _).alloc (Nat.le_refl _) _
        have r5 : w5.heap[w4.heap.size]? = some (.cells #[.string ⟨xs[k].nm.toArray⟩, .slice da xs[k].f.dur.length dc, .slice wa xs[k].f.pend.length wc] 37 (0, 0)) := by rw [hw5]; exact heap_alloc_new _ _
        have s5 : w5.heap.size = w4.heap.size + 1 := by rw [hw5]; simp
        have hct := rf_contents (hX.below hb45)
        unfold Re.val at hct
        rw [hdv, hwv] at hct
        rw [hdv] at y2
        rw [hwv] at y3
        have HCT := Lib.hid hct
        have HW5 := Lib.hid hw5
        have R5 := Lib.hid r5
        have S5 := Lib.hid s5
        have HB04 := Lib.hid hb04
        have HB45 := Lib.hid hb45
        have HDV := Lib.hid hdv
        have HWV := Lib.hid hwv
        have i1 : (0 : Int) ≤ k := by omega
        have i2 : (k : Int) < xs.length := by omega
        clear hct hw5 r5 s5 hb04 hb45 hX q1 q3 hb4 x1 x2 x3 hdv hwv
        go_wp2_with fail
        rw [← HW5.out]
        refine HCT.out.mono ?_
        rintro e w6 ⟨vn, rfl, hon, hb6⟩
        have hz := HZ.out
        have hs4 := HB4.out.size
        have hs5 := S5.out
        have hs6 := hb6.size
        have hb46 : Below w4.heap.size w4 w6 := HB45.out.trans (hb6.mono (by omega))
        obtain ⟨⟨a0, a1, a2⟩, ⟨b0, b1, b2, b3, b4⟩, ⟨d0, d1, d2⟩, ⟨f0, f1, f2⟩, ⟨g0, g1, g2⟩, q1, q3⟩ := HCL.out w6 (HB4.out.trans (hb46.mono hs4))
        have R6 := Lib.hid ((hb6.block w4.heap.size (by omega)).trans R5.out)
        obtain ⟨na, nc, rfl⟩ := rf_own_form hon
        have HON := Lib.hid hon
        have HB6 := Lib.hid hb6
        have HB46 := Lib.hid hb46
        have HB06 := Lib.hid (HB04.out.trans (hb46.mono (by omega)))
        have Q1 := Lib.hid q1
        clear hon hb6 hb46 y1 y2 y3 q1 q3
        obtain ⟨_, _, ⟨d0, d1, d2⟩, _, ⟨g0, g1, g2⟩, _, q3⟩ := HCL.out w6 (HB4.out.trans (HB46.out.mono hs4))
        have Q3 := Lib.hid q3
        clear q3
        go_wp2_with fail
        refine bodyPost_ret (results_cell_t3 rfl _ _ (W.heap.size + 1 + 1) _ _ (0, 0) _ rfl (rf_store3 Q3.out) Tryz.underlying27 rfl (by kernel_rfl)) rfl ?_
        exact ch_same HFS.out HA.out HB06.out _ _
      · rw [if_neg hb0]
        have hbp : 0 < b.length := List.length_pos_iff.2 hb0
        have hb2 : ((b.length : Int) == 0) = false := by rw [beq_eq_false_iff_ne]; omega
        rw [Int.toNat_natCast]
        have hmb : xs[k].f.contents.length + b.length ≤ 16777216 := by omega
        clear hb0
        go_enter Tryz.func56, Tryz.ntmps56
        go_wp2_with fail
        rw [← HW3.out]
        refine HFD.out.mono ?_
        rintro e w4 ⟨rfl, hb4⟩
        obtain ⟨⟨a0, a1, a2⟩, ⟨b0, b1, b2, b3, b4⟩, ⟨d0, d1, d2⟩, _, ⟨g0, g1, g2⟩, q1, q3⟩ := HCL.out w4 hb4
        have HB4 := Lib.hid hb4
        have hb04 : Below W.heap.size W w4 := HB3.out.trans (HB4.out.mono (by rw [HZ.out]; omega))
        obtain ⟨g', he, _, x1, x2, x3, _⟩ := HATK.out k xs[k] (List.getElem?_eq_getElem hkl2)
        cases he
        have y1 := (hb04.cell (p := ⟨g, k * 3, none⟩) hg).trans x1
        have y2 := (hb04.cell (p := ⟨g, k * 3 + 1, none⟩) hg).trans x2
        have y3 := (hb04.cell (p := ⟨g, k * 3 + 2, none⟩) hg).trans x3
        have hX := hX0.below hb04
        obtain ⟨da, dc, hdv⟩ := hX.dur.1.form
        obtain ⟨wa, wc, hwv, _⟩ := hX.pend.form
        obtain ⟨w5, hw5⟩ : ∃ w5, w5 = w4.alloc (.cells #[.string ⟨xs[k].nm.toArray⟩, .slice da xs[k].f.dur.length dc, .slice wa xs[k].f.pend.length wc] 37) := ⟨_, rfl⟩
        have hb45 : Below w4.heap.size w4 w5 := by rw [hw5]; exact (Below.refl _ _).alloc (Nat.le_refl _) _
        have r5 : w5.heap[w4.heap.size]? = some (.cells #[.string ⟨xs[k].nm.toArray⟩, .slice da xs[k].f.dur.length dc, .slice wa xs[k].f.pend.length wc] 37 (0, 0)) := by rw [hw5]; exact heap_alloc_new _ _
        have s5 : w5.heap.size = w4.heap.size + 1 := by rw [hw5]; simp
        have hct := rf_contents (hX.below hb45)
        unfold Re.val at hct
        rw [hdv, hwv] at hct
        rw [hdv] at y2
        rw [hwv] at y3
        have HCT := Lib.hid hct
        have HW5 := Lib.hid hw5
        have R5 := Lib.hid r5
        have S5 := Lib.hid s5
        have HB04 := Lib.hid hb04
        have HB45 := Lib.hid hb45
        have HDV := Lib.hid hdv
        have HWV := Lib.hid hwv
        have i1 : (0 : Int) ≤ k := by omega
        have i2 : (k : Int) < xs.length := by omega
        clear hct hw5 r5 s5 hb04 hb45 hX q1 q3 hb4 x1 x2 x3 hdv hwv
        go_wp2_with fail
        rw [← HW5.out]
        refine HCT.out.mono ?_
        rintro e w6 ⟨vn, rfl, hon, hb6⟩
        have hz := HZ.out
        have hs4 := HB4.out.size
        have hs5 := S5.out
        have hs6 := hb6.size
        have hb46 : Below w4.heap.size w4 w6 := HB45.out.trans (hb6.mono (by omega))
        obtain ⟨⟨a0, a1, a2⟩, ⟨b0, b1, b2, b3, b4⟩, ⟨d0, d1, d2⟩, ⟨f0, f1, f2⟩, ⟨g0, g1, g2⟩, q1, q3⟩ := HCL.out w6 (HB4.out.trans (hb46.mono hs4))
        have R6 := Lib.hid ((hb6.block w4.heap.size (by omega)).trans R5.out)
        obtain ⟨na, nc, rfl⟩ := rf_own_form hon
        have HON := Lib.hid hon
        have HB6 := Lib.hid hb6
        have HB46 := Lib.hid hb46
        have HB06 := Lib.hid (HB04.out.trans (hb46.mono (by omega)))
        have Q1 := Lib.hid q1
        clear hon hb6 hb46 y1 y2 y3 q1 q3
        have hn3 : (0 : Int) ≤ (xs[k].f.contents.length : Int) := by omega
        have hfr : ReAt c w6 xs[k] := hX0.below HB06.out
        have hbv6 := (HBV.out.below HB06.out).mono HB06.out.size
        have hfw := fun wx (hb : Below w6.heap.size w6 wx) => (⟨(hb.cell (p := ⟨w4.heap.size, 2, none⟩) (by show w4.heap.size < _; omega)).trans (by rw [cell_of_row _ _ _ _ _ _ R6.out]; rfl), (hb.cell (p := ⟨W.heap.size + 1, 4, none⟩) (by show W.heap.size + 1 < _; omega)).trans b4, hb⟩ :
          wx.cell? ⟨w4.heap.size, 2, none⟩ = some (.slice wa xs[k].f.pend.length wc) ∧ wx.cell? ⟨W.heap.size + 1, 4, none⟩ = some (.slice ba b.length bc) ∧ Below w6.heap.size w6 wx)
        have HSof := Lib.hid hfw
        have HAW := Lib.hid (rf_appendW hfr HWV.out)
        have HAB := Lib.hid (rf_appendB hbv6 hbl)
        have HAL := Lib.hid (fun wx v1 g3 v2 => rf_appendL (w := w6) (wx := wx) (l := xs[k].f.pend) (vs := xs[k].vs) hfr.wr.1 hfr.many (xs[k].f.contents.length : Int) v1 g3 v2)
        clear hfw hbv6
        go_wp2_with fail
        refine wp_then_of (fun K hK => ?_)
        go_cut [] from 78 to 90 (fun wx => ∃ v9 v2, Hid (wx.heap[w4.heap.size]? = some (.cells #[.string ⟨xs[k].nm.toArray⟩, .slice da xs[k].f.dur.length dc, v9] 37 (0, 0))) ∧ Hid (wx.ownsRow w6.heap.size 88 2 v9 (xs[k].f.pend.length + 1) (wrCells (xs[k].f.pend ++ [⟨xs[k].f.contents.length, b⟩]) (xs[k].vs ++ [v2]))) ∧ Hid (wx.ownsRow w6.heap.size 5 1 v2 b.length (dkCells b)) ∧ Hid (Below W3.heap.size W3 wx) ∧ Hid (w6.heap.size ≤ wx.heap.size))
        case first =>
          have HREL := Lib.hid (fun w9 v9 v2 hb9 o9 o2 => rf_chRel (w4s := w4.heap.size) (w6 := w6) (w9 := w9) (v9 := v9) (v2 := v2) (m := (xs[k]'hkl2).f.contents.length) (b := b) (HB4.out.trans (HB46.out.mono hs4)) hs4 R6.out hb9 o9 o2 hfr.wr.1)
          refine wp_then_of (fun K2 hK2 => ?_)
          have HK2 := Lib.hid hK2
          clear hK2
          have hw6d : Below w6.heap.size w6 w6.drew := (Below.refl _ _).drew
          refine wp_region_sink' (fun w' => w'.cell? ⟨w4.heap.size, 2, none⟩ = some (.slice wa xs[k].f.pend.length wc) ∧ w'.cell? ⟨W.heap.size + 1, 4, none⟩ = some (.slice ba b.length bc) ∧ Below w6.heap.size w6 w') _ rfl (by kernel_rfl) (by kernel_rfl) (HSof.out _ hw6d) (fun hHeld0 => ?_)
          simp only [List.pop_toArray, List.dropLast_cons_cons, List.dropLast_singleton]
          (refine wpAnyH_take (i := 1) (v := ?_) rfl (by kernel_rfl) (by kernel_rfl) (by kernel_rfl) (fun _ _ _ h => h) (Or.inl ⟨by rfl, ?_⟩) (by assumption) ?_; rotate_left; focus ((intro w hSw; (try dsimp only at hSw); go_simp); try (with_reducible rfl); done); try simp only [Act.put, List.setIfInBounds_toArray, List.set_cons_zero, List.set_cons_succ])
          (refine wpAnyH_take (i := 2) (v := ?_) rfl (by kernel_rfl) (by kernel_rfl) (by kernel_rfl) (fun _ _ _ h => h) (Or.inl ⟨by rfl, ?_⟩) (by assumption) ?_; rotate_left; focus ((intro w hSw; (try dsimp only at hSw); go_simp); try (with_reducible rfl); done); try simp only [Act.put, List.setIfInBounds_toArray, List.set_cons_zero, List.set_cons_succ])
          (refine wpAnyH_take (i := 4) (v := ?_) rfl (by kernel_rfl) (by kernel_rfl) (by kernel_rfl) (fun _ _ _ h => h) (Or.inl ⟨by rfl, ?_⟩) (by assumption) ?_; rotate_left; focus ((intro w hSw; (try dsimp only at hSw); go_simp); try (with_reducible rfl); done); try simp only [Act.put, List.setIfInBounds_toArray, List.set_cons_zero, List.set_cons_succ])
          (refine wpAnyH_take (i := 6) (v := ?_) rfl (by kernel_rfl) (by kernel_rfl) (by kernel_rfl) (fun _ _ _ h => h) (Or.inl ⟨by rfl, ?_⟩) (by assumption) ?_; rotate_left; focus ((intro w hSw; (try dsimp only at hSw); go_simp); try (with_reducible rfl); done); try simp only [Act.put, List.setIfInBounds_toArray, List.set_cons_zero, List.set_cons_succ])
          (refine wpAnyH_take (i := 7) (v := ?_) rfl (by kernel_rfl) (by kernel_rfl) (by kernel_rfl) (fun _ _ _ h => h) (Or.inl ⟨by rfl, ?_⟩) (by assumption) ?_; rotate_left; focus ((intro w hSw; (try dsimp only at hSw); go_simp); try (with_reducible rfl); done); try simp only [Act.put, List.setIfInBounds_toArray, List.set_cons_zero, List.set_cons_succ])
          have hb0 := hw6d
          generalize w6.drew = wd0 at *
          clear hw6d
          refine wpAnyH_ready (rs := [0, 5]) (by kernel_rfl) (by simp) ?_
          refine AllReadyH.cons rfl (fun K hK => ?_) (AllReadyH.cons rfl (fun K hK => ?_) AllReadyH.nil)
          · go_simp
            have hb1 : Below w6.heap.size w6 (wd0.alloc (.cells #[] 88)) := hb0.alloc hb0.size _
            have on1 := World.ownsRow_made (base := w6.heap.size) (e := 88) (size := 2) wd0 #[] 0 hb0.size (Nat.zero_le _) (by simp)
            refine hK.out _ _ (HSof.out _ hb1) (fun hHeld1 => ?_)
            clear hK K hHeld0
            try simp only [List.getElem_toArray]
            generalize wd0.alloc (.cells #[] 88) = wd1 at *
            refine wpAnyH_ready (rs := [3, 5]) (by kernel_rfl) (by simp) ?_
            refine AllReadyH.cons rfl (fun K hK => ?_) (AllReadyH.cons rfl (fun K hK => ?_) AllReadyH.nil)
            · obtain ⟨va2, wa2, hr2, on2, hb2, hg2, hl2⟩ := HAW.out _ _ hb1 on1
              refine step_append_eq rfl _ _ _ rfl _ _ _ _ rfl rfl hr2 ?_
              refine hK.out _ _ (HSof.out _ hb2) (fun hHeld2 => ?_)
              clear hK K hHeld1 hr2
              simp only [List.getElem_toArray, List.getElem_cons_succ, List.getElem_cons_zero, Act.put, List.setIfInBounds_toArray, List.set_cons_zero, List.set_cons_succ]
              refine wpAnyH_ready (rs := [5]) (by kernel_rfl) (by simp) ?_
              refine AllReadyH.cons rfl (fun K hK => ?_) AllReadyH.nil
              go_simp
              have hb3 : Below w6.heap.size w6 (wa2.alloc (.cells #[] 5)) := hb2.alloc hb2.size _
              have on3 := World.ownsRow_made (base := w6.heap.size) (e := 5) (size := 1) wa2 #[] 0 hb2.size (Nat.zero_le _) (by simp)
              have oo3 := on2.alloc (.cells #[] 5)
              have dd3 : ∀ i, va2.ownBlock = some i → (Value.slice (some ⟨wa2.heap.size, 0, none⟩) 0 0).ownBlock ≠ some i := fun i hi e => by have := (on2.lt i hi).2; simp [Value.ownBlock] at e; omega
              refine hK.out _ _ (HSof.out _ hb3) (fun hHeld3 => ?_)
              clear hK K hHeld2
              try simp only [List.getElem_toArray, List.getElem_cons_succ, List.getElem_cons_zero, Act.put, List.setIfInBounds_toArray, List.set_cons_zero, List.set_cons_succ]
              generalize wa2.alloc (.cells #[] 5) = wd3 at *
              refine wpAnyH_ready (rs := [8]) (by kernel_rfl) (by simp) ?_
              refine AllReadyH.cons rfl (fun K hK => ?_) AllReadyH.nil
              obtain ⟨va4, wa4, hr4, on4, hb4, hg4, hl4⟩ := HAB.out _ _ hb3 on3
              refine step_append_eq rfl _ _ _ rfl _ _ _ _ rfl rfl hr4 ?_
              refine hK.out _ _ (HSof.out _ hb4) (fun hHeld4 => ?_)
              have oo4 := oo3.kept hg4 (by cases hv : (va2).ownBlock with | none => exact .inl rfl | some i => exact .inr (fun e => dd3 i hv e.symm))
              have dd4 : ∀ i, (va2).ownBlock = some i → va4.ownBlock ≠ some i := fun i hi e => by rcases hl4 with h | h; exact dd3 i hi (h.symm.trans e); have := (oo3.lt i hi).2; rw [h] at e; injection e with e'; omega
              clear hK K hHeld3 hr4
              simp only [List.getElem_toArray, List.getElem_cons_succ, List.getElem_cons_zero, Act.put, List.setIfInBounds_toArray, List.set_cons_zero, List.set_cons_succ]
              obtain ⟨na4, nc4, rfl⟩ := rf_own_form on4
              (refine wpAnyH_take (i := 9) (v := ?_) rfl (by kernel_rfl) (by kernel_rfl) (by kernel_rfl) (fun _ _ _ h => h) (Or.inl ⟨by rfl, ?_⟩) (by assumption) ?_; rotate_left; focus ((intro w hSw; (try dsimp only at hSw); go_simp); try (with_reducible rfl); done); try simp only [Act.put, List.setIfInBounds_toArray, List.set_cons_zero, List.set_cons_succ])
              refine wpAnyH_ready (rs := [10]) (by kernel_rfl) (by simp) ?_
              refine AllReadyH.cons rfl (fun K hK => ?_) AllReadyH.nil
              go_simp
              have hb5 : Below w6.heap.size w6 (wa4.alloc (.cells #[.int .i64 (xs[k].f.contents.length : Int), (Value.slice na4 b.length nc4)] 88)) := hb4.alloc hb4.size _
              have rr5 : (wa4.alloc (.cells #[.int .i64 (xs[k].f.contents.length : Int), (Value.slice na4 b.length nc4)] 88)).heap[wa4.heap.size]? = some (.cells #[.int .i64 (xs[k].f.contents.length : Int), (Value.slice na4 b.length nc4)] 88 (0, 0)) := heap_alloc_new _ _
              have o25 := on4.alloc (.cells #[.int .i64 (xs[k].f.contents.length : Int), (Value.slice na4 b.length nc4)] 88)
              have o15 := oo4.alloc (.cells #[.int .i64 (xs[k].f.contents.length : Int), (Value.slice na4 b.length nc4)] 88)
              have de5 : (va2).ownBlock ≠ some (wa4.heap.size) := fun e => by have := (oo4.lt _ e).2; omega
              refine hK.out _ _ (HSof.out _ hb5) (fun hHeld5 => ?_)
              clear hK K hHeld4
              try simp only [List.getElem_toArray, List.getElem_cons_succ, List.getElem_cons_zero, Act.put, List.setIfInBounds_toArray, List.set_cons_zero, List.set_cons_succ]
              generalize wa4.alloc (.cells #[.int .i64 (xs[k].f.contents.length : Int), (Value.slice na4 b.length nc4)] 88) = wd5 at *
              refine wpAnyH_ready (rs := [11]) (by kernel_rfl) (by simp) ?_
              refine AllReadyH.cons rfl (fun K hK => ?_) AllReadyH.nil
              obtain ⟨va6, wa6, hr6, on6, hb6, hg6⟩ := HAL.out _ _ _ _ hb5 o15 rr5 rfl
              refine step_append_eq rfl _ _ _ rfl _ _ _ _ rfl rfl hr6 ?_
              refine hK.out _ _ (HSof.out _ hb6) (fun hHeld6 => ?_)
              have oo6 := o25.kept hg6 (by cases hv : ((Value.slice na4 b.length nc4)).ownBlock with | none => exact .inl rfl | some i => exact .inr (fun e => dd4 i e.symm hv))
              clear hK K hr6 hHeld5
              simp only [List.getElem_toArray, List.getElem_cons_succ, List.getElem_cons_zero, Act.put, List.setIfInBounds_toArray, List.set_cons_zero, List.set_cons_succ]
              (refine wpAnyH_take (i := 12) (v := ?_) rfl (by kernel_rfl) (by kernel_rfl) (by kernel_rfl) (fun _ _ _ h => h) (Or.inl ⟨by rfl, ?_⟩) (by assumption) ?_; rotate_left; focus ((intro w hSw; (try dsimp only at hSw); go_simp); try (with_reducible rfl); done); try simp only [Act.put, List.setIfInBounds_toArray, List.set_cons_zero, List.set_cons_succ])
              refine wpAnyH_done (by kernel_rfl) ?_ _
              have rt := (hb6.block w4.heap.size (by omega)).trans R6.out
              have tc := (HSof.out _ hb6).1
              have uf := dk_frozen wa6 w4.heap.size 2 _ _ rt
              obtain ⟨na, nc, rfl⟩ := rf_own_form on6
              have hrel := HREL.out _ _ _ hb6 on6 oo6
              unfold sinkPost
              simp only []
              go_simp
              refine HK2.out _ _ ?_
              go_wp2_with fail
              go_meet
              case rel => exact hrel
            · go_simp
              have hb7 : Below w6.heap.size w6 (wd1.alloc (.cells #[] 5)) := hb1.alloc hb1.size _
              have on7 := World.ownsRow_made (base := w6.heap.size) (e := 5) (size := 1) wd1 #[] 0 hb1.size (Nat.zero_le _) (by simp)
              have oo7 := on1.alloc (.cells #[] 5)
              have dd7 : ∀ i, (Value.slice (some ⟨wd0.heap.size, 0, none⟩) 0 0).ownBlock = some i → (Value.slice (some ⟨wd1.heap.size, 0, none⟩) 0 0).ownBlock ≠ some i := fun i hi e => by have := (on1.lt i hi).2; simp [Value.ownBlock] at e; omega
              refine hK.out _ _ (HSof.out _ hb7) (fun hHeld7 => ?_)
              clear hK K hHeld1
              try simp only [List.getElem_toArray, List.getElem_cons_succ, List.getElem_cons_zero, Act.put, List.setIfInBounds_toArray, List.set_cons_zero, List.set_cons_succ]
              generalize wd1.alloc (.cells #[] 5) = wd7 at *
              refine wpAnyH_ready (rs := [3]) (by kernel_rfl) (by simp) ?_
              refine AllReadyH.cons rfl (fun K hK => ?_) AllReadyH.nil
              obtain ⟨va8, wa8, hr8, on8, hb8, hg8, hl8⟩ := HAW.out _ _ hb7 oo7
              refine step_append_eq rfl _ _ _ rfl _ _ _ _ rfl rfl hr8 ?_
              refine hK.out _ _ (HSof.out _ hb8) (fun hHeld8 => ?_)
              have oo8 := on7.kept hg8 (by cases hv : ((Value.slice (some ⟨wd1.heap.size, 0, none⟩) 0 0)).ownBlock with | none => exact .inl rfl | some i => exact .inr (fun e => dd7 i e.symm hv))
              have dd8 : ∀ i, va8.ownBlock = some i → ((Value.slice (some ⟨wd1.heap.size, 0, none⟩) 0 0)).ownBlock ≠ some i := fun i hi e => by rcases hl8 with h | h; exact dd7 i (h.symm.trans hi) e; have := (on7.lt i e).2; rw [h] at hi; injection hi with hi'; omega
              clear hK K hHeld7 hr8
              simp only [List.getElem_toArray, List.getElem_cons_succ, List.getElem_cons_zero, Act.put, List.setIfInBounds_toArray, List.set_cons_zero, List.set_cons_succ]
              refine wpAnyH_ready (rs := [8]) (by kernel_rfl) (by simp) ?_
              refine AllReadyH.cons rfl (fun K hK => ?_) AllReadyH.nil
              obtain ⟨va9, wa9, hr9, on9, hb9, hg9, hl9⟩ := HAB.out _ _ hb8 oo8
              refine step_append_eq rfl _ _ _ rfl _ _ _ _ rfl rfl hr9 ?_
              refine hK.out _ _ (HSof.out _ hb9) (fun hHeld9 => ?_)
              have oo9 := on8.kept hg9 (by cases hv : (va8).ownBlock with | none => exact .inl rfl | some i => exact .inr (fun e => dd8 i hv e.symm))
              have dd9 : ∀ i, (va8).ownBlock = some i → va9.ownBlock ≠ some i := fun i hi e => by rcases hl9 with h | h; exact dd8 i hi (h.symm.trans e); have := (on8.lt i hi).2; rw [h] at e; injection e with e'; omega
              clear hK K hHeld8 hr9
              simp only [List.getElem_toArray, List.getElem_cons_succ, List.getElem_cons_zero, Act.put, List.setIfInBounds_toArray, List.set_cons_zero, List.set_cons_succ]
              obtain ⟨na9, nc9, rfl⟩ := rf_own_form on9
              (refine wpAnyH_take (i := 9) (v := ?_) rfl (by kernel_rfl) (by kernel_rfl) (by kernel_rfl) (fun _ _ _ h => h) (Or.inl ⟨by rfl, ?_⟩) (by assumption) ?_; rotate_left; focus ((intro w hSw; (try dsimp only at hSw); go_simp); try (with_reducible rfl); done); try simp only [Act.put, List.setIfInBounds_toArray, List.set_cons_zero, List.set_cons_succ])
              refine wpAnyH_ready (rs := [10]) (by kernel_rfl) (by simp) ?_
              refine AllReadyH.cons rfl (fun K hK => ?_) AllReadyH.nil
              go_simp
              have hb10 : Below w6.heap.size w6 (wa9.alloc (.cells #[.int .i64 (xs[k].f.contents.length : Int), (Value.slice na9 b.length nc9)] 88)) := hb9.alloc hb9.size _
              have rr10 : (wa9.alloc (.cells #[.int .i64 (xs[k].f.contents.length : Int), (Value.slice na9 b.length nc9)] 88)).heap[wa9.heap.size]? = some (.cells #[.int .i64 (xs[k].f.contents.length : Int), (Value.slice na9 b.length nc9)] 88 (0, 0)) := heap_alloc_new _ _
              have o210 := on9.alloc (.cells #[.int .i64 (xs[k].f.contents.length : Int), (Value.slice na9 b.length nc9)] 88)
              have o110 := oo9.alloc (.cells #[.int .i64 (xs[k].f.contents.length : Int), (Value.slice na9 b.length nc9)] 88)
              have de10 : (va8).ownBlock ≠ some (wa9.heap.size) := fun e => by have := (oo9.lt _ e).2; omega
              refine hK.out _ _ (HSof.out _ hb10) (fun hHeld10 => ?_)
              clear hK K hHeld9
              try simp only [List.getElem_toArray, List.getElem_cons_succ, List.getElem_cons_zero, Act.put, List.setIfInBounds_toArray, List.set_cons_zero, List.set_cons_succ]
              generalize wa9.alloc (.cells #[.int .i64 (xs[k].f.contents.length : Int), (Value.slice na9 b.length nc9)] 88) = wd10 at *
              refine wpAnyH_ready (rs := [11]) (by kernel_rfl) (by simp) ?_
              refine AllReadyH.cons rfl (fun K hK => ?_) AllReadyH.nil
              obtain ⟨va11, wa11, hr11, on11, hb11, hg11⟩ := HAL.out _ _ _ _ hb10 o110 rr10 rfl
              refine step_append_eq rfl _ _ _ rfl _ _ _ _ rfl rfl hr11 ?_
              refine hK.out _ _ (HSof.out _ hb11) (fun hHeld11 => ?_)
              have oo11 := o210.kept hg11 (by cases hv : ((Value.slice na9 b.length nc9)).ownBlock with | none => exact .inl rfl | some i => exact .inr (fun e => dd9 i e.symm hv))
              clear hK K hr11 hHeld10
              simp only [List.getElem_toArray, List.getElem_cons_succ, List.getElem_cons_zero, Act.put, List.setIfInBounds_toArray, List.set_cons_zero, List.set_cons_succ]
              (refine wpAnyH_take (i := 12) (v := ?_) rfl (by kernel_rfl) (by kernel_rfl) (by kernel_rfl) (fun _ _ _ h => h) (Or.inl ⟨by rfl, ?_⟩) (by assumption) ?_; rotate_left; focus ((intro w hSw; (try dsimp only at hSw); go_simp); try (with_reducible rfl); done); try simp only [Act.put, List.setIfInBounds_toArray, List.set_cons_zero, List.set_cons_succ])
              refine wpAnyH_done (by kernel_rfl) ?_ _
              have rt := (hb11.block w4.heap.size (by omega)).trans R6.out
              have tc := (HSof.out _ hb11).1
              have uf := dk_frozen wa11 w4.heap.size 2 _ _ rt
              obtain ⟨na, nc, rfl⟩ := rf_own_form on11
              have hrel := HREL.out _ _ _ hb11 on11 oo11
              unfold sinkPost
              simp only []
              go_simp
              refine HK2.out _ _ ?_
              go_wp2_with fail
              go_meet
              case rel => exact hrel
          · go_simp
            have hb12 : Below w6.heap.size w6 (wd0.alloc (.cells #[] 5)) := hb0.alloc hb0.size _
            have on12 := World.ownsRow_made (base := w6.heap.size) (e := 5) (size := 1) wd0 #[] 0 hb0.size (Nat.zero_le _) (by simp)
            refine hK.out _ _ (HSof.out _ hb12) (fun hHeld12 => ?_)
            clear hK K hHeld0
            try simp only [List.getElem_toArray]
            generalize wd0.alloc (.cells #[] 5) = wd12 at *
            refine wpAnyH_ready (rs := [0]) (by kernel_rfl) (by simp) ?_
            refine AllReadyH.cons rfl (fun K hK => ?_) AllReadyH.nil
            go_simp
            have hb13 : Below w6.heap.size w6 (wd12.alloc (.cells #[] 88)) := hb12.alloc hb12.size _
            have on13 := World.ownsRow_made (base := w6.heap.size) (e := 88) (size := 2) wd12 #[] 0 hb12.size (Nat.zero_le _) (by simp)
            have oo13 := on12.alloc (.cells #[] 88)
            have dd13 : ∀ i, (Value.slice (some ⟨wd12.heap.size, 0, none⟩) 0 0).ownBlock = some i → (Value.slice (some ⟨wd0.heap.size, 0, none⟩) 0 0).ownBlock ≠ some i := fun i hi e => by have := (on12.lt i e).2; simp [Value.ownBlock] at hi; omega
            refine hK.out _ _ (HSof.out _ hb13) (fun hHeld13 => ?_)
            clear hK K hHeld12
            try simp only [List.getElem_toArray, List.getElem_cons_succ, List.getElem_cons_zero, Act.put, List.setIfInBounds_toArray, List.set_cons_zero, List.set_cons_succ]
            generalize wd12.alloc (.cells #[] 88) = wd13 at *
            refine wpAnyH_ready (rs := [3]) (by kernel_rfl) (by simp) ?_
            refine AllReadyH.cons rfl (fun K hK => ?_) AllReadyH.nil
            obtain ⟨va14, wa14, hr14, on14, hb14, hg14, hl14⟩ := HAW.out _ _ hb13 on13
            refine step_append_eq rfl _ _ _ rfl _ _ _ _ rfl rfl hr14 ?_
            refine hK.out _ _ (HSof.out _ hb14) (fun hHeld14 => ?_)
            have oo14 := oo13.kept hg14 (by cases hv : ((Value.slice (some ⟨wd0.heap.size, 0, none⟩) 0 0)).ownBlock with | none => exact .inl rfl | some i => exact .inr (fun e => dd13 i e.symm hv))
            have dd14 : ∀ i, va14.ownBlock = some i → ((Value.slice (some ⟨wd0.heap.size, 0, none⟩) 0 0)).ownBlock ≠ some i := fun i hi e => by rcases hl14 with h | h; exact dd13 i (h.symm.trans hi) e; have := (oo13.lt i e).2; rw [h] at hi; injection hi with hi'; omega
            clear hK K hHeld13 hr14
            simp only [List.getElem_toArray, List.getElem_cons_succ, List.getElem_cons_zero, Act.put, List.setIfInBounds_toArray, List.set_cons_zero, List.set_cons_succ]
            refine wpAnyH_ready (rs := [8]) (by kernel_rfl) (by simp) ?_
            refine AllReadyH.cons rfl (fun K hK => ?_) AllReadyH.nil
            obtain ⟨va15, wa15, hr15, on15, hb15, hg15, hl15⟩ := HAB.out _ _ hb14 oo14
            refine step_append_eq rfl _ _ _ rfl _ _ _ _ rfl rfl hr15 ?_
            refine hK.out _ _ (HSof.out _ hb15) (fun hHeld15 => ?_)
            have oo15 := on14.kept hg15 (by cases hv : (va14).ownBlock with | none => exact .inl rfl | some i => exact .inr (fun e => dd14 i hv e.symm))
            have dd15 : ∀ i, (va14).ownBlock = some i → va15.ownBlock ≠ some i := fun i hi e => by rcases hl15 with h | h; exact dd14 i hi (h.symm.trans e); have := (on14.lt i hi).2; rw [h] at e; injection e with e'; omega
            clear hK K hHeld14 hr15
            simp only [List.getElem_toArray, List.getElem_cons_succ, List.getElem_cons_zero, Act.put, List.setIfInBounds_toArray, List.set_cons_zero, List.set_cons_succ]
            obtain ⟨na15, nc15, rfl⟩ := rf_own_form on15
            (refine wpAnyH_take (i := 9) (v := ?_) rfl (by kernel_rfl) (by kernel_rfl) (by kernel_rfl) (fun _ _ _ h => h) (Or.inl ⟨by rfl, ?_⟩) (by assumption) ?_; rotate_left; focus ((intro w hSw; (try dsimp only at hSw); go_simp); try (with_reducible rfl); done); try simp only [Act.put, List.setIfInBounds_toArray, List.set_cons_zero, List.set_cons_succ])
            refine wpAnyH_ready (rs := [10]) (by kernel_rfl) (by simp) ?_
            refine AllReadyH.cons rfl (fun K hK => ?_) AllReadyH.nil
            go_simp
            have hb16 : Below w6.heap.size w6 (wa15.alloc (.cells #[.int .i64 (xs[k].f.contents.length : Int), (Value.slice na15 b.length nc15)] 88)) := hb15.alloc hb15.size _
            have rr16 : (wa15.alloc (.cells #[.int .i64 (xs[k].f.contents.length : Int), (Value.slice na15 b.length nc15)] 88)).heap[wa15.heap.size]? = some (.cells #[.int .i64 (xs[k].f.contents.length : Int), (Value.slice na15 b.length nc15)] 88 (0, 0)) := heap_alloc_new _ _
            have o216 := on15.alloc (.cells #[.int .i64 (xs[k].f.contents.length : Int), (Value.slice na15 b.length nc15)] 88)
            have o116 := oo15.alloc (.cells #[.int .i64 (xs[k].f.contents.length : Int), (Value.slice na15 b.length nc15)] 88)
            have de16 : (va14).ownBlock ≠ some (wa15.heap.size) := fun e => by have := (oo15.lt _ e).2; omega
            refine hK.out _ _ (HSof.out _ hb16) (fun hHeld16 => ?_)
            clear hK K hHeld15
            try simp only [List.getElem_toArray, List.getElem_cons_succ, List.getElem_cons_zero, Act.put, List.setIfInBounds_toArray, List.set_cons_zero, List.set_cons_succ]
            generalize wa15.alloc (.cells #[.int .i64 (xs[k].f.contents.length : Int), (Value.slice na15 b.length nc15)] 88) = wd16 at *
            refine wpAnyH_ready (rs := [11]) (by kernel_rfl) (by simp) ?_
            refine AllReadyH.cons rfl (fun K hK => ?_) AllReadyH.nil
            obtain ⟨va17, wa17, hr17, on17, hb17, hg17⟩ := HAL.out _ _ _ _ hb16 o116 rr16 rfl
            refine step_append_eq rfl _ _ _ rfl _ _ _ _ rfl rfl hr17 ?_
            refine hK.out _ _ (HSof.out _ hb17) (fun hHeld17 => ?_)
            have oo17 := o216.kept hg17 (by cases hv : ((Value.slice na15 b.length nc15)).ownBlock with | none => exact .inl rfl | some i => exact .inr (fun e => dd15 i e.symm hv))
            clear hK K hr17 hHeld16
            simp only [List.getElem_toArray, List.getElem_cons_succ, List.getElem_cons_zero, Act.put, List.setIfInBounds_toArray, List.set_cons_zero, List.set_cons_succ]
            (refine wpAnyH_take (i := 12) (v := ?_) rfl (by kernel_rfl) (by kernel_rfl) (by kernel_rfl) (fun _ _ _ h => h) (Or.inl ⟨by rfl, ?_⟩) (by assumption) ?_; rotate_left; focus ((intro w hSw; (try dsimp only at hSw); go_simp); try (with_reducible rfl); done); try simp only [Act.put, List.setIfInBounds_toArray, List.set_cons_zero, List.set_cons_succ])
            refine wpAnyH_done (by kernel_rfl) ?_ _
            have rt := (hb17.block w4.heap.size (by omega)).trans R6.out
            have tc := (HSof.out _ hb17).1
            have uf := dk_frozen wa17 w4.heap.size 2 _ _ rt
            obtain ⟨na, nc, rfl⟩ := rf_own_form on17
            have hrel := HREL.out _ _ _ hb17 on17 oo17
            unfold sinkPost
            simp only []
            go_simp
            refine HK2.out _ _ ?_
            go_wp2_with fail
            go_meet
            case rel => exact hrel
        case rest =>
          refine hK _ _ ?_
          obtain ⟨v9, v2, HRm, HO9, HO2, HB3m, HSm⟩ := hcut
          obtain ⟨n9, c9, rfl⟩ := rf_own_form HO9.out
          have hnm : xs[k].nm = n := congrArg Prod.fst HXK.out
          have rm := HRm.out
          rw [hnm] at rm
          have RM := Lib.hid rm
          have hb3m := HB3m.out
          have HB0m := Lib.hid (HB3.out.trans (hb3m.mono (by omega)))
          have HYE : Hid (Re.ent (⟨n, .slice da xs[k].f.dur.length dc, .slice n9 (xs[k].f.pend.length + 1) c9, xs[k].vs ++ [v2], ⟨xs[k].f.dur, xs[k].f.pend ++ [⟨xs[k].f.contents.length, b⟩]⟩⟩ : Re) = (n, ⟨f.dur, f.pend ++ [⟨xs[k].f.contents.length, b⟩]⟩)) := Lib.hid (by rw [← HXF.out]; rfl)
          have hfc2 : (Dk.contents xs[k].f.dur (xs[k].f.pend ++ [⟨xs[k].f.contents.length, b⟩])).length ≤ 16777216 := by
            rw [Dk.contents_snoc, Dk.Wr.apply, Dk.over_length]
            have : (Dk.contents xs[k].f.dur xs[k].f.pend).length ≤ 16777216 := hszk
            show max _ (xs[k].f.contents.length + b.length) ≤ _
            omega
          have hpdk : xs[k].f.pend.length < 65536 := by rw [HXF.out]; exact hpdf
          have HY : Hid (∀ W', Below W.heap.size W W' → wc.heap.size ≤ W'.heap.size → (∀ b, w4.heap.size + 1 ≤ b → b < wc.heap.size → W'.heap[b]? = wc.heap[b]?) → ReAt c W' (⟨n, .slice da xs[k].f.dur.length dc, .slice n9 (xs[k].f.pend.length + 1) c9, xs[k].vs ++ [v2], ⟨xs[k].f.dur, xs[k].f.pend ++ [⟨xs[k].f.contents.length, b⟩]⟩⟩ : Re)) := Lib.hid (fun W' hb hs hk => by
            have hsm := HSm.out
            have ho9 := ho_keep HO9.out hs (fun b hb1 hb2 => hk b (by omega) hb2)
            have ho2 := ho_keep HO2.out hs (fun b hb1 hb2 => hk b (by omega) hb2)
            have hX' := hX0.below hb
            have hd' := hX'.dur
            rw [HDV.out] at hd'
            exact ⟨hd', PendC.own0 (t := 88) (by simpa using ho9) (HC.out.mono (by omega)), hX'.wr.snoc (RdC.own0 ho2 (HC.out.mono (by omega))) hbp hmb, hfc2, by show (xs[k].f.pend ++ [(⟨xs[k].f.contents.length, b⟩ : Dk.Wr)]).length ≤ _; rw [List.length_append, List.length_singleton]; omega, by rw [← hnm]; exact hX0.nm⟩)
          clear rm hb3m hfc2 a0 a1 a2 b0 b1 b2 b3 b4 d0 d1 d2 f0 f1 f2 g0 g1 g2 HRm HO9 HO2
          obtain ⟨⟨a0, a1, a2⟩, _, _, ⟨f0, f1, f2⟩, _, _, _⟩ := HCL.out wc HB3m.out
          go_wp2_with fail
          have hcp := rf_copied D.bud D.down (HA.out.below HB0m.out)
          refine hcp.mono ?_
          rintro e w7 ⟨sv7, rfl, ho7, hb7⟩
          obtain ⟨g7, p7, rfl, hg7, hgl7⟩ := ho7.form (by omega)
          have hsm := HB0m.out.size
          have hs3m := HB3m.out.size
          obtain ⟨⟨a0, a1, a2⟩, _, ⟨d0, d1, d2⟩, ⟨f0, f1, f2⟩, ⟨g0, g1, g2⟩, _, q3⟩ := HCL.out w7 (HB3m.out.trans (hb7.mono hs3m))
          have rt := (hb7.block w4.heap.size (Array.getElem?_eq_some_iff.1 RM.out).1).trans RM.out
          have t0 : w7.cell? ⟨w4.heap.size, 0, none⟩ = some (.string ⟨(⟨n, .slice da xs[k].f.dur.length dc, .slice n9 (xs[k].f.pend.length + 1) c9, xs[k].vs ++ [v2], ⟨xs[k].f.dur, xs[k].f.pend ++ [⟨xs[k].f.contents.length, b⟩]⟩⟩ : Re).nm.toArray⟩) := by rw [cell_of_row _ _ _ _ _ _ rt]; rfl
          have t1 : w7.cell? ⟨w4.heap.size, 1, none⟩ = some (.slice da xs[k].f.dur.length dc) := by rw [cell_of_row _ _ _ _ _ _ rt]; rfl
          have t2 : w7.cell? ⟨w4.heap.size, 2, none⟩ = some (.slice n9 (xs[k].f.pend.length + 1) c9) := by rw [cell_of_row _ _ _ _ _ _ rt]; rfl
          obtain ⟨x1, x2, x3⟩ := reCells_at xs k xs[k] (List.getElem?_eq_getElem hkl2)
          have y1 := (ho7.cellAt (k * 3) (by omega)).trans x1
          have y2 := (ho7.cellAt (k * 3 + 1) (by omega)).trans x2
          have y3 := (ho7.cellAt (k * 3 + 2) (by omega)).trans x3
          have z1 := ho7.frozenAt (k * 3)
          have z2 := ho7.frozenAt (k * 3 + 1)
          have z3 := ho7.frozenAt (k * 3 + 2)
          have n1 : ¬ g7 = W.heap.size := by omega
          have n2 : ¬ g7 = w4.heap.size := by have := (Array.getElem?_eq_some_iff.1 RM.out).1; omega
          have n3 : ¬ W.heap.size = g7 := by omega
          have n4 : ¬ w4.heap.size = W.heap.size := by omega
          have n5 : ¬ g7 = W.heap.size + 1 + 1 := by omega
          have hput := fun s0 s1 s2 q0 q1 q2 => ch_put (W := W) (wm := wc) (w7 := w7) (L := w4.heap.size + 1) (⟨n, .slice da xs[k].f.dur.length dc, .slice n9 (xs[k].f.pend.length + 1) c9, xs[k].vs ++ [v2], ⟨xs[k].f.dur, xs[k].f.pend ++ [⟨xs[k].f.contents.length, b⟩]⟩⟩ : Re) (s0 := s0) (s1 := s1) (s2 := s2) (v0 := q0) (v1 := q1) (v2 := q2) HC.out HFS.out HA.out HR.out HKP.out hkl2 HB0m.out (by omega) (by have := (Array.getElem?_eq_some_iff.1 RM.out).1; omega) hb7 ho7 (f' := ⟨f.dur, f.pend ++ [⟨xs[k].f.contents.length, b⟩]⟩) HYE.out HY.out q3
          have HPUT := Lib.hid hput
          clear hcp hb7 ho7 rt x1 x2 x3 q3 hput hg7 hgl7
          go_wp2_with fail
          have hfin := HPUT.out (.slice (some ⟨g7, 0, none⟩) xs.length p7) (.int .i64 D.bud) (.bool D.down) (.slice (some ⟨g7, 0, none⟩) xs.length p7) (.int .i64 D.bud) (.bool D.down)
          refine bodyPost_ret (results_cell_t3 rfl _ _ (W.heap.size + 1 + 1) _ _ (0, 0) _ rfl (rf_store3 hfin.1) Tryz.underlying27 rfl (by kernel_rfl)) rfl ?_
          exact hfin.2

end Go.Proofs.YtegahpgnmeobhaaGreatDoor
