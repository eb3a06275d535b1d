/-
  THE REFERENCE: change: Rename.
-/
import Derived.Test.YtegahpgnmeobhaaGreatDoorRfChange
import Derived.Test.YtegahpgnmeobhaaGreatDoorDkRename
namespace Go.Proofs.YtegahpgnmeobhaaGreatDoor
open Go.RowKit

namespace Dk
def change5 (d : D) (a b : Bs) : List (Bs × Fl) × Int × Bool := match find a d.fs with
  | none => (d.fs, 9, false)
  | some f => if valid b = false then (d.fs, 6, false) else (ins b f (del b (del a d.fs)), 0, true)
theorem del_none {n : Bs} {fs : List (Bs × Fl)} (h : find n fs = none) : del n fs = fs := by
  unfold del
  rw [List.filter_eq_self]
  intro p hp
  have := find_none_ne h p hp
  simp [this]
theorem del_ne (n : Bs) (fs : List (Bs × Fl)) : ∀ p ∈ del n fs, p.1 ≠ n := by
  intro p hp
  have := (List.mem_filter.1 hp).2
  simpa using this
end Dk
theorem ReAt.renamed {c : Nat → Nat} {W : World} {x : Re} {dv wv : Value} (h : ReAt c W x) (h1 : x.dv = dv) (h2 : x.wv = wv) (t : Dk.Bs) (ht : t.length ≤ 9223372036854775807) : ReAt c W ⟨t, dv, wv, x.vs, x.f⟩ := by
  subst h1 h2
  exact ⟨h.dur, h.pend, h.wr, h.size, h.many, ht⟩

set_option maxRecDepth 100000 in
set_option maxHeartbeats 2000000 in
theorem rf_change5 {c : Nat → Nat} {W : World} {v : Value} {D : Dk.D} (hc : New0 c W.heap.size) (h : RfD c W v D) (hR : Dk.Rising D.fs) (n : Dk.Bs) (t : Dk.Bs) (ht : t.length ≤ 9223372036854775807) (o3 o4 : Value) :
    Calls Tryz.prog 56 #[v, .agg #[.int .i64 5, .string ⟨n.toArray⟩, .string ⟨t.toArray⟩, o3, o4]] W (ChPost c W D (Dk.change5 D n t).1 (Dk.change5 D n t).2.1 (Dk.change5 D n t).2.2) := by
  obtain ⟨sv, xs, rfl, hfs, hA⟩ := h
  have hlx : D.fs.length = xs.length := by rw [hfs]; simp
  have hA' := hA
  obtain ⟨ao, cap, rfl, hcap, _⟩ := hA'.source
  obtain ⟨W3, hW3, hb3, hz, hcl⟩ := ch_start W (.slice ao xs.length cap) D.bud D.down (.int .i64 5) (.string ⟨n.toArray⟩) (.string ⟨t.toArray⟩) (o3) (o4)
  have hfd := rf_find (c := c) (W := W3) (v := rfVal (.slice ao xs.length cap) D) (D := D) ⟨_, xs, rfl, hfs, hA.below hb3⟩ n
  have HFD := Lib.hid hfd
  have HCL := Lib.hid hcl
  have HW3 := Lib.hid hW3
  have HB3 := Lib.hid hb3
  have HZ := Lib.hid hz
  have HA := Lib.hid hA
  have HC := Lib.hid hc
  have HFS := Lib.hid hfs
  have HLX := Lib.hid hlx
  have HR := Lib.hid hR
  clear hfd hcl hW3 hb3 hz hA' hc hfs hlx hR
  unfold rfVal at HFD ⊢
  unfold Dk.change5
  cases hf : Dk.find n D.fs with
  | none =>
    rw [Dk.posInt_none hf] at HFD
    clear hf
    go_enter Tryz.func56, Tryz.ntmps56
    go_wp2_with fail
    rw [← HW3.out]
    refine HFD.out.mono ?_
    rintro e w4 ⟨rfl, hb4⟩
    obtain ⟨⟨a0, a1, a2⟩, ⟨b0, b1, b2, b3, b4⟩, ⟨d0, d1, d2⟩, _, ⟨g0, g1, g2⟩, q1, q3⟩ := HCL.out w4 hb4
    have HB4 := Lib.hid hb4
    have Q3 := Lib.hid q3
    clear q1 q3 hb4
    go_wp2_with fail
    refine bodyPost_ret (results_cell_t3 rfl _ _ (W.heap.size + 1 + 1) _ _ (0, 0) _ rfl (rf_store3 Q3.out) Tryz.underlying27 rfl (by kernel_rfl)) rfl ?_
    exact ch_same HFS.out HA.out (HB3.out.trans (HB4.out.mono (by rw [HZ.out]; omega))) _ _
  | some f =>
    simp only []
    obtain ⟨k, hkp, hk, hkl, hkx⟩ := Dk.posInt_some hf
    rw [hk] at HFD
    have hkl2 : k < xs.length := by have := HLX.out; omega
    have hxk : xs[k].ent = (n, f) := by
      have := hkx
      rw [HFS.out, List.getElem?_map, List.getElem?_eq_getElem hkl2] at this
      exact Option.some.inj this
    have hxf : xs[k].f = f := congrArg Prod.snd hxk
    obtain ⟨ao', cap', hv, _, hatk⟩ := HA.out.at
    injection hv with hv1 _ hv3
    subst hv1 hv3
    obtain ⟨g, rfl, hg, _, _, _, hX0⟩ := hatk k xs[k] (List.getElem?_eq_getElem hkl2)
    have HATK := Lib.hid hatk
    have HKP := Lib.hid hkp
    have HXF := Lib.hid hxf
    have HXK := Lib.hid hxk
    clear hatk hkp hkx hk hxf hxk hf hkl
    cases hv : Dk.valid t with
    | false =>
      simp only [if_true]
      have HV := Lib.hid hv
      clear hv
      go_enter Tryz.func56, Tryz.ntmps56
      go_wp2_with fail
      rw [← HW3.out]
      refine HFD.out.mono ?_
      rintro e w4 ⟨rfl, hb4⟩
      obtain ⟨⟨a0, a1, a2⟩, ⟨b0, b1, b2, b3, b4⟩, ⟨d0, d1, d2⟩, _, ⟨g0, g1, g2⟩, q1, q3⟩ := HCL.out w4 hb4
      have HB4 := Lib.hid hb4
      have hb04 : Below W.heap.size W w4 := HB3.out.trans (HB4.out.mono (by rw [HZ.out]; omega))
      obtain ⟨g', he, _, x1, x2, x3, _⟩ := HATK.out k xs[k] (List.getElem?_eq_getElem hkl2)
      cases he
      have y1 := (hb04.cell (p := ⟨g, k * 3, none⟩) hg).trans x1
      have y2 := (hb04.cell (p := ⟨g, k * 3 + 1, none⟩) hg).trans x2
      have y3 := (hb04.cell (p := ⟨g, k * 3 + 2, none⟩) hg).trans x3
      have hX := hX0.below hb04
      obtain ⟨da, dc, hdv⟩ := hX.dur.1.form
      obtain ⟨wa, wc, hwv, _⟩ := hX.pend.form
      obtain ⟨w5, hw5⟩ : ∃ w5, w5 = w4.alloc (.cells #[.string ⟨xs[k].nm.toArray⟩, .slice da xs[k].f.dur.length dc, .slice wa xs[k].f.pend.length wc] 37) := ⟨_, rfl⟩
      have hb45 : Below w4.heap.size w4 w5 := by rw [hw5]; exact (Below.refl _ _).alloc (Nat.le_refl _) _
      have r5 : w5.heap[w4.heap.size]? = some (.cells #[.string ⟨xs[k].nm.toArray⟩, .slice da xs[k].f.dur.length dc, .slice wa xs[k].f.pend.length wc] 37 (0, 0)) := by rw [hw5]; exact heap_alloc_new _ _
      have s5 : w5.heap.size = w4.heap.size + 1 := by rw [hw5]; simp
      have hct := rf_contents (hX.below hb45)
      unfold Re.val at hct
      rw [hdv, hwv] at hct
      rw [hdv] at y2
      rw [hwv] at y3
      have HCT := Lib.hid hct
      have HW5 := Lib.hid hw5
      have R5 := Lib.hid r5
      have S5 := Lib.hid s5
      have HB04 := Lib.hid hb04
      have HB45 := Lib.hid hb45
      have HDV := Lib.hid hdv
      have HWV := Lib.hid hwv
      have i1 : (0 : Int) ≤ k := by omega
      have i2 : (k : Int) < xs.length := by omega
      clear hct hw5 r5 s5 hb04 hb45 hX q1 q3 hb4 x1 x2 x3 hdv hwv
      go_wp2_with fail
      rw [← HW5.out]
      refine HCT.out.mono ?_
      rintro e w6 ⟨vn, rfl, hon, hb6⟩
      have hz := HZ.out
      have hs4 := HB4.out.size
      have hs5 := S5.out
      have hs6 := hb6.size
      have hb46 : Below w4.heap.size w4 w6 := HB45.out.trans (hb6.mono (by omega))
      obtain ⟨⟨a0, a1, a2⟩, ⟨b0, b1, b2, b3, b4⟩, ⟨d0, d1, d2⟩, ⟨f0, f1, f2⟩, ⟨g0, g1, g2⟩, q1, q3⟩ := HCL.out w6 (HB4.out.trans (hb46.mono hs4))
      have R6 := Lib.hid ((hb6.block w4.heap.size (by omega)).trans R5.out)
      obtain ⟨na, nc, rfl⟩ := rf_own_form hon
      have HON := Lib.hid hon
      have HB6 := Lib.hid hb6
      have HB46 := Lib.hid hb46
      have HB06 := Lib.hid (HB04.out.trans (hb46.mono (by omega)))
      have Q1 := Lib.hid q1
      clear hon hb6 hb46 y1 y2 y3 q1 q3
      go_wp2_with fail
      refine (rf_valid ⟨t.toArray⟩ w6 (by simpa [ByteArray.size] using ht)).mono ?_
      rintro e w7 ⟨rfl, rfl⟩
      rw [show (⟨t.toArray⟩ : ByteArray).data.toList = t from by simp, HV.out]
      obtain ⟨_, _, ⟨d0, d1, d2⟩, _, ⟨g0, g1, g2⟩, _, q3⟩ := HCL.out w6 (HB4.out.trans (HB46.out.mono hs4))
      have Q3 := Lib.hid q3
      clear q3
      go_wp2_with fail
      refine bodyPost_ret (results_cell_t3 rfl _ _ (W.heap.size + 1 + 1) _ _ (0, 0) _ rfl (rf_store3 Q3.out) Tryz.underlying27 rfl (by kernel_rfl)) rfl ?_
      exact ch_same HFS.out HA.out HB06.out _ _
    | true =>
      simp only [Bool.true_eq_false, if_false]
      have HV := Lib.hid hv
      clear hv
      go_enter Tryz.func56, Tryz.ntmps56
      go_wp2_with fail
      rw [← HW3.out]
      refine HFD.out.mono ?_
      rintro e w4 ⟨rfl, hb4⟩
      obtain ⟨⟨a0, a1, a2⟩, ⟨b0, b1, b2, b3, b4⟩, ⟨d0, d1, d2⟩, _, ⟨g0, g1, g2⟩, q1, q3⟩ := HCL.out w4 hb4
      have HB4 := Lib.hid hb4
      have hb04 : Below W.heap.size W w4 := HB3.out.trans (HB4.out.mono (by rw [HZ.out]; omega))
      obtain ⟨g', he, _, x1, x2, x3, _⟩ := HATK.out k xs[k] (List.getElem?_eq_getElem hkl2)
      cases he
      have y1 := (hb04.cell (p := ⟨g, k * 3, none⟩) hg).trans x1
      have y2 := (hb04.cell (p := ⟨g, k * 3 + 1, none⟩) hg).trans x2
      have y3 := (hb04.cell (p := ⟨g, k * 3 + 2, none⟩) hg).trans x3
      have hX := hX0.below hb04
      obtain ⟨da, dc, hdv⟩ := hX.dur.1.form
      obtain ⟨wa, wc, hwv, _⟩ := hX.pend.form
      obtain ⟨w5, hw5⟩ : ∃ w5, w5 = w4.alloc (.cells #[.string ⟨xs[k].nm.toArray⟩, .slice da xs[k].f.dur.length dc, .slice wa xs[k].f.pend.length wc] 37) := ⟨_, rfl⟩
      have hb45 : Below w4.heap.size w4 w5 := by rw [hw5]; exact (Below.refl _ _).alloc (Nat.le_refl _) _
      have r5 : w5.heap[w4.heap.size]? = some (.cells #[.string ⟨xs[k].nm.toArray⟩, .slice da xs[k].f.dur.length dc, .slice wa xs[k].f.pend.length wc] 37 (0, 0)) := by rw [hw5]; exact heap_alloc_new _ _
      have s5 : w5.heap.size = w4.heap.size + 1 := by rw [hw5]; simp
      have hct := rf_contents (hX.below hb45)
      unfold Re.val at hct
      rw [hdv, hwv] at hct
      rw [hdv] at y2
      rw [hwv] at y3
      have HCT := Lib.hid hct
      have HW5 := Lib.hid hw5
      have R5 := Lib.hid r5
      have S5 := Lib.hid s5
      have HB04 := Lib.hid hb04
      have HB45 := Lib.hid hb45
      have HDV := Lib.hid hdv
      have HWV := Lib.hid hwv
      have i1 : (0 : Int) ≤ k := by omega
      have i2 : (k : Int) < xs.length := by omega
      clear hct hw5 r5 s5 hb04 hb45 hX q1 q3 hb4 x1 x2 x3 hdv hwv
      go_wp2_with fail
      rw [← HW5.out]
      refine HCT.out.mono ?_
      rintro e w6 ⟨vn, rfl, hon, hb6⟩
      have hz := HZ.out
      have hs4 := HB4.out.size
      have hs5 := S5.out
      have hs6 := hb6.size
      have hb46 : Below w4.heap.size w4 w6 := HB45.out.trans (hb6.mono (by omega))
      obtain ⟨⟨a0, a1, a2⟩, ⟨b0, b1, b2, b3, b4⟩, ⟨d0, d1, d2⟩, ⟨f0, f1, f2⟩, ⟨g0, g1, g2⟩, q1, q3⟩ := HCL.out w6 (HB4.out.trans (hb46.mono hs4))
      have R6 := Lib.hid ((hb6.block w4.heap.size (by omega)).trans R5.out)
      obtain ⟨na, nc, rfl⟩ := rf_own_form hon
      have HON := Lib.hid hon
      have HB6 := Lib.hid hb6
      have HB46 := Lib.hid hb46
      have HB06 := Lib.hid (HB04.out.trans (hb46.mono (by omega)))
      have Q1 := Lib.hid q1
      clear hon hb6 hb46 y1 y2 y3 q1 q3
      have t0 : w6.cell? ⟨w4.heap.size, 0, none⟩ = some (.string ⟨xs[k].nm.toArray⟩) := by rw [cell_of_row _ _ _ _ _ _ R6.out]; rfl
      go_wp2_with fail
      refine (rf_valid ⟨t.toArray⟩ w6 (by simpa [ByteArray.size] using ht)).mono ?_
      rintro e w7 ⟨rfl, rfl⟩
      rw [show (⟨t.toArray⟩ : ByteArray).data.toList = t from by simp, HV.out]
      go_wp2_with fail
      have hwo := rf_without D.bud D.down (HA.out.below HB06.out) k hkl2
      refine hwo.mono ?_
      rintro e w7 ⟨sv7, rfl, ho7, hb7⟩
      obtain ⟨a7, p7, rfl⟩ := rf_own_form ho7
      obtain ⟨ys, hys⟩ : ∃ ys, ys = xs.take k ++ xs.drop (k + 1) := ⟨_, rfl⟩
      have hyl : ys.length = xs.length - 1 := by rw [hys, List.length_append, List.length_take, List.length_drop]; omega
      have hym : ys.map Re.ent = Dk.del n D.fs := by
        rw [hys, ← Dk.del_eq HR.out.ne HKP.out, HFS.out, List.map_append, List.map_take, List.map_drop]
      have hymem : ∀ y ∈ ys, y ∈ xs := fun y hy => by
        rw [hys] at hy
        rcases List.mem_append.1 hy with hy | hy
        · exact List.mem_of_mem_take hy
        · exact List.mem_of_mem_drop hy
      have ho7' : w7.ownsRow w6.heap.size 37 3 (.slice a7 (xs.length - 1) p7) ys.length (reCells ys) := by rw [hyl, hys]; exact ho7
      have hl := HA.out.2.2
      -- the box of the disk is laid anew
      have hb37 : Below W3.heap.size W3 w7 := (HB4.out.trans (HB46.out.mono hs4)).trans (hb7.mono (by have := HB46.out.size; omega))
      obtain ⟨⟨a0, a1, a2⟩, ⟨b0, b1, b2, b3, b4⟩, ⟨d0, d1, d2⟩, ⟨f0, f1, f2⟩, ⟨g0, g1, g2⟩, q1, q3⟩ := HCL.out w7 hb37
      have r7 := (hb7.block w4.heap.size (Array.getElem?_eq_some_iff.1 R6.out).1).trans R6.out
      obtain ⟨w8, hw8⟩ : ∃ w8, w8 = ((w7.setCell ⟨W.heap.size, 0, none⟩ (.slice a7 (xs.length - 1) p7)).setCell ⟨W.heap.size, 1, none⟩ (.int .i64 D.bud)).setCell ⟨W.heap.size, 2, none⟩ (.bool D.down) := ⟨_, rfl⟩
      have hg8 : w7.grownBy w8 (some W.heap.size) := by rw [hw8]; exact rf_store3_grown
      have hs7 := hb7.size
      have hs8 := hg8.size
      have ho8 := ho7'.kept hg8 (Or.inr (fun e => by have := (ho7'.lt _ e).1; omega))
      have hb08 : Below W.heap.size W w8 := (HB06.out.trans (hb7.mono HB06.out.size)).grown hg8 (by omega) (fun j hj => by cases hj; omega)
      have q18 : w8.heap[W.heap.size]? = some (.cells #[.slice a7 (xs.length - 1) p7, .int .i64 D.bud, .bool D.down] 27 (0, 0)) := by rw [hw8]; exact rf_store3 q1
      have hA8 : RfAt c w8 (.slice a7 (xs.length - 1) p7) ys := RfAt.own0 (B := w6.heap.size) ho8 (HC.out.mono (by omega)) (fun y hy => (HA.out.2.1 y (hymem y hy)).below hb08) (by omega)
      -- blocks of change's frame in w8 and behind
      have hfr : ∀ wz, Below w8.heap.size w8 wz → (wz.cell? ⟨W.heap.size, 0, none⟩ = some (.slice a7 (xs.length - 1) p7) ∧ wz.cell? ⟨W.heap.size, 1, none⟩ = some (.int .i64 D.bud) ∧ wz.cell? ⟨W.heap.size, 2, none⟩ = some (.bool D.down)) ∧
          wz.cell? ⟨W.heap.size + 1, 2, none⟩ = some (.string ⟨t.toArray⟩) ∧ (wz.cell? ⟨w4.heap.size, 0, none⟩ = some (.string ⟨xs[k].nm.toArray⟩) ∧ wz.cell? ⟨w4.heap.size, 1, none⟩ = some (.slice da xs[k].f.dur.length dc) ∧ wz.cell? ⟨w4.heap.size, 2, none⟩ = some (.slice wa xs[k].f.pend.length wc)) ∧
          (wz.frozen? ⟨W.heap.size, 0, none⟩ = false ∧ wz.frozen? ⟨W.heap.size, 1, none⟩ = false ∧ wz.frozen? ⟨W.heap.size, 2, none⟩ = false) ∧ wz.frozen? ⟨w4.heap.size, 0, none⟩ = false ∧
          wz.heap[W.heap.size]? = some (.cells #[.slice a7 (xs.length - 1) p7, .int .i64 D.bud, .bool D.down] 27 (0, 0)) ∧
          wz.heap[w4.heap.size]? = some (.cells #[.string ⟨xs[k].nm.toArray⟩, .slice da xs[k].f.dur.length dc, .slice wa xs[k].f.pend.length wc] 37 (0, 0)) ∧
          wz.heap[W.heap.size + 1 + 1]? = some (.cells #[.slice none 0 0, .int .i64 0, .bool false] 27 (0, 0)) := fun wz hb => by
        have k1 := (hb.block W.heap.size (by omega)).trans q18
        have k2 := (hb.block w4.heap.size (by omega)).trans ((hg8.block w4.heap.size (by omega) (fun e => by injection e with e; omega)).trans r7)
        have k3 := (hb.block (W.heap.size + 1 + 1) (by omega)).trans ((hg8.block (W.heap.size + 1 + 1) (by omega) (fun e => by injection e with e; omega)).trans q3)
        have k4 := (hb.cell (p := ⟨W.heap.size + 1, 2, none⟩) (by show W.heap.size + 1 < _; omega)).trans ((hg8.cell_far ⟨W.heap.size + 1, 2, none⟩ (by show W.heap.size + 1 < _; omega) (fun e => by injection e with e; simp at e)).trans b2)
        exact ⟨⟨by rw [cell_of_row _ _ _ _ _ _ k1]; rfl, by rw [cell_of_row _ _ _ _ _ _ k1]; rfl, by rw [cell_of_row _ _ _ _ _ _ k1]; rfl⟩, k4, ⟨by rw [cell_of_row _ _ _ _ _ _ k2]; rfl, by rw [cell_of_row _ _ _ _ _ _ k2]; rfl, by rw [cell_of_row _ _ _ _ _ _ k2]; rfl⟩,
          ⟨dk_frozen _ _ _ _ _ k1, dk_frozen _ _ _ _ _ k1, dk_frozen _ _ _ _ _ k1⟩, dk_frozen _ _ _ _ _ k2, k1, k2, k3⟩
      have HFR := Lib.hid hfr
      have HA8 := Lib.hid hA8
      have HB08 := Lib.hid hb08
      have HO8 := Lib.hid ho8
      have HYM := Lib.hid hym
      have HYL := Lib.hid hyl
      have HYMEM := Lib.hid hymem
      have HW8 := Lib.hid hw8
      have HS8 : Hid (w4.heap.size + 1 ≤ w8.heap.size ∧ W.heap.size + 3 ≤ w8.heap.size) := Lib.hid ⟨by omega, by omega⟩
      have hfind := rf_find (c := c) (W := w8) (v := .agg #[.slice a7 (xs.length - 1) p7, .int .i64 D.bud, .bool D.down]) (D := ⟨Dk.del n D.fs, D.bud, D.down⟩) ⟨_, ys, rfl, hym.symm, hA8⟩ t
      have HFIND := Lib.hid hfind
      clear hwo ho7 ho7' hb7 hys hb37 q1 q3 r7 hg8 ho8 hb08 q18 hA8 hfr hfind hym hyl hymem hw8 t0 hs7 hs8
      go_wp2_with fail
      rw [← HW8.out]
      refine HFIND.out.mono ?_
      rintro e w9 ⟨rfl, hb9⟩
      obtain ⟨⟨a0, a1, a2⟩, b2', ⟨t0, t1, t2⟩, ⟨f0, f1, f2⟩, u0, _, _, _⟩ := HFR.out w9 hb9
      have HB9 := Lib.hid hb9
      have HB09 := Lib.hid (HB08.out.trans (hb9.mono HB08.out.size))
      clear hb9
      cases hf2 : Dk.find t (Dk.del n D.fs) with
      | none =>
        rw [Dk.posInt_none hf2]
        have hdel : Dk.del t (Dk.del n D.fs) = Dk.del n D.fs := Dk.del_none hf2
        have HDEL := Lib.hid hdel
        clear hf2 hdel
        go_wp2_with fail
        have HOQ := Lib.hid (HO8.out.kept (dk_grown_of_below none HB9.out) (by simp [Value.ownBlock]; cases a7 <;> simp))
        have HBQ := HB09
        have HMQ := HYMEM
        have HDQ : Hid (ys.map Re.ent = Dk.del t (Dk.del n D.fs)) := Lib.hid (HYM.out.trans HDEL.out.symm)
        have HRQ := Lib.hid (HFR.out w9 HB9.out).2.2.2.2.2.2.2
        have HSQ : Hid (w4.heap.size + 1 ≤ w9.heap.size ∧ W.heap.size + 3 ≤ w9.heap.size) := Lib.hid (by have := HS8.out; have := HB9.out.size; omega)
        have HLQ : Hid (w4.heap.size + 1 ≤ w6.heap.size ∧ ys.length ≤ 65536) := Lib.hid (by have := HYL.out; omega)
        have HZL : Hid (ys.length + 1 ≤ 65536) := Lib.hid (by have := HYL.out; omega)
        have hown10 := HOQ.out.kept (dk_grown_setCell w9 w9 w4.heap.size 0 (.string ⟨t.toArray⟩) ⟨rfl, rfl, rfl, Nat.le_refl _, fun _ _ _ => rfl⟩) (Or.inr (fun e => by have := (HOQ.out.lt _ e).1; have := HLQ.out.1; omega))
        have hb010 : Below W.heap.size W (w9.setCell ⟨w4.heap.size, 0, none⟩ (.string ⟨t.toArray⟩)) := HBQ.out.setCell (by simp; omega) _
        obtain ⟨w10, hw10⟩ : ∃ w10, w10 = w9.setCell ⟨w4.heap.size, 0, none⟩ (.string ⟨t.toArray⟩) := ⟨_, rfl⟩
        rw [← hw10] at hown10 hb010 ⊢
        have hA10 : RfAt c w10 (.slice a7 (xs.length - 1) p7) ys := RfAt.own0 hown10 (HC.out.mono (by have := HLQ.out.1; omega)) (fun y hy => (HA.out.2.1 y (HMQ.out y hy)).below hb010) HLQ.out.2
        have hx1 : ∀ u ∈ Re.cells (⟨t, .slice da xs[k].f.dur.length dc, .slice wa xs[k].f.pend.length wc, xs[k].vs, xs[k].f⟩ : Re), u.oneCell' = true := by intro u hu; simp [Re.cells] at hu; rcases hu with rfl | rfl | rfl <;> rfl
        have hwi := rf_with D.bud D.down hA10 (⟨t, .slice da xs[k].f.dur.length dc, .slice wa xs[k].f.pend.length wc, xs[k].vs, xs[k].f⟩ : Re) hx1
        unfold Re.val at hwi
        simp only [] at hwi
        have hq3 : w10.heap[W.heap.size + 1 + 1]? = some (.cells #[.slice none 0 0, .int .i64 0, .bool false] 27 (0, 0)) := by
          rw [hw10]; exact rf_other _ _ _ _ _ (by omega) HRQ.out
        have hs10 : w4.heap.size + 1 ≤ w10.heap.size ∧ W.heap.size + 3 ≤ w10.heap.size := by
          rw [hw10]
          simpa [World.setCell] using HSQ.out
        refine hwi.mono ?_
        rintro e w11 ⟨sv11, rfl, ho11, hb11⟩
        have q11 := (hb11.block (W.heap.size + 1 + 1) (by omega)).trans hq3
        have c0 : w11.cell? ⟨W.heap.size + 1 + 1, 0, none⟩ = some (.slice none 0 0) := by rw [cell_of_row _ _ _ _ _ _ q11]; rfl
        have c1 : w11.cell? ⟨W.heap.size + 1 + 1, 1, none⟩ = some (.int .i64 0) := by rw [cell_of_row _ _ _ _ _ _ q11]; rfl
        have c2 : w11.cell? ⟨W.heap.size + 1 + 1, 2, none⟩ = some (.bool false) := by rw [cell_of_row _ _ _ _ _ _ q11]; rfl
        have v0 := dk_frozen w11 (W.heap.size + 1 + 1) 0 _ _ q11
        have v1 := dk_frozen w11 (W.heap.size + 1 + 1) 1 _ _ q11
        have v2 := dk_frozen w11 (W.heap.size + 1 + 1) 2 _ _ q11
        obtain ⟨a11, p11, rfl⟩ := rf_own_form ho11
        have Q11 := Lib.hid q11
        have HO11 := Lib.hid ho11
        have HB011 := Lib.hid (hb010.trans (hb11.mono hb010.size))
        have HS10 := Lib.hid hs10
        clear hown10 hb010 hw10 hA10 hx1 hwi hq3 ho11 hb11 q11 hs10
        go_wp2_with fail
        refine bodyPost_ret (results_cell_t3 rfl _ _ (W.heap.size + 1 + 1) _ _ (0, 0) _ rfl (rf_store3 Q11.out) Tryz.underlying27 rfl (by kernel_rfl)) rfl ?_
        have hmap : (ys.take (Dk.ahead t (ys.map Re.ent)) ++ (⟨t, .slice da xs[k].f.dur.length dc, .slice wa xs[k].f.pend.length wc, xs[k].vs, xs[k].f⟩ : Re) :: ys.drop (Dk.ahead t (ys.map Re.ent))).map Re.ent = Dk.ins t f (Dk.del t (Dk.del n D.fs)) := by
          rw [← Dk.ins_eq t f _ (Dk.del_ne t _), ← HDQ.out, List.map_append, List.map_take, List.map_cons, List.map_drop, ← HXF.out]
          rfl
        have hlen : (ys.take (Dk.ahead t (ys.map Re.ent)) ++ (⟨t, .slice da xs[k].f.dur.length dc, .slice wa xs[k].f.pend.length wc, xs[k].vs, xs[k].f⟩ : Re) :: ys.drop (Dk.ahead t (ys.map Re.ent))).length = ys.length + 1 := by
          have := Dk.ahead_le t (ys.map Re.ent)
          rw [List.length_map] at this
          rw [List.length_append, List.length_cons, List.length_take, List.length_drop]
          omega
        have hzl := HZL.out
        refine ch_new (B := w10.heap.size) HC.out HB011.out HS10.out.2 (by rw [hlen]; exact HO11.out) (by rw [hlen]; omega) (fun y hy => ?_) _ hmap.symm _ _
        rcases List.mem_append.1 hy with hy | hy
        · exact (HA.out.2.1 y (HMQ.out y (List.mem_of_mem_take hy))).below (ch_below HB011.out)
        · rcases List.mem_cons.1 hy with rfl | hy
          · exact ReAt.renamed (hX0.below (ch_below HB011.out)) HDV.out HWV.out t ht
          · exact (HA.out.2.1 y (HMQ.out y (List.mem_of_mem_drop hy))).below (ch_below HB011.out)
      | some f2 =>
        obtain ⟨k2, hk2p, hk2, hk2l, _⟩ := Dk.posInt_some hf2
        rw [hk2]
        have hk2y : k2 < ys.length := by rw [← HYM.out, List.length_map] at hk2l; exact hk2l
        have HK2P := Lib.hid hk2p
        clear hk2p hk2 hk2l hf2
        go_wp2_with fail
        have hwo2 := rf_without D.bud D.down (HA8.out.below HB9.out) k2 hk2y
        refine hwo2.mono ?_
        rintro e w10 ⟨sv10, rfl, ho10, hb10⟩
        obtain ⟨a10, p10, rfl⟩ := rf_own_form ho10
        obtain ⟨zs, hzs⟩ : ∃ zs, zs = ys.take k2 ++ ys.drop (k2 + 1) := ⟨_, rfl⟩
        have hzl : zs.length = ys.length - 1 := by rw [hzs, List.length_append, List.length_take, List.length_drop]; omega
        have hrise : (Dk.del n D.fs).Pairwise (fun p q => p.1 ≠ q.1) := HR.out.ne.filter _
        have hzm : zs.map Re.ent = Dk.del t (Dk.del n D.fs) := by
          rw [hzs, ← Dk.del_eq hrise HK2P.out, ← HYM.out, List.map_append, List.map_take, List.map_drop]
        have hzmem : ∀ y ∈ zs, y ∈ xs := fun y hy => by
          rw [hzs] at hy
          rcases List.mem_append.1 hy with hy | hy
          · exact HYMEM.out y (List.mem_of_mem_take hy)
          · exact HYMEM.out y (List.mem_of_mem_drop hy)
        have ho10' : w10.ownsRow w9.heap.size 37 3 (.slice a10 (ys.length - 1) p10) zs.length (reCells zs) := by rw [hzl, hzs]; exact ho10
        have hl := HA.out.2.2
        have hyl := HYL.out
        have hs8 := HS8.out
        have hs9 := HB9.out.size
        have hs10 := hb10.size
        obtain ⟨⟨a0, a1, a2⟩, _, ⟨t0, t1, t2⟩, ⟨f0, f1, f2'⟩, u0, q1, q2, q3⟩ := HFR.out w10 (HB9.out.trans (hb10.mono hs9))
        obtain ⟨w12, hw12⟩ : ∃ w12, w12 = ((w10.setCell ⟨W.heap.size, 0, none⟩ (.slice a10 (ys.length - 1) p10)).setCell ⟨W.heap.size, 1, none⟩ (.int .i64 D.bud)).setCell ⟨W.heap.size, 2, none⟩ (.bool D.down) := ⟨_, rfl⟩
        have hg12 : w10.grownBy w12 (some W.heap.size) := by rw [hw12]; exact rf_store3_grown
        have hs12 := hg12.size
        have ho12 := ho10'.kept hg12 (Or.inr (fun e => by have := (ho10'.lt _ e).1; omega))
        have hb012 : Below W.heap.size W w12 := (HB09.out.trans (hb10.mono HB09.out.size)).grown hg12 (by omega) (fun j hj => by cases hj; omega)
        have q112 : w12.heap[W.heap.size]? = some (.cells #[.slice a10 (ys.length - 1) p10, .int .i64 D.bud, .bool D.down] 27 (0, 0)) := by rw [hw12]; exact rf_store3 q1
        have q212 := (hg12.block w4.heap.size (by omega) (fun e => by injection e with e; omega)).trans q2
        have q312 := (hg12.block (W.heap.size + 1 + 1) (by omega) (fun e => by injection e with e; omega)).trans q3
        have q412 : w12.cell? ⟨W.heap.size + 1, 2, none⟩ = some (.string ⟨t.toArray⟩) := (hg12.cell_far ⟨W.heap.size + 1, 2, none⟩ (by show W.heap.size + 1 < _; omega) (fun e => by injection e with e; simp at e)).trans (HFR.out w10 (HB9.out.trans (hb10.mono hs9))).2.1
        have HOQ := Lib.hid ho12
        have HBQ := Lib.hid hb012
        have HMQ := Lib.hid hzmem
        have HDQ := Lib.hid hzm
        have HRQ := Lib.hid q312
        have HSQ : Hid (w4.heap.size + 1 ≤ w12.heap.size ∧ W.heap.size + 3 ≤ w12.heap.size) := Lib.hid (by omega)
        have HLQ : Hid (w4.heap.size + 1 ≤ w9.heap.size ∧ zs.length ≤ 65536) := Lib.hid (by omega)
        have HZL : Hid (zs.length + 1 ≤ 65536) := Lib.hid (by omega)
        have HW12 := Lib.hid hw12
        have m0 : w12.cell? ⟨W.heap.size, 0, none⟩ = some (.slice a10 (ys.length - 1) p10) := by rw [cell_of_row _ _ _ _ _ _ q112]; rfl
        have m1 : w12.cell? ⟨W.heap.size, 1, none⟩ = some (.int .i64 D.bud) := by rw [cell_of_row _ _ _ _ _ _ q112]; rfl
        have m2 : w12.cell? ⟨W.heap.size, 2, none⟩ = some (.bool D.down) := by rw [cell_of_row _ _ _ _ _ _ q112]; rfl
        have l0 : w12.cell? ⟨w4.heap.size, 0, none⟩ = some (.string ⟨xs[k].nm.toArray⟩) := by rw [cell_of_row _ _ _ _ _ _ q212]; rfl
        have l1 : w12.cell? ⟨w4.heap.size, 1, none⟩ = some (.slice da xs[k].f.dur.length dc) := by rw [cell_of_row _ _ _ _ _ _ q212]; rfl
        have l2 : w12.cell? ⟨w4.heap.size, 2, none⟩ = some (.slice wa xs[k].f.pend.length wc) := by rw [cell_of_row _ _ _ _ _ _ q212]; rfl
        have l3 := dk_frozen w12 w4.heap.size 0 _ _ q212
        clear hwo2 ho10 ho10' hb10 hzs hzl hrise hzm hzmem hw12 hg12 ho12 hb012 q112 q212 q312 q1 q2 q3 hyl hs12
        go_upto_region 39 with (fail)
        rw [← HW12.out]
        go_wp2_with fail
        have hown10 := HOQ.out.kept (dk_grown_setCell w12 w12 w4.heap.size 0 (.string ⟨t.toArray⟩) ⟨rfl, rfl, rfl, Nat.le_refl _, fun _ _ _ => rfl⟩) (Or.inr (fun e => by have := (HOQ.out.lt _ e).1; have := HLQ.out.1; omega))
        have hb010 : Below W.heap.size W (w12.setCell ⟨w4.heap.size, 0, none⟩ (.string ⟨t.toArray⟩)) := HBQ.out.setCell (by simp; omega) _
        obtain ⟨w10, hw10⟩ : ∃ w10, w10 = w12.setCell ⟨w4.heap.size, 0, none⟩ (.string ⟨t.toArray⟩) := ⟨_, rfl⟩
        rw [← hw10] at hown10 hb010 ⊢
        have hA10 : RfAt c w10 (.slice a10 (ys.length - 1) p10) zs := RfAt.own0 hown10 (HC.out.mono (by have := HLQ.out.1; omega)) (fun y hy => (HA.out.2.1 y (HMQ.out y hy)).below hb010) HLQ.out.2
        have hx1 : ∀ u ∈ Re.cells (⟨t, .slice da xs[k].f.dur.length dc, .slice wa xs[k].f.pend.length wc, xs[k].vs, xs[k].f⟩ : Re), u.oneCell' = true := by intro u hu; simp [Re.cells] at hu; rcases hu with rfl | rfl | rfl <;> rfl
        have hwi := rf_with D.bud D.down hA10 (⟨t, .slice da xs[k].f.dur.length dc, .slice wa xs[k].f.pend.length wc, xs[k].vs, xs[k].f⟩ : Re) hx1
        unfold Re.val at hwi
        simp only [] at hwi
        have hq3 : w10.heap[W.heap.size + 1 + 1]? = some (.cells #[.slice none 0 0, .int .i64 0, .bool false] 27 (0, 0)) := by
          rw [hw10]; exact rf_other _ _ _ _ _ (by omega) HRQ.out
        have hs10 : w4.heap.size + 1 ≤ w10.heap.size ∧ W.heap.size + 3 ≤ w10.heap.size := by
          rw [hw10]
          simpa [World.setCell] using HSQ.out
        refine hwi.mono ?_
        rintro e w11 ⟨sv11, rfl, ho11, hb11⟩
        have q11 := (hb11.block (W.heap.size + 1 + 1) (by omega)).trans hq3
        have c0 : w11.cell? ⟨W.heap.size + 1 + 1, 0, none⟩ = some (.slice none 0 0) := by rw [cell_of_row _ _ _ _ _ _ q11]; rfl
        have c1 : w11.cell? ⟨W.heap.size + 1 + 1, 1, none⟩ = some (.int .i64 0) := by rw [cell_of_row _ _ _ _ _ _ q11]; rfl
        have c2 : w11.cell? ⟨W.heap.size + 1 + 1, 2, none⟩ = some (.bool false) := by rw [cell_of_row _ _ _ _ _ _ q11]; rfl
        have v0 := dk_frozen w11 (W.heap.size + 1 + 1) 0 _ _ q11
        have v1 := dk_frozen w11 (W.heap.size + 1 + 1) 1 _ _ q11
        have v2 := dk_frozen w11 (W.heap.size + 1 + 1) 2 _ _ q11
        obtain ⟨a11, p11, rfl⟩ := rf_own_form ho11
        have Q11 := Lib.hid q11
        have HO11 := Lib.hid ho11
        have HB011 := Lib.hid (hb010.trans (hb11.mono hb010.size))
        have HS10 := Lib.hid hs10
        clear hown10 hb010 hw10 hA10 hx1 hwi hq3 ho11 hb11 q11 hs10
        go_wp2_with fail
        refine bodyPost_ret (results_cell_t3 rfl _ _ (W.heap.size + 1 + 1) _ _ (0, 0) _ rfl (rf_store3 Q11.out) Tryz.underlying27 rfl (by kernel_rfl)) rfl ?_
        have hmap : (zs.take (Dk.ahead t (zs.map Re.ent)) ++ (⟨t, .slice da xs[k].f.dur.length dc, .slice wa xs[k].f.pend.length wc, xs[k].vs, xs[k].f⟩ : Re) :: zs.drop (Dk.ahead t (zs.map Re.ent))).map Re.ent = Dk.ins t f (Dk.del t (Dk.del n D.fs)) := by
          rw [← Dk.ins_eq t f _ (Dk.del_ne t _), ← HDQ.out, List.map_append, List.map_take, List.map_cons, List.map_drop, ← HXF.out]
          rfl
        have hlen : (zs.take (Dk.ahead t (zs.map Re.ent)) ++ (⟨t, .slice da xs[k].f.dur.length dc, .slice wa xs[k].f.pend.length wc, xs[k].vs, xs[k].f⟩ : Re) :: zs.drop (Dk.ahead t (zs.map Re.ent))).length = zs.length + 1 := by
          have := Dk.ahead_le t (zs.map Re.ent)
          rw [List.length_map] at this
          rw [List.length_append, List.length_cons, List.length_take, List.length_drop]
          omega
        have hzl := HZL.out
        refine ch_new (B := w10.heap.size) HC.out HB011.out HS10.out.2 (by rw [hlen]; exact HO11.out) (by rw [hlen]; omega) (fun y hy => ?_) _ hmap.symm _ _
        rcases List.mem_append.1 hy with hy | hy
        · exact (HA.out.2.1 y (HMQ.out y (List.mem_of_mem_take hy))).below (ch_below HB011.out)
        · rcases List.mem_cons.1 hy with rfl | hy
          · exact ReAt.renamed (hX0.below (ch_below HB011.out)) HDV.out HWV.out t ht
          · exact (HA.out.2.1 y (HMQ.out y (List.mem_of_mem_drop hy))).below (ch_below HB011.out)


end Go.Proofs.YtegahpgnmeobhaaGreatDoor
