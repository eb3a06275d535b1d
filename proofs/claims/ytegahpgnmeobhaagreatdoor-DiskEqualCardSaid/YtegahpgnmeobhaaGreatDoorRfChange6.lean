/-
  THE REFERENCE: change: Truncate.
  THE REFERENCE: change: Sync.
  THE REFERENCE: change: Remove.
-/
import Derived.Test.YtegahpgnmeobhaaGreatDoorRfChange
namespace Go.Proofs.YtegahpgnmeobhaaGreatDoor
open Go.RowKit

theorem RdC.takeN {c : Nat → Nat} {W : World} {a : Option Addr} {n cap : Nat} {l : Dk.Bs} (h : RdC c W (.slice a n cap) l) (m : Nat) (hm : m ≤ l.length) : RdC c W (.slice a m cap) (l.take m) := by
  obtain ⟨h1, h2⟩ := h
  refine ⟨?_, fun hne g hg => h2 (fun e => hne (by rw [e]; simp)) g (by cases a with
    | none => cases hg
    | some x => exact hg)⟩
  rcases h1 with ⟨rfl, a', c', hv⟩ | ⟨g, off, cap', hv, hc, hg, hgs, hx⟩
  · exact .inl ⟨by simp, a, cap, by obtain rfl : m = 0 := by simpa using hm
                                    rfl⟩
  · injection hv with e1 e2 e3
    subst e1 e3
    refine .inr ⟨g, off, cap, by rw [List.length_take, Nat.min_eq_left hm], by rw [List.length_take]; omega, hg, hgs, fun j c hj => hx j c ?_⟩
    rw [List.getElem?_take] at hj
    split at hj
    · exact hj
    · cases hj

namespace Dk
def change3 (d : D) (n : Bs) (k : Int) : List (Bs × Fl) × Int × Bool := match find n d.fs with
  | none => (d.fs, 9, false)
  | some f => if k < 0 ∨ (f.contents.length : Int) < k then (d.fs, 2, false) else (upd n ⟨f.contents.take k.toNat, []⟩ d.fs, 0, true)
end Dk

set_option maxRecDepth 100000 in
set_option maxHeartbeats 2000000 in
theorem rf_change3 {c : Nat → Nat} {W : World} {v : Value} {D : Dk.D} (hc : New0 c W.heap.size) (h : RfD c W v D) (hR : Dk.Rising D.fs) (n : Dk.Bs) (N : Int) (o2 o4 : Value) :
    Calls Tryz.prog 56 #[v, .agg #[.int .i64 3, .string ⟨n.toArray⟩, o2, .int .i64 N, o4]] W (ChPost c W D (Dk.change3 D n N).1 (Dk.change3 D n N).2.1 (Dk.change3 D n N).2.2) := by
  obtain ⟨sv, xs, rfl, hfs, hA⟩ := h
  have hlx : D.fs.length = xs.length := by rw [hfs]; simp
  have hA' := hA
  obtain ⟨ao, cap, rfl, hcap, _⟩ := hA'.source
  obtain ⟨W3, hW3, hb3, hz, hcl⟩ := ch_start W (.slice ao xs.length cap) D.bud D.down (.int .i64 3) (.string ⟨n.toArray⟩) (o2) (.int .i64 N) (o4)
  have hfd := rf_find (c := c) (W := W3) (v := rfVal (.slice ao xs.length cap) D) (D := D) ⟨_, xs, rfl, hfs, hA.below hb3⟩ n
  have HFD := Lib.hid hfd
  have HCL := Lib.hid hcl
  have HW3 := Lib.hid hW3
  have HB3 := Lib.hid hb3
  have HZ := Lib.hid hz
  have HA := Lib.hid hA
  have HC := Lib.hid hc
  have HFS := Lib.hid hfs
  have HLX := Lib.hid hlx
  have HR := Lib.hid hR
  clear hfd hcl hW3 hb3 hz hA' hc hfs hlx hR
  unfold rfVal at HFD ⊢
  unfold Dk.change3
  cases hf : Dk.find n D.fs with
  | none =>
    rw [Dk.posInt_none hf] at HFD
    clear hf
    go_enter Tryz.func56, Tryz.ntmps56
    go_wp2_with fail
    rw [← HW3.out]
    refine HFD.out.mono ?_
    rintro e w4 ⟨rfl, hb4⟩
    obtain ⟨⟨a0, a1, a2⟩, ⟨b0, b1, b2, b3, b4⟩, ⟨d0, d1, d2⟩, _, ⟨g0, g1, g2⟩, q1, q3⟩ := HCL.out w4 hb4
    have HB4 := Lib.hid hb4
    have Q3 := Lib.hid q3
    clear q1 q3 hb4
    go_wp2_with fail
    refine bodyPost_ret (results_cell_t3 rfl _ _ (W.heap.size + 1 + 1) _ _ (0, 0) _ rfl (rf_store3 Q3.out) Tryz.underlying27 rfl (by kernel_rfl)) rfl ?_
    exact ch_same HFS.out HA.out (HB3.out.trans (HB4.out.mono (by rw [HZ.out]; omega))) _ _
  | some f =>
    simp only []
    obtain ⟨k, hkp, hk, hkl, hkx⟩ := Dk.posInt_some hf
    rw [hk] at HFD
    have hkl2 : k < xs.length := by have := HLX.out; omega
    have hxk : xs[k].ent = (n, f) := by
      have := hkx
      rw [HFS.out, List.getElem?_map, List.getElem?_eq_getElem hkl2] at this
      exact Option.some.inj this
    have hxf : xs[k].f = f := congrArg Prod.snd hxk
    obtain ⟨ao', cap', hv, _, hatk⟩ := HA.out.at
    injection hv with hv1 _ hv3
    subst hv1 hv3
    obtain ⟨g, rfl, hg, _, _, _, hX0⟩ := hatk k xs[k] (List.getElem?_eq_getElem hkl2)
    have HATK := Lib.hid hatk
    have HKP := Lib.hid hkp
    have HXF := Lib.hid hxf
    have HXK := Lib.hid hxk
    clear hatk hkp hkx hk hxf hxk hf hkl
    have hfc : f.contents = xs[k].f.contents := by rw [HXF.out]
    rw [hfc]
    clear hfc
    by_cases hN : N < 0 ∨ (xs[k].f.contents.length : Int) < N
    · rw [if_pos hN]
      go_enter Tryz.func56, Tryz.ntmps56
      go_wp2_with fail
      rw [← HW3.out]
      refine HFD.out.mono ?_
      rintro e w4 ⟨rfl, hb4⟩
      obtain ⟨⟨a0, a1, a2⟩, ⟨b0, b1, b2, b3, b4⟩, ⟨d0, d1, d2⟩, _, ⟨g0, g1, g2⟩, q1, q3⟩ := HCL.out w4 hb4
      have HB4 := Lib.hid hb4
      have hb04 : Below W.heap.size W w4 := HB3.out.trans (HB4.out.mono (by rw [HZ.out]; omega))
      obtain ⟨g', he, _, x1, x2, x3, _⟩ := HATK.out k xs[k] (List.getElem?_eq_getElem hkl2)
      cases he
      have y1 := (hb04.cell (p := ⟨g, k * 3, none⟩) hg).trans x1
      have y2 := (hb04.cell (p := ⟨g, k * 3 + 1, none⟩) hg).trans x2
      have y3 := (hb04.cell (p := ⟨g, k * 3 + 2, none⟩) hg).trans x3
      have hX := hX0.below hb04
      obtain ⟨da, dc, hdv⟩ := hX.dur.1.form
      obtain ⟨wa, wc, hwv, _⟩ := hX.pend.form
      obtain ⟨w5, hw5⟩ : ∃ w5, w5 = w4.alloc (.cells #[.string ⟨xs[k].nm.toArray⟩, .slice da xs[k].f.dur.length dc, .slice wa xs[k].f.pend.length wc] 37) := ⟨_, rfl⟩
      have hb45 : Below w4.heap.size w4 w5 := by rw [hw5]; exact (Below.refl _ _).alloc (Nat.le_refl _) _
      have r5 : w5.heap[w4.heap.size]? = some (.cells #[.string ⟨xs[k].nm.toArray⟩, .slice da xs[k].f.dur.length dc, .slice wa xs[k].f.pend.length wc] 37 (0, 0)) := by rw [hw5]; exact heap_alloc_new _ _
      have s5 : w5.heap.size = w4.heap.size + 1 := by rw [hw5]; simp
      have hct := rf_contents (hX.below hb45)
      unfold Re.val at hct
      rw [hdv, hwv] at hct
      rw [hdv] at y2
      rw [hwv] at y3
      have HCT := Lib.hid hct
      have HW5 := Lib.hid hw5
      have R5 := Lib.hid r5
      have S5 := Lib.hid s5
      have HB04 := Lib.hid hb04
      have HB45 := Lib.hid hb45
      have HDV := Lib.hid hdv
      have HWV := Lib.hid hwv
      have i1 : (0 : Int) ≤ k := by omega
      have i2 : (k : Int) < xs.length := by omega
      clear hct hw5 r5 s5 hb04 hb45 hX q1 q3 hb4 x1 x2 x3 hdv hwv
      go_wp2_with fail
      rw [← HW5.out]
      refine HCT.out.mono ?_
      rintro e w6 ⟨vn, rfl, hon, hb6⟩
      have hz := HZ.out
      have hs4 := HB4.out.size
      have hs5 := S5.out
      have hs6 := hb6.size
      have hb46 : Below w4.heap.size w4 w6 := HB45.out.trans (hb6.mono (by omega))
      obtain ⟨⟨a0, a1, a2⟩, ⟨b0, b1, b2, b3, b4⟩, ⟨d0, d1, d2⟩, ⟨f0, f1, f2⟩, ⟨g0, g1, g2⟩, q1, q3⟩ := HCL.out w6 (HB4.out.trans (hb46.mono hs4))
      have R6 := Lib.hid ((hb6.block w4.heap.size (by omega)).trans R5.out)
      obtain ⟨na, nc, rfl⟩ := rf_own_form hon
      have HON := Lib.hid hon
      have HB6 := Lib.hid hb6
      have HB46 := Lib.hid hb46
      have HB06 := Lib.hid (HB04.out.trans (hb46.mono (by omega)))
      have Q1 := Lib.hid q1
      clear hon hb6 hb46 y1 y2 y3 q1 q3
      obtain ⟨_, _, ⟨d0, d1, d2⟩, _, ⟨g0, g1, g2⟩, _, q3⟩ := HCL.out w6 (HB4.out.trans (HB46.out.mono hs4))
      have Q3 := Lib.hid q3
      clear q3
      by_cases hN0 : N < 0
      all_goals
        try (have hN1 : (xs[k].f.contents.length : Int) < N := by omega)
        clear hN
        go_wp2_with fail
        refine bodyPost_ret (results_cell_t3 rfl _ _ (W.heap.size + 1 + 1) _ _ (0, 0) _ rfl (rf_store3 Q3.out) Tryz.underlying27 rfl (by kernel_rfl)) rfl ?_
        exact ch_same HFS.out HA.out HB06.out _ _
    · rw [if_neg hN]
      obtain ⟨m, rfl⟩ : ∃ m : Nat, N = m := ⟨N.toNat, by omega⟩
      have hml : m ≤ xs[k].f.contents.length := by omega
      rw [Int.toNat_natCast]
      clear hN
      go_enter Tryz.func56, Tryz.ntmps56
      go_wp2_with fail
      rw [← HW3.out]
      refine HFD.out.mono ?_
      rintro e w4 ⟨rfl, hb4⟩
      obtain ⟨⟨a0, a1, a2⟩, ⟨b0, b1, b2, b3, b4⟩, ⟨d0, d1, d2⟩, _, ⟨g0, g1, g2⟩, q1, q3⟩ := HCL.out w4 hb4
      have HB4 := Lib.hid hb4
      have hb04 : Below W.heap.size W w4 := HB3.out.trans (HB4.out.mono (by rw [HZ.out]; omega))
      obtain ⟨g', he, _, x1, x2, x3, _⟩ := HATK.out k xs[k] (List.getElem?_eq_getElem hkl2)
      cases he
      have y1 := (hb04.cell (p := ⟨g, k * 3, none⟩) hg).trans x1
      have y2 := (hb04.cell (p := ⟨g, k * 3 + 1, none⟩) hg).trans x2
      have y3 := (hb04.cell (p := ⟨g, k * 3 + 2, none⟩) hg).trans x3
      have hX := hX0.below hb04
      obtain ⟨da, dc, hdv⟩ := hX.dur.1.form
      obtain ⟨wa, wc, hwv, _⟩ := hX.pend.form
      obtain ⟨w5, hw5⟩ : ∃ w5, w5 = w4.alloc (.cells #[.string ⟨xs[k].nm.toArray⟩, .slice da xs[k].f.dur.length dc, .slice wa xs[k].f.pend.length wc] 37) := ⟨_, rfl⟩
      have hb45 : Below w4.heap.size w4 w5 := by rw [hw5]; exact (Below.refl _ _).alloc (Nat.le_refl _) _
      have r5 : w5.heap[w4.heap.size]? = some (.cells #[.string ⟨xs[k].nm.toArray⟩, .slice da xs[k].f.dur.length dc, .slice wa xs[k].f.pend.length wc] 37 (0, 0)) := by rw [hw5]; exact heap_alloc_new _ _
      have s5 : w5.heap.size = w4.heap.size + 1 := by rw [hw5]; simp
      have hct := rf_contents (hX.below hb45)
      unfold Re.val at hct
      rw [hdv, hwv] at hct
      rw [hdv] at y2
      rw [hwv] at y3
      have HCT := Lib.hid hct
      have HW5 := Lib.hid hw5
      have R5 := Lib.hid r5
      have S5 := Lib.hid s5
      have HB04 := Lib.hid hb04
      have HB45 := Lib.hid hb45
      have HDV := Lib.hid hdv
      have HWV := Lib.hid hwv
      have i1 : (0 : Int) ≤ k := by omega
      have i2 : (k : Int) < xs.length := by omega
      clear hct hw5 r5 s5 hb04 hb45 hX q1 q3 hb4 x1 x2 x3 hdv hwv
      go_wp2_with fail
      rw [← HW5.out]
      refine HCT.out.mono ?_
      rintro e w6 ⟨vn, rfl, hon, hb6⟩
      have hz := HZ.out
      have hs4 := HB4.out.size
      have hs5 := S5.out
      have hs6 := hb6.size
      have hb46 : Below w4.heap.size w4 w6 := HB45.out.trans (hb6.mono (by omega))
      obtain ⟨⟨a0, a1, a2⟩, ⟨b0, b1, b2, b3, b4⟩, ⟨d0, d1, d2⟩, ⟨f0, f1, f2⟩, ⟨g0, g1, g2⟩, q1, q3⟩ := HCL.out w6 (HB4.out.trans (hb46.mono hs4))
      have R6 := Lib.hid ((hb6.block w4.heap.size (by omega)).trans R5.out)
      obtain ⟨na, nc, rfl⟩ := rf_own_form hon
      have HON := Lib.hid hon
      have HB6 := Lib.hid hb6
      have HB46 := Lib.hid hb46
      have HB06 := Lib.hid (HB04.out.trans (hb46.mono (by omega)))
      have Q1 := Lib.hid q1
      clear hon hb6 hb46 y1 y2 y3 q1 q3
      have t0 : w6.cell? ⟨w4.heap.size, 0, none⟩ = some (.string ⟨xs[k].nm.toArray⟩) := by rw [cell_of_row _ _ _ _ _ _ R6.out]; rfl
      have t1 : w6.cell? ⟨w4.heap.size, 1, none⟩ = some (.slice da xs[k].f.dur.length dc) := by rw [cell_of_row _ _ _ _ _ _ R6.out]; rfl
      have t2 : w6.cell? ⟨w4.heap.size, 2, none⟩ = some (.slice wa xs[k].f.pend.length wc) := by rw [cell_of_row _ _ _ _ _ _ R6.out]; rfl
      have u1 := dk_frozen w6 w4.heap.size 1 _ _ R6.out
      have u2 := dk_frozen w6 w4.heap.size 2 _ _ R6.out
      have j1 : (0 : Int) ≤ m := by omega
      have j2 : (m : Int) ≤ xs[k].f.contents.length := by omega
      have hnc : xs[k].f.contents.length ≤ nc := by
        obtain ⟨_, _, hv, hc, _⟩ := (RdB.of_own HON.out).form4
        injection hv with _ _ e
        rw [e]; exact hc
      have j3 : m ≤ nc := by omega
      have j4 : (m : Int) ≤ nc := by omega
      clear hnc
      go_wp2_with fail
      obtain ⟨wm, hwm⟩ : ∃ wm, wm = (w6.setCell ⟨w4.heap.size, 1, none⟩ (.slice na m nc)).setCell ⟨w4.heap.size, 2, none⟩ (.slice none 0 0) := ⟨_, rfl⟩
      rw [← hwm]
      have hnm : xs[k].nm = n := congrArg Prod.fst HXK.out
      have hgm : w6.grownBy wm (some w4.heap.size) := by rw [hwm]; exact dk_grown_setCell _ _ _ _ _ (dk_grown_setCell _ _ _ _ _ ⟨rfl, rfl, rfl, Nat.le_refl _, fun _ _ _ => rfl⟩)
      have rm : wm.heap[w4.heap.size]? = some (.cells #[.string ⟨n.toArray⟩, .slice na m nc, .slice none 0 0] 37 (0, 0)) := by
        have h1 := dk_setCell w6 w4.heap.size 1 _ _ (.slice na m nc) R6.out
        have h2 := dk_setCell _ w4.heap.size 2 _ _ (.slice none 0 0) h1
        rw [hwm, h2, hnm]
        rfl
      have hb3m : Below W3.heap.size W3 wm := (HB4.out.trans (HB46.out.mono hs4)).grown hgm (by have := HB46.out.size; omega) (fun j hj => by cases hj; omega)
      have HB3m := Lib.hid hb3m
      have HB0m := Lib.hid (HB3.out.trans (hb3m.mono (by omega)))
      have RM := Lib.hid rm
      have hgs := hgm.size
      have HYE : Hid (Re.ent (⟨n, .slice na m nc, .slice none 0 0, [], ⟨xs[k].f.contents.take m, []⟩⟩ : Re) = (n, ⟨xs[k].f.contents.take m, []⟩)) := Lib.hid rfl
      have honm := HON.out.kept hgm (Or.inr (fun e => by have := (HON.out.lt _ e).1; omega))
      have hsz := hX0.size
      have HY : Hid (∀ W', Below W.heap.size W W' → wm.heap.size ≤ W'.heap.size → (∀ b, w4.heap.size + 1 ≤ b → b < wm.heap.size → W'.heap[b]? = wm.heap[b]?) → ReAt c W' (⟨n, .slice na m nc, .slice none 0 0, [], ⟨xs[k].f.contents.take m, []⟩⟩ : Re)) := Lib.hid (fun W' hb hs hk => by
        have ho' := ho_keep honm hs (fun b hb1 hb2 => hk b (by omega) hb2)
        exact ⟨(RdC.own0 ho' (HC.out.mono (by omega))).takeN m hml, PendC.nil, WrC.nil, by show (xs[k].f.contents.take m).length ≤ _; rw [List.length_take]; omega, Nat.zero_le _, by rw [← hnm]; exact hX0.nm⟩)
      clear hwm rm hb3m honm hgm t0 t1 t2 u1 u2 a0 a1 a2 b0 b1 b2 b3 b4 d0 d1 d2 f0 f1 f2 g0 g1 g2 hsz
      have hcp := rf_copied D.bud D.down (HA.out.below HB0m.out)
      refine hcp.mono ?_
      rintro e w7 ⟨sv7, rfl, ho7, hb7⟩
      obtain ⟨g7, p7, rfl, hg7, hgl7⟩ := ho7.form (by omega)
      have hsm := HB0m.out.size
      have hs3m := HB3m.out.size
      obtain ⟨⟨a0, a1, a2⟩, _, ⟨d0, d1, d2⟩, ⟨f0, f1, f2⟩, ⟨g0, g1, g2⟩, _, q3⟩ := HCL.out w7 (HB3m.out.trans (hb7.mono hs3m))
      have rt := (hb7.block w4.heap.size (Array.getElem?_eq_some_iff.1 RM.out).1).trans RM.out
      have t0 : w7.cell? ⟨w4.heap.size, 0, none⟩ = some (.string ⟨(⟨n, .slice na m nc, .slice none 0 0, [], ⟨xs[k].f.contents.take m, []⟩⟩ : Re).nm.toArray⟩) := by rw [cell_of_row _ _ _ _ _ _ rt]; rfl
      have t1 : w7.cell? ⟨w4.heap.size, 1, none⟩ = some (.slice na m nc) := by rw [cell_of_row _ _ _ _ _ _ rt]; rfl
      have t2 : w7.cell? ⟨w4.heap.size, 2, none⟩ = some (.slice none 0 0) := by rw [cell_of_row _ _ _ _ _ _ rt]; rfl
      obtain ⟨x1, x2, x3⟩ := reCells_at xs k xs[k] (List.getElem?_eq_getElem hkl2)
      have y1 := (ho7.cellAt (k * 3) (by omega)).trans x1
      have y2 := (ho7.cellAt (k * 3 + 1) (by omega)).trans x2
      have y3 := (ho7.cellAt (k * 3 + 2) (by omega)).trans x3
      have z1 := ho7.frozenAt (k * 3)
      have z2 := ho7.frozenAt (k * 3 + 1)
      have z3 := ho7.frozenAt (k * 3 + 2)
      have n1 : ¬ g7 = W.heap.size := by omega
      have n2 : ¬ g7 = w4.heap.size := by have := (Array.getElem?_eq_some_iff.1 RM.out).1; omega
      have n3 : ¬ W.heap.size = g7 := by omega
      have n4 : ¬ w4.heap.size = W.heap.size := by omega
      have n5 : ¬ g7 = W.heap.size + 1 + 1 := by omega
      have hput := fun s0 s1 s2 q0 q1 q2 => ch_put (W := W) (wm := wm) (w7 := w7) (L := w4.heap.size + 1) (⟨n, .slice na m nc, .slice none 0 0, [], ⟨xs[k].f.contents.take m, []⟩⟩ : Re) (s0 := s0) (s1 := s1) (s2 := s2) (v0 := q0) (v1 := q1) (v2 := q2) HC.out HFS.out HA.out HR.out HKP.out hkl2 HB0m.out (by omega) (by have := (Array.getElem?_eq_some_iff.1 RM.out).1; omega) hb7 ho7 (f' := ⟨xs[k].f.contents.take m, []⟩) HYE.out HY.out q3
      have HPUT := Lib.hid hput
      clear hcp hb7 ho7 rt x1 x2 x3 q3 hput hg7 hgl7
      go_wp2_with fail
      have hfin := HPUT.out (.slice (some ⟨g7, 0, none⟩) xs.length p7) (.int .i64 D.bud) (.bool D.down) (.slice (some ⟨g7, 0, none⟩) xs.length p7) (.int .i64 D.bud) (.bool D.down)
      refine bodyPost_ret (results_cell_t3 rfl _ _ (W.heap.size + 1 + 1) _ _ (0, 0) _ rfl (rf_store3 hfin.1) Tryz.underlying27 rfl (by kernel_rfl)) rfl ?_
      exact hfin.2

end Go.Proofs.YtegahpgnmeobhaaGreatDoor

namespace Go.Proofs.YtegahpgnmeobhaaGreatDoor
open Go.RowKit

namespace Dk
def change4 (d : D) (n : Bs) : List (Bs × Fl) × Int × Bool := match find n d.fs with
  | none => (d.fs, 9, false)
  | some f => (upd n ⟨f.contents, []⟩ d.fs, 0, true)
end Dk

set_option maxRecDepth 100000 in
set_option maxHeartbeats 2000000 in
theorem rf_change4 {c : Nat → Nat} {W : World} {v : Value} {D : Dk.D} (hc : New0 c W.heap.size) (h : RfD c W v D) (hR : Dk.Rising D.fs) (n : Dk.Bs) (o2 o3 o4 : Value) :
    Calls Tryz.prog 56 #[v, .agg #[.int .i64 4, .string ⟨n.toArray⟩, o2, o3, o4]] W (ChPost c W D (Dk.change4 D n).1 (Dk.change4 D n).2.1 (Dk.change4 D n).2.2) := by
  obtain ⟨sv, xs, rfl, hfs, hA⟩ := h
  have hlx : D.fs.length = xs.length := by rw [hfs]; simp
  have hA' := hA
  obtain ⟨ao, cap, rfl, hcap, _⟩ := hA'.source
  obtain ⟨W3, hW3, hb3, hz, hcl⟩ := ch_start W (.slice ao xs.length cap) D.bud D.down (.int .i64 4) (.string ⟨n.toArray⟩) (o2) (o3) (o4)
  have hfd := rf_find (c := c) (W := W3) (v := rfVal (.slice ao xs.length cap) D) (D := D) ⟨_, xs, rfl, hfs, hA.below hb3⟩ n
  have HFD := Lib.hid hfd
  have HCL := Lib.hid hcl
  have HW3 := Lib.hid hW3
  have HB3 := Lib.hid hb3
  have HZ := Lib.hid hz
  have HA := Lib.hid hA
  have HC := Lib.hid hc
  have HFS := Lib.hid hfs
  have HLX := Lib.hid hlx
  have HR := Lib.hid hR
  clear hfd hcl hW3 hb3 hz hA' hc hfs hlx hR
  unfold rfVal at HFD ⊢
  unfold Dk.change4
  cases hf : Dk.find n D.fs with
  | none =>
    rw [Dk.posInt_none hf] at HFD
    clear hf
    go_enter Tryz.func56, Tryz.ntmps56
    go_wp2_with fail
    rw [← HW3.out]
    refine HFD.out.mono ?_
    rintro e w4 ⟨rfl, hb4⟩
    obtain ⟨⟨a0, a1, a2⟩, ⟨b0, b1, b2, b3, b4⟩, ⟨d0, d1, d2⟩, _, ⟨g0, g1, g2⟩, q1, q3⟩ := HCL.out w4 hb4
    have HB4 := Lib.hid hb4
    have Q3 := Lib.hid q3
    clear q1 q3 hb4
    go_wp2_with fail
    refine bodyPost_ret (results_cell_t3 rfl _ _ (W.heap.size + 1 + 1) _ _ (0, 0) _ rfl (rf_store3 Q3.out) Tryz.underlying27 rfl (by kernel_rfl)) rfl ?_
    exact ch_same HFS.out HA.out (HB3.out.trans (HB4.out.mono (by rw [HZ.out]; omega))) _ _
  | some f =>
    obtain ⟨k, hkp, hk, hkl, hkx⟩ := Dk.posInt_some hf
    rw [hk] at HFD
    have hkl2 : k < xs.length := by have := HLX.out; omega
    have hxk : xs[k].ent = (n, f) := by
      have := hkx
      rw [HFS.out, List.getElem?_map, List.getElem?_eq_getElem hkl2] at this
      exact Option.some.inj this
    have hxf : xs[k].f = f := congrArg Prod.snd hxk
    obtain ⟨ao', cap', hv, _, hatk⟩ := HA.out.at
    injection hv with hv1 _ hv3
    subst hv1 hv3
    obtain ⟨g, rfl, hg, _, _, _, hX0⟩ := hatk k xs[k] (List.getElem?_eq_getElem hkl2)
    have HATK := Lib.hid hatk
    have HKP := Lib.hid hkp
    have HXF := Lib.hid hxf
    have HXK := Lib.hid hxk
    clear hatk hkp hkx hk hxf hxk hf hkl
    go_enter Tryz.func56, Tryz.ntmps56
    go_wp2_with fail
    rw [← HW3.out]
    refine HFD.out.mono ?_
    rintro e w4 ⟨rfl, hb4⟩
    obtain ⟨⟨a0, a1, a2⟩, ⟨b0, b1, b2, b3, b4⟩, ⟨d0, d1, d2⟩, _, ⟨g0, g1, g2⟩, q1, q3⟩ := HCL.out w4 hb4
    have HB4 := Lib.hid hb4
    have hb04 : Below W.heap.size W w4 := HB3.out.trans (HB4.out.mono (by rw [HZ.out]; omega))
    obtain ⟨g', he, _, x1, x2, x3, _⟩ := HATK.out k xs[k] (List.getElem?_eq_getElem hkl2)
    cases he
    have y1 := (hb04.cell (p := ⟨g, k * 3, none⟩) hg).trans x1
    have y2 := (hb04.cell (p := ⟨g, k * 3 + 1, none⟩) hg).trans x2
    have y3 := (hb04.cell (p := ⟨g, k * 3 + 2, none⟩) hg).trans x3
    have hX := hX0.below hb04
    obtain ⟨da, dc, hdv⟩ := hX.dur.1.form
    obtain ⟨wa, wc, hwv, _⟩ := hX.pend.form
    obtain ⟨w5, hw5⟩ : ∃ w5, w5 = w4.alloc (.cells #[.string ⟨xs[k].nm.toArray⟩, .slice da xs[k].f.dur.length dc, .slice wa xs[k].f.pend.length wc] 37) := ⟨_, rfl⟩
    have hb45 : Below w4.heap.size w4 w5 := by rw [hw5]; exact (Below.refl _ _).alloc (Nat.le_refl _) _
    have r5 : w5.heap[w4.heap.size]? = some (.cells #[.string ⟨xs[k].nm.toArray⟩, .slice da xs[k].f.dur.length dc, .slice wa xs[k].f.pend.length wc] 37 (0, 0)) := by rw [hw5]; exact heap_alloc_new _ _
    have s5 : w5.heap.size = w4.heap.size + 1 := by rw [hw5]; simp
    have hct := rf_contents (hX.below hb45)
    unfold Re.val at hct
    rw [hdv, hwv] at hct
    rw [hdv] at y2
    rw [hwv] at y3
    have HCT := Lib.hid hct
    have HW5 := Lib.hid hw5
    have R5 := Lib.hid r5
    have S5 := Lib.hid s5
    have HB04 := Lib.hid hb04
    have HB45 := Lib.hid hb45
    have HDV := Lib.hid hdv
    have HWV := Lib.hid hwv
    have i1 : (0 : Int) ≤ k := by omega
    have i2 : (k : Int) < xs.length := by omega
    clear hct hw5 r5 s5 hb04 hb45 hX q1 q3 hb4 x1 x2 x3 hdv hwv
    go_wp2_with fail
    rw [← HW5.out]
    refine HCT.out.mono ?_
    rintro e w6 ⟨vn, rfl, hon, hb6⟩
    have hz := HZ.out
    have hs4 := HB4.out.size
    have hs5 := S5.out
    have hs6 := hb6.size
    have hb46 : Below w4.heap.size w4 w6 := HB45.out.trans (hb6.mono (by omega))
    obtain ⟨⟨a0, a1, a2⟩, ⟨b0, b1, b2, b3, b4⟩, ⟨d0, d1, d2⟩, ⟨f0, f1, f2⟩, ⟨g0, g1, g2⟩, q1, q3⟩ := HCL.out w6 (HB4.out.trans (hb46.mono hs4))
    have R6 := Lib.hid ((hb6.block w4.heap.size (by omega)).trans R5.out)
    obtain ⟨na, nc, rfl⟩ := rf_own_form hon
    have HON := Lib.hid hon
    have HB6 := Lib.hid hb6
    have HB46 := Lib.hid hb46
    have HB06 := Lib.hid (HB04.out.trans (hb46.mono (by omega)))
    have Q1 := Lib.hid q1
    clear hon hb6 hb46 y1 y2 y3 q1 q3
    have t0 : w6.cell? ⟨w4.heap.size, 0, none⟩ = some (.string ⟨xs[k].nm.toArray⟩) := by rw [cell_of_row _ _ _ _ _ _ R6.out]; rfl
    have t1 : w6.cell? ⟨w4.heap.size, 1, none⟩ = some (.slice da xs[k].f.dur.length dc) := by rw [cell_of_row _ _ _ _ _ _ R6.out]; rfl
    have t2 : w6.cell? ⟨w4.heap.size, 2, none⟩ = some (.slice wa xs[k].f.pend.length wc) := by rw [cell_of_row _ _ _ _ _ _ R6.out]; rfl
    have u1 := dk_frozen w6 w4.heap.size 1 _ _ R6.out
    have u2 := dk_frozen w6 w4.heap.size 2 _ _ R6.out
    go_wp2_with fail
    obtain ⟨wm, hwm⟩ : ∃ wm, wm = (w6.setCell ⟨w4.heap.size, 1, none⟩ (.slice na xs[k].f.contents.length nc)).setCell ⟨w4.heap.size, 2, none⟩ (.slice none 0 0) := ⟨_, rfl⟩
    rw [← hwm]
    have hnm : xs[k].nm = n := congrArg Prod.fst HXK.out
    have hgm : w6.grownBy wm (some w4.heap.size) := by rw [hwm]; exact dk_grown_setCell _ _ _ _ _ (dk_grown_setCell _ _ _ _ _ ⟨rfl, rfl, rfl, Nat.le_refl _, fun _ _ _ => rfl⟩)
    have rm : wm.heap[w4.heap.size]? = some (.cells #[.string ⟨n.toArray⟩, .slice na xs[k].f.contents.length nc, .slice none 0 0] 37 (0, 0)) := by
      have h1 := dk_setCell w6 w4.heap.size 1 _ _ (.slice na xs[k].f.contents.length nc) R6.out
      have h2 := dk_setCell _ w4.heap.size 2 _ _ (.slice none 0 0) h1
      rw [hwm, h2, hnm]
      rfl
    have hb3m : Below W3.heap.size W3 wm := (HB4.out.trans (HB46.out.mono hs4)).grown hgm (by have := HB46.out.size; omega) (fun j hj => by cases hj; omega)
    have HB3m := Lib.hid hb3m
    have HB0m := Lib.hid (HB3.out.trans (hb3m.mono (by omega)))
    have RM := Lib.hid rm
    have hgs := hgm.size
    have hf' : xs[k].f.contents = f.contents := by rw [HXF.out]
    have HYE : Hid (Re.ent (⟨n, .slice na xs[k].f.contents.length nc, .slice none 0 0, [], ⟨xs[k].f.contents, []⟩⟩ : Re) = (n, ⟨f.contents, []⟩)) := Lib.hid (by rw [hf']; rfl)
    have honm := HON.out.kept hgm (Or.inr (fun e => by have := (HON.out.lt _ e).1; omega))
    have hsz := hX0.size
    have hlt7 := HON.out.lt
    have HY : Hid (∀ W', Below W.heap.size W W' → wm.heap.size ≤ W'.heap.size → (∀ b, w4.heap.size + 1 ≤ b → b < wm.heap.size → W'.heap[b]? = wm.heap[b]?) → ReAt c W' (⟨n, .slice na xs[k].f.contents.length nc, .slice none 0 0, [], ⟨xs[k].f.contents, []⟩⟩ : Re)) := Lib.hid (fun W' hb hs hk => by
      have ho' := ho_keep honm hs (fun b hb1 hb2 => hk b (by omega) hb2)
      exact ⟨RdC.own0 ho' (HC.out.mono (by omega)), PendC.nil, WrC.nil, hsz, Nat.zero_le _, by rw [← hnm]; exact hX0.nm⟩)
    clear hwm rm hb3m honm hgm t0 t1 t2 u1 u2 a0 a1 a2 b0 b1 b2 b3 b4 d0 d1 d2 f0 f1 f2 g0 g1 g2 hsz hlt7 hf'
    have hcp := rf_copied D.bud D.down (HA.out.below HB0m.out)
    refine hcp.mono ?_
    rintro e w7 ⟨sv7, rfl, ho7, hb7⟩
    obtain ⟨g7, p7, rfl, hg7, hgl7⟩ := ho7.form (by omega)
    have hsm := HB0m.out.size
    have hs3m := HB3m.out.size
    obtain ⟨⟨a0, a1, a2⟩, _, ⟨d0, d1, d2⟩, ⟨f0, f1, f2⟩, ⟨g0, g1, g2⟩, _, q3⟩ := HCL.out w7 (HB3m.out.trans (hb7.mono hs3m))
    have rt := (hb7.block w4.heap.size (Array.getElem?_eq_some_iff.1 RM.out).1).trans RM.out
    have t0 : w7.cell? ⟨w4.heap.size, 0, none⟩ = some (.string ⟨(⟨n, .slice na xs[k].f.contents.length nc, .slice none 0 0, [], ⟨xs[k].f.contents, []⟩⟩ : Re).nm.toArray⟩) := by rw [cell_of_row _ _ _ _ _ _ rt]; rfl
    have t1 : w7.cell? ⟨w4.heap.size, 1, none⟩ = some (.slice na xs[k].f.contents.length nc) := by rw [cell_of_row _ _ _ _ _ _ rt]; rfl
    have t2 : w7.cell? ⟨w4.heap.size, 2, none⟩ = some (.slice none 0 0) := by rw [cell_of_row _ _ _ _ _ _ rt]; rfl
    obtain ⟨x1, x2, x3⟩ := reCells_at xs k xs[k] (List.getElem?_eq_getElem hkl2)
    have y1 := (ho7.cellAt (k * 3) (by omega)).trans x1
    have y2 := (ho7.cellAt (k * 3 + 1) (by omega)).trans x2
    have y3 := (ho7.cellAt (k * 3 + 2) (by omega)).trans x3
    have z1 := ho7.frozenAt (k * 3)
    have z2 := ho7.frozenAt (k * 3 + 1)
    have z3 := ho7.frozenAt (k * 3 + 2)
    have n1 : ¬ g7 = W.heap.size := by omega
    have n2 : ¬ g7 = w4.heap.size := by have := (Array.getElem?_eq_some_iff.1 RM.out).1; omega
    have n3 : ¬ W.heap.size = g7 := by omega
    have n4 : ¬ w4.heap.size = W.heap.size := by omega
    have n5 : ¬ g7 = W.heap.size + 1 + 1 := by omega
    have hput := fun s0 s1 s2 q0 q1 q2 => ch_put (W := W) (wm := wm) (w7 := w7) (L := w4.heap.size + 1) (⟨n, .slice na xs[k].f.contents.length nc, .slice none 0 0, [], ⟨xs[k].f.contents, []⟩⟩ : Re) (s0 := s0) (s1 := s1) (s2 := s2) (v0 := q0) (v1 := q1) (v2 := q2) HC.out HFS.out HA.out HR.out HKP.out hkl2 HB0m.out (by omega) (by have := (Array.getElem?_eq_some_iff.1 RM.out).1; omega) hb7 ho7 (f' := ⟨f.contents, []⟩) HYE.out HY.out q3
    have HPUT := Lib.hid hput
    clear hcp hb7 ho7 rt x1 x2 x3 q3 hput hg7 hgl7
    go_wp2_with fail
    have hfin := HPUT.out (.slice (some ⟨g7, 0, none⟩) xs.length p7) (.int .i64 D.bud) (.bool D.down) (.slice (some ⟨g7, 0, none⟩) xs.length p7) (.int .i64 D.bud) (.bool D.down)
    refine bodyPost_ret (results_cell_t3 rfl _ _ (W.heap.size + 1 + 1) _ _ (0, 0) _ rfl (rf_store3 hfin.1) Tryz.underlying27 rfl (by kernel_rfl)) rfl ?_
    exact hfin.2

end Go.Proofs.YtegahpgnmeobhaaGreatDoor

namespace Go.Proofs.YtegahpgnmeobhaaGreatDoor
open Go.RowKit

namespace Dk
def change6 (d : D) (n : Bs) : List (Bs × Fl) × Int × Bool := match find n d.fs with
  | none => (d.fs, 9, false)
  | some _ => (del n d.fs, 0, true)
end Dk

set_option maxRecDepth 100000 in
set_option maxHeartbeats 2000000 in
theorem rf_change6 {c : Nat → Nat} {W : World} {v : Value} {D : Dk.D} (hc : New0 c W.heap.size) (h : RfD c W v D) (hR : Dk.Rising D.fs) (n : Dk.Bs) (o2 o3 o4 : Value) :
    Calls Tryz.prog 56 #[v, .agg #[.int .i64 6, .string ⟨n.toArray⟩, o2, o3, o4]] W (ChPost c W D (Dk.change6 D n).1 (Dk.change6 D n).2.1 (Dk.change6 D n).2.2) := by
  obtain ⟨sv, xs, rfl, hfs, hA⟩ := h
  have hlx : D.fs.length = xs.length := by rw [hfs]; simp
  have hA' := hA
  obtain ⟨ao, cap, rfl, hcap, _⟩ := hA'.source
  obtain ⟨W3, hW3, hb3, hz, hcl⟩ := ch_start W (.slice ao xs.length cap) D.bud D.down (.int .i64 6) (.string ⟨n.toArray⟩) (o2) (o3) (o4)
  have hfd := rf_find (c := c) (W := W3) (v := rfVal (.slice ao xs.length cap) D) (D := D) ⟨_, xs, rfl, hfs, hA.below hb3⟩ n
  have HFD := Lib.hid hfd
  have HCL := Lib.hid hcl
  have HW3 := Lib.hid hW3
  have HB3 := Lib.hid hb3
  have HZ := Lib.hid hz
  have HA := Lib.hid hA
  have HC := Lib.hid hc
  have HFS := Lib.hid hfs
  have HLX := Lib.hid hlx
  have HR := Lib.hid hR
  clear hfd hcl hW3 hb3 hz hA' hc hfs hlx hR
  unfold rfVal at HFD ⊢
  unfold Dk.change6
  cases hf : Dk.find n D.fs with
  | none =>
    rw [Dk.posInt_none hf] at HFD
    clear hf
    go_enter Tryz.func56, Tryz.ntmps56
    go_wp2_with fail
    rw [← HW3.out]
    refine HFD.out.mono ?_
    rintro e w4 ⟨rfl, hb4⟩
    obtain ⟨⟨a0, a1, a2⟩, ⟨b0, b1, b2, b3, b4⟩, ⟨d0, d1, d2⟩, _, ⟨g0, g1, g2⟩, q1, q3⟩ := HCL.out w4 hb4
    have HB4 := Lib.hid hb4
    have Q3 := Lib.hid q3
    clear q1 q3 hb4
    go_wp2_with fail
    refine bodyPost_ret (results_cell_t3 rfl _ _ (W.heap.size + 1 + 1) _ _ (0, 0) _ rfl (rf_store3 Q3.out) Tryz.underlying27 rfl (by kernel_rfl)) rfl ?_
    exact ch_same HFS.out HA.out (HB3.out.trans (HB4.out.mono (by rw [HZ.out]; omega))) _ _
  | some f =>
    obtain ⟨k, hkp, hk, hkl, hkx⟩ := Dk.posInt_some hf
    rw [hk] at HFD
    have hkl2 : k < xs.length := by have := HLX.out; omega
    have hxk : xs[k].ent = (n, f) := by
      have := hkx
      rw [HFS.out, List.getElem?_map, List.getElem?_eq_getElem hkl2] at this
      exact Option.some.inj this
    have hxf : xs[k].f = f := congrArg Prod.snd hxk
    obtain ⟨ao', cap', hv, _, hatk⟩ := HA.out.at
    injection hv with hv1 _ hv3
    subst hv1 hv3
    obtain ⟨g, rfl, hg, _, _, _, hX0⟩ := hatk k xs[k] (List.getElem?_eq_getElem hkl2)
    have HATK := Lib.hid hatk
    have HKP := Lib.hid hkp
    have HXF := Lib.hid hxf
    have HXK := Lib.hid hxk
    clear hatk hkp hkx hk hxf hxk hf hkl
    go_enter Tryz.func56, Tryz.ntmps56
    go_wp2_with fail
    rw [← HW3.out]
    refine HFD.out.mono ?_
    rintro e w4 ⟨rfl, hb4⟩
    obtain ⟨⟨a0, a1, a2⟩, ⟨b0, b1, b2, b3, b4⟩, ⟨d0, d1, d2⟩, _, ⟨g0, g1, g2⟩, q1, q3⟩ := HCL.out w4 hb4
    have HB4 := Lib.hid hb4
    have hb04 : Below W.heap.size W w4 := HB3.out.trans (HB4.out.mono (by rw [HZ.out]; omega))
    obtain ⟨g', he, _, x1, x2, x3, _⟩ := HATK.out k xs[k] (List.getElem?_eq_getElem hkl2)
    cases he
    have y1 := (hb04.cell (p := ⟨g, k * 3, none⟩) hg).trans x1
    have y2 := (hb04.cell (p := ⟨g, k * 3 + 1, none⟩) hg).trans x2
    have y3 := (hb04.cell (p := ⟨g, k * 3 + 2, none⟩) hg).trans x3
    have hX := hX0.below hb04
    obtain ⟨da, dc, hdv⟩ := hX.dur.1.form
    obtain ⟨wa, wc, hwv, _⟩ := hX.pend.form
    obtain ⟨w5, hw5⟩ : ∃ w5, w5 = w4.alloc (.cells #[.string ⟨xs[k].nm.toArray⟩, .slice da xs[k].f.dur.length dc, .slice wa xs[k].f.pend.length wc] 37) := ⟨_, rfl⟩
    have hb45 : Below w4.heap.size w4 w5 := by rw [hw5]; exact (Below.refl _ _).alloc (Nat.le_refl _) _
    have r5 : w5.heap[w4.heap.size]? = some (.cells #[.string ⟨xs[k].nm.toArray⟩, .slice da xs[k].f.dur.length dc, .slice wa xs[k].f.pend.length wc] 37 (0, 0)) := by rw [hw5]; exact heap_alloc_new _ _
    have s5 : w5.heap.size = w4.heap.size + 1 := by rw [hw5]; simp
    have hct := rf_contents (hX.below hb45)
    unfold Re.val at hct
    rw [hdv, hwv] at hct
    rw [hdv] at y2
    rw [hwv] at y3
    have HCT := Lib.hid hct
    have HW5 := Lib.hid hw5
    have R5 := Lib.hid r5
    have S5 := Lib.hid s5
    have HB04 := Lib.hid hb04
    have HB45 := Lib.hid hb45
    have HDV := Lib.hid hdv
    have HWV := Lib.hid hwv
    have i1 : (0 : Int) ≤ k := by omega
    have i2 : (k : Int) < xs.length := by omega
    clear hct hw5 r5 s5 hb04 hb45 hX q1 q3 hb4 x1 x2 x3 hdv hwv
    go_wp2_with fail
    rw [← HW5.out]
    refine HCT.out.mono ?_
    rintro e w6 ⟨vn, rfl, hon, hb6⟩
    have hz := HZ.out
    have hs4 := HB4.out.size
    have hs5 := S5.out
    have hs6 := hb6.size
    have hb46 : Below w4.heap.size w4 w6 := HB45.out.trans (hb6.mono (by omega))
    obtain ⟨⟨a0, a1, a2⟩, ⟨b0, b1, b2, b3, b4⟩, ⟨d0, d1, d2⟩, ⟨f0, f1, f2⟩, ⟨g0, g1, g2⟩, q1, q3⟩ := HCL.out w6 (HB4.out.trans (hb46.mono hs4))
    have R6 := Lib.hid ((hb6.block w4.heap.size (by omega)).trans R5.out)
    obtain ⟨na, nc, rfl⟩ := rf_own_form hon
    have HON := Lib.hid hon
    have HB6 := Lib.hid hb6
    have HB46 := Lib.hid hb46
    have HB06 := Lib.hid (HB04.out.trans (hb46.mono (by omega)))
    have Q1 := Lib.hid q1
    clear hon hb6 hb46 y1 y2 y3 q1 q3
    go_wp2_with fail
    have hwo := rf_without D.bud D.down (HA.out.below HB06.out) k hkl2
    refine hwo.mono ?_
    rintro e w7 ⟨sv', rfl, ho7, hb7⟩
    have HB07 := Lib.hid (HB06.out.trans (hb7.mono HB06.out.size))
    obtain ⟨_, _, ⟨d0, d1, d2⟩, _, ⟨g0, g1, g2⟩, _, q3⟩ := HCL.out w7 (HB4.out.trans ((HB46.out.trans (hb7.mono (by omega))).mono hs4))
    have Q3 := Lib.hid q3
    have HO7 := Lib.hid ho7
    obtain ⟨a7, p7, rfl⟩ := rf_own_form ho7
    clear q3 hb7 ho7 hwo
    go_wp2_with fail
    refine bodyPost_ret (results_cell_t3 rfl _ _ (W.heap.size + 1 + 1) _ _ (0, 0) _ rfl (rf_store3 Q3.out) Tryz.underlying27 rfl (by kernel_rfl)) rfl ?_
    have hmap : (xs.take k ++ xs.drop (k + 1)).map Re.ent = Dk.del n D.fs := by
      rw [← Dk.del_eq HR.out.ne HKP.out, HFS.out, List.map_append, List.map_take, List.map_drop]
    have hlen : (xs.take k ++ xs.drop (k + 1)).length = xs.length - 1 := by
      rw [List.length_append, List.length_take, List.length_drop]; omega
    have hl := HA.out.2.2
    refine ch_new (B := w6.heap.size) HC.out HB07.out (by omega) (by rw [hlen]; exact HO7.out) (by rw [hlen]; omega) (fun y hy => ?_) _ hmap.symm _ _
    rcases List.mem_append.1 hy with hy | hy
    · exact (HA.out.2.1 y (List.mem_of_mem_take hy)).below (ch_below HB07.out)
    · exact (HA.out.2.1 y (List.mem_of_mem_drop hy)).below (ch_below HB07.out)

end Go.Proofs.YtegahpgnmeobhaaGreatDoor
