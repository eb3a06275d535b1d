/-
  giroref10.Same.
-/
import Derived.Test.YtegahpgnmeobhaaGreatDoorLawOps
import Derived.Test.YtegahpgnmeobhaaGreatDoorDkEq2
namespace Go.Proofs.YtegahpgnmeobhaaGreatDoor
open Go.RowKit

set_option maxRecDepth 100000 in
set_option maxHeartbeats 4000000 in
theorem rf_Same {c c' : Nat → Nat} {W : World} {v1 v2 : Value} {A B : Dk.D} (h1 : RfD c W v1 A) (h2 : RfD c' W v2 B) :
    Calls Tryz.prog 35 #[v1, v2] W fun e W' => ∃ r : Bool, e = .returned (.bool r) ∧ (r = true ↔ A.bud = B.bud ∧ A.down = B.down ∧ A.fs = B.fs) ∧ Below W.heap.size W W' := by
  obtain ⟨s1, xs, rfl, hfs1, hA⟩ := h1
  obtain ⟨s2, ys, rfl, hfs2, hB⟩ := h2
  obtain ⟨a1, c1, rfl, hc1, hat1⟩ := hA.at
  obtain ⟨a2, c2, rfl, hc2, hat2⟩ := hB.at
  have hl1 := hA.2.2
  have hl2 := hB.2.2
  have HF1 := Lib.hid hfs1
  have HF2 := Lib.hid hfs2
  have HA1 := Lib.hid hat1
  have HA2 := Lib.hid hat2
  unfold rfVal
  clear hfs1 hfs2 hat1 hat2 hA hB
  obtain ⟨W2, hW2⟩ : ∃ W2, W2 = (W.alloc (.cells #[.slice a1 xs.length c1, .int .i64 A.bud, .bool A.down] 27)).alloc (.cells #[.slice a2 ys.length c2, .int .i64 B.bud, .bool B.down] 27) := ⟨_, rfl⟩
  have hb02 : Below W.heap.size W W2 := by rw [hW2]; exact ((Below.refl _ _).alloc (Nat.le_refl _) _).alloc (by simp) _
  have r1 : W2.heap[W.heap.size]? = some (.cells #[.slice a1 xs.length c1, .int .i64 A.bud, .bool A.down] 27 (0, 0)) := by rw [hW2]; exact (Below.heap_alloc _ _ _ (by simp)).trans (heap_alloc_new _ _)
  have r2 : W2.heap[W.heap.size + 1]? = some (.cells #[.slice a2 ys.length c2, .int .i64 B.bud, .bool B.down] 27 (0, 0)) := by rw [hW2]; exact rf_new2 W _ _
  have HB02 := Lib.hid hb02
  have HW2 := Lib.hid hW2
  have HR1 := Lib.hid r1
  have HR2 := Lib.hid r2
  clear hW2 hb02 r1 r2
  by_cases hn : xs.length = ys.length
  · by_cases hb : A.bud = B.bud
    · by_cases hd : A.down = B.down
      · have HN := Lib.hid hn
        have HBD := Lib.hid hb
        have HDN := Lib.hid hd
        rw [hn] at hc1 HW2 HR1 ⊢
        rw [hb, hd] at HW2 HR1 ⊢
        clear hn hb hd hl1
        obtain ⟨n, hnn⟩ : ∃ n, n = ys.length := ⟨_, rfl⟩
        have HNN := Lib.hid hnn
        rw [← hnn] at hc1 hc2 hl2 HW2 HR1 HR2 ⊢
        clear hnn
        generalize B.bud = bb at *
        generalize B.down = bd at *
        go_enter Tryz.func35, Tryz.ntmps35
        go_wp2_with fail
        rw [← HW2.out]
        go_loopw [5] (fun iv wr => ∃ i : Nat, iv = .int .i64 i ∧ i ≤ n ∧ Hid (A.fs.take i = B.fs.take i) ∧ Hid (Below W2.heap.size W2 wr)) (fun iv _ => n - (RowKit.intOf iv).toNat)
        case atStart => exact ⟨0, rfl, Nat.zero_le _, Lib.hid (by simp), Lib.hid (Below.refl _ _)⟩
        case round =>
          obtain ⟨i, rfl, hi, HT, HB⟩ := hrel
          have x0 := (HB.out.cell (p := ⟨W.heap.size, 0, none⟩) (Array.getElem?_eq_some_iff.1 HR1.out).1).trans (row_cells3 HR1.out).1
          have y0 := (HB.out.cell (p := ⟨W.heap.size + 1, 0, none⟩) (Array.getElem?_eq_some_iff.1 HR2.out).1).trans (row_cells3 HR2.out).1
          by_cases hlt : i < n
          · have hx : i < xs.length := by rw [HN.out, ← HNN.out]; exact hlt
            have hy : i < ys.length := by rw [← HNN.out]; exact hlt
            obtain ⟨x, hxi⟩ : ∃ x, xs[i]? = some x := ⟨_, List.getElem?_eq_getElem hx⟩
            obtain ⟨y, hyi⟩ : ∃ y, ys[i]? = some y := ⟨_, List.getElem?_eq_getElem hy⟩
            obtain ⟨g1, rfl, hg1, p0, p1, p2, hX⟩ := HA1.out i x hxi
            obtain ⟨g2, rfl, hg2, q0, q1, q2, hY⟩ := HA2.out i y hyi
            have hb0r := HB02.out.trans (HB.out.mono HB02.out.size)
            have p0 := (hb0r.cell (p := ⟨g1, i * 3, none⟩) hg1).trans p0
            have p1 := (hb0r.cell (p := ⟨g1, i * 3 + 1, none⟩) hg1).trans p1
            have p2 := (hb0r.cell (p := ⟨g1, i * 3 + 2, none⟩) hg1).trans p2
            have q0 := (hb0r.cell (p := ⟨g2, i * 3, none⟩) hg2).trans q0
            have q1 := (hb0r.cell (p := ⟨g2, i * 3 + 1, none⟩) hg2).trans q1
            have q2 := (hb0r.cell (p := ⟨g2, i * 3 + 2, none⟩) hg2).trans q2
            have HAi : Hid (A.fs[i]? = some (x.nm, x.f)) := Lib.hid (by rw [HF1.out, List.getElem?_map, hxi]; rfl)
            have HBi : Hid (B.fs[i]? = some (y.nm, y.f)) := Lib.hid (by rw [HF2.out, List.getElem?_map, hyi]; rfl)
            have HX := Lib.hid (hX.below hb0r)
            have HY := Lib.hid (hY.below hb0r)
            have HB0R := Lib.hid hb0r
            obtain ⟨da, dc, hdv⟩ := hX.dur.1.form
            obtain ⟨ea, ec, hev⟩ := hY.dur.1.form
            obtain ⟨wa, wc, hwv, -⟩ := hX.pend.form
            obtain ⟨ua, uc, huv, -⟩ := hY.pend.form
            have HDV := Lib.hid hdv
            have HEV := Lib.hid hev
            have HWV := Lib.hid hwv
            have HUV := Lib.hid huv
            rw [hdv] at p1
            rw [hev] at q1
            rw [hwv] at p2
            rw [huv] at q2
            have i1 : (0 : Int) ≤ i := by omega
            have i2 : (i : Int) < n := by omega
            clear hxi hyi hx hy hX hY hdv hev hwv huv hb0r hg1 hg2
            have z1 := World.new_ne wr _ x0
            have z2 := World.new_ne wr _ y0
            have z3 := World.new_ne wr _ p0
            have z4 := World.new_ne wr _ q0
            go_wp2_with fail
            go_region_held3 (fun w' => w'.cell? ⟨W.heap.size, 0, none⟩ = some (.slice (some ⟨g1, 0, none⟩) n c1) ∧ w'.cell? ⟨W.heap.size + 1, 0, none⟩ = some (.slice (some ⟨g2, 0, none⟩) n c2) ∧ w'.cell? ⟨g1, i * 3, none⟩ = some (.string ⟨x.nm.toArray⟩) ∧ w'.cell? ⟨g1, i * 3 + 1, none⟩ = some (.slice da x.f.dur.length dc) ∧ w'.cell? ⟨g1, i * 3 + 2, none⟩ = some (.slice wa x.f.pend.length wc) ∧ w'.cell? ⟨g2, i * 3, none⟩ = some (.string ⟨y.nm.toArray⟩) ∧ w'.cell? ⟨g2, i * 3 + 1, none⟩ = some (.slice ea y.f.dur.length ec) ∧ w'.cell? ⟨g2, i * 3 + 2, none⟩ = some (.slice ua y.f.pend.length uc)) (go_keep) (fail)
            · obtain ⟨w4, hw4⟩ : ∃ w4, w4 = ((wr.alloc (.cells #[.string ⟨x.nm.toArray⟩, .slice da x.f.dur.length dc, .slice wa x.f.pend.length wc] 37)).alloc (.cells #[.string ⟨y.nm.toArray⟩, .slice ea y.f.dur.length ec, .slice ua y.f.pend.length uc] 37)).drew := ⟨_, rfl⟩
              rw [← hw4]
              have hb4 : Below wr.heap.size wr w4 := by rw [hw4]; exact (((Below.refl _ _).alloc (Nat.le_refl _) _).alloc (by simp) _).drew
              have ra : w4.heap[wr.heap.size]? = some (.cells #[.string ⟨x.nm.toArray⟩, .slice da x.f.dur.length dc, .slice wa x.f.pend.length wc] 37 (0, 0)) := by rw [hw4]; exact (Below.heap_alloc _ _ _ (by simp)).trans (heap_alloc_new _ _)
              have rb : w4.heap[wr.heap.size + 1]? = some (.cells #[.string ⟨y.nm.toArray⟩, .slice ea y.f.dur.length ec, .slice ua y.f.pend.length uc] 37 (0, 0)) := by rw [hw4]; exact rf_new2 wr _ _
              obtain ⟨gx0, gx1, gx2⟩ := row_cells3 ra
              obtain ⟨gy0, gy1, gy2⟩ := row_cells3 rb
              have HX4 := Lib.hid (HX.out.below hb4)
              have HY4 := Lib.hid (HY.out.below hb4)
              have HB4 := Lib.hid (HB.out.trans (hb4.mono HB.out.size))
              have HB04 := Lib.hid (HB02.out.trans (HB4.out.mono HB02.out.size))
              obtain ⟨b1, hb1⟩ : ∃ b, b = wr.heap.size := ⟨_, rfl⟩
              obtain ⟨b2, hb2⟩ : ∃ b, b = wr.heap.size + 1 := ⟨_, rfl⟩
              rw [← hb2, ← hb1]
              rw [← hb1] at gx0 gx1 gx2
              rw [← hb2] at gy0 gy1 gy2
              clear hw4 hb4 ra rb x0 y0 p0 p1 p2 q0 q1 q2 hb1 hb2 z1 z2 z3 z4 HX HY HB
              have c1 := dk_conv HX4.out.dur.1 w4 rfl
              have c2 := dk_conv HY4.out.dur.1 w4 rfl
              rw [HDV.out] at c1
              rw [HEV.out] at c2
              by_cases e1 : x.nm = y.nm
              · by_cases e2 : x.f.dur = y.f.dur
                · by_cases e3 : x.f.pend.length = y.f.pend.length
                  · have f1 : (x.nm == y.nm) = true := by simpa using e1
                    have f2 : (x.f.dur == y.f.dur) = true := by simpa using e2
                    have E1 := Lib.hid e1
                    have E2 := Lib.hid e2
                    have E3 := Lib.hid e3
                    rw [e3] at gx2
                    obtain ⟨m, hm⟩ : ∃ m, m = y.f.pend.length := ⟨_, rfl⟩
                    have HM := Lib.hid hm
                    rw [← hm] at gx2 gy2
                    have hm6 : m ≤ 65536 := by rw [hm]; exact HY4.out.many
                    clear e1 e2 e3 hm
                    go_wp2_with fail
                    go_loopw [8] (fun iv w' => ∃ k : Nat, iv = .int .i64 k ∧ k ≤ m ∧ Hid (x.f.pend.take k = y.f.pend.take k) ∧ Hid (Below w4.heap.size w4 w')) (fun iv _ => m - (RowKit.intOf iv).toNat)
                    case atStart => exact ⟨0, rfl, Nat.zero_le _, Lib.hid (by simp), Lib.hid (Below.refl _ _)⟩
                    case round =>
                      obtain ⟨k, rfl, hk, HTk, HWE⟩ := hrel
                      have gx2 := (HWE.out.cell (p := ⟨b1, 2, none⟩) (World.block_lt_of_cell? w4 _ gx2)).trans gx2
                      have gy2 := (HWE.out.cell (p := ⟨b2, 2, none⟩) (World.block_lt_of_cell? w4 _ gy2)).trans gy2
                      have HX5 := Lib.hid (HX4.out.below HWE.out)
                      have HY5 := Lib.hid (HY4.out.below HWE.out)
                      have HB5 := Lib.hid (HB4.out.trans (HWE.out.mono HB4.out.size))
                      have HB05 := Lib.hid (HB02.out.trans (HB5.out.mono HB02.out.size))
                      have HWD := Lib.hid HWE.out.drew
                      have HBD := Lib.hid HB05.out.drew
                      by_cases hkm : k < m
                      · obtain ⟨⟨wo, wc', hv1, _, hwx⟩, _⟩ := HX5.out.pend
                        obtain ⟨⟨uo, uc', hv2, _, hux⟩, _⟩ := HY5.out.pend
                        rw [HWV.out] at hv1
                        rw [HUV.out] at hv2
                        injection hv1 with v1 _ v3
                        injection hv2 with v4 _ v6
                        subst v1 v3 v4 v6
                        have hk1 : k < x.f.pend.length := by rw [E3.out, ← HM.out]; exact hkm
                        have hk2 : k < y.f.pend.length := by rw [← HM.out]; exact hkm
                        obtain ⟨wg, rfl, hwg, hwc⟩ := hwx (by omega)
                        obtain ⟨ug, rfl, hug, huc⟩ := hux (by omega)
                        have hvs : k < x.vs.length := by rw [HX5.out.wr.1]; exact hk1
                        have hus : k < y.vs.length := by rw [HY5.out.wr.1]; exact hk2
                        obtain ⟨t1, t2⟩ := wrCells_at x.f.pend x.vs k _ _ (List.getElem?_eq_getElem hk1) (List.getElem?_eq_getElem hvs)
                        obtain ⟨t3, t4⟩ := wrCells_at y.f.pend y.vs k _ _ (List.getElem?_eq_getElem hk2) (List.getElem?_eq_getElem hus)
                        have d1 := hwc _ _ t1
                        have d2 := hwc _ _ t2
                        have d3 := huc _ _ t3
                        have d4 := huc _ _ t4
                        have o1 := (HX5.out.wr.2 k _ _ (List.getElem?_eq_getElem hk1) (List.getElem?_eq_getElem hvs)).1
                        have o2 := (HY5.out.wr.2 k _ _ (List.getElem?_eq_getElem hk2) (List.getElem?_eq_getElem hus)).1
                        have c3 := dk_conv o1.1 wr.drew rfl
                        have c4 := dk_conv o2.1 wr.drew rfl
                        obtain ⟨f1a, f1c, hf1⟩ := o1.1.form
                        obtain ⟨f2a, f2c, hf2⟩ := o2.1.form
                        rw [hf1] at d2 c3
                        rw [hf2] at d4 c4
                        have HTN : Hid (x.f.pend[k] = y.f.pend[k] → x.f.pend.take (k + 1) = y.f.pend.take (k + 1)) := Lib.hid (fun h => take_next hk1 hk2 HTk.out h)
                        have HBAD : Hid (x.f.pend[k] ≠ y.f.pend[k] → A.fs ≠ B.fs) := Lib.hid (fun hne e => by
                          have h := HAi.out
                          rw [e, HBi.out] at h
                          have h2 := congrArg (fun p => p.2.pend[k]?) (Option.some.inj h)
                          simp only [List.getElem?_eq_getElem hk1, List.getElem?_eq_getElem hk2, Option.some.injEq] at h2
                          exact hne h2.symm)
                        generalize x.f.pend[k] = pk at *
                        generalize y.f.pend[k] = qk at *
                        have j1 : (0 : Int) ≤ k := by omega
                        have j2 : (k : Int) < m := by omega
                        clear hwx hux hwc huc t1 t2 t3 t4 o1 o2 hf1 hf2 hvs hus hk1 hk2
                        obtain ⟨po, pb⟩ := pk
                        obtain ⟨qo, qb⟩ := qk
                        simp only [] at d1 d3 d2 d4 c3 c4
                        by_cases g3 : po = qo
                        · by_cases g4 : pb = qb
                          · have f5 : (pb == qb) = true := by simpa using g4
                            have HT5 := Lib.hid (HTN.out (by rw [g3, g4]))
                            have f6 : ((po : Int) == (qo : Int)) = true := by simp; omega
                            have f7 : ((po : Int) != (qo : Int)) = false := by simp; omega
                            clear g3 g4
                            go_wp2_with fail
                            refine wp_region_still_lit (by kernel_rfl) (by kernel_rfl) ?_
                            change wpStill _ _ (World.drew _) _ _ _
                            repeat still_step
                            refine wpStill_nil ?_
                            go_wp2_with fail
                            go_roundw
                            case rel => exact ⟨k + 1, by go_num, by omega, HT5, HWD⟩
                            case measure => simp [RowKit.intOf]; omega
                          · have f5 : (pb == qb) = false := by simpa using g4
                            have f6 : ((po : Int) == (qo : Int)) = true := by simp; omega
                            have f7 : ((po : Int) != (qo : Int)) = false := by simp; omega
                            have hbad := Lib.hid (HBAD.out (fun h => g4 (congrArg Dk.Wr.b h)))
                            clear g3 g4
                            go_wp2_with fail
                            refine wp_region_still_lit (by kernel_rfl) (by kernel_rfl) ?_
                            change wpStill _ _ (World.drew _) _ _ _
                            repeat still_step
                            refine wpStill_nil ?_
                            go_wp2_with fail
                            go_ret
                            exact ⟨false, rfl, by simp [hbad.out], HBD.out⟩
                        · have f6 : ((po : Int) == (qo : Int)) = false := by simp; omega
                          have f7 : ((po : Int) != (qo : Int)) = true := by simp; omega
                          have hbad := Lib.hid (HBAD.out (fun h => g3 (congrArg Dk.Wr.off h)))
                          clear g3
                          go_wp2_with fail
                          go_quiet (fail)
                          go_wp2_with fail
                          go_ret
                          exact ⟨false, rfl, by simp [hbad.out], dk_below_drewN HB05.out _⟩
                      · obtain rfl : k = m := by omega
                        have hpe : Hid (x.f.pend = y.f.pend) := Lib.hid (list_eq_of_take (by rw [E3.out, ← HM.out]) HM.out.symm HTk.out)
                        have HT2 : Hid (A.fs.take (i + 1) = B.fs.take (i + 1)) := Lib.hid (by
                          rw [List.take_add_one, List.take_add_one, HT.out, HAi.out, HBi.out, E1.out]
                          have : x.f = y.f := by
                            have h1 := E2.out
                            have h2 := hpe.out
                            cases hx : x.f; cases hy : y.f
                            rw [hx, hy] at h1 h2
                            simp only [] at h1 h2
                            rw [h1, h2]
                          rw [this])
                        go_wp2_with fail
                        exact ⟨⟨i + 1, by go_num, by omega, HT2, HB5⟩, by simp [RowKit.intOf]; omega⟩
                  · have f1 : (x.nm == y.nm) = true := by simpa using e1
                    have f2 : (x.f.dur == y.f.dur) = true := by simpa using e2
                    have hbad : Hid (A.fs ≠ B.fs) := Lib.hid (fun e => by have h := HAi.out; rw [e, HBi.out] at h; exact e3 (congrArg (fun p => p.2.pend.length) (Option.some.inj h)).symm)
                    have f3 : ((x.f.pend.length : Int) == (y.f.pend.length : Int)) = false := by simp; omega
                    clear e1 e2
                    go_wp2_with fail
                    go_ret
                    exact ⟨false, rfl, by simp [hbad.out], HB04.out⟩
                · have f1 : (x.nm == y.nm) = true := by simpa using e1
                  have f2 : (x.f.dur == y.f.dur) = false := by simpa using e2
                  have hbad : Hid (A.fs ≠ B.fs) := Lib.hid (fun e => by have h := HAi.out; rw [e, HBi.out] at h; exact e2 (congrArg (fun p => p.2.dur) (Option.some.inj h)).symm)
                  clear e1 e2
                  go_wp2_with fail
                  go_ret
                  exact ⟨false, rfl, by simp [hbad.out], HB04.out⟩
              · have f1 : (x.nm == y.nm) = false := by simpa using e1
                have hbad : Hid (A.fs ≠ B.fs) := Lib.hid (fun e => by have h := HAi.out; rw [e, HBi.out] at h; exact e1 (congrArg Prod.fst (Option.some.inj h)).symm)
                clear e1
                go_wp2_with fail
                go_ret
                exact ⟨false, rfl, by simp [hbad.out], HB04.out⟩
            · obtain ⟨w4, hw4⟩ : ∃ w4, w4 = ((wr.alloc (.cells #[.string ⟨y.nm.toArray⟩, .slice ea y.f.dur.length ec, .slice ua y.f.pend.length uc] 37)).alloc (.cells #[.string ⟨x.nm.toArray⟩, .slice da x.f.dur.length dc, .slice wa x.f.pend.length wc] 37)).drew := ⟨_, rfl⟩
              rw [← hw4]
              have hb4 : Below wr.heap.size wr w4 := by rw [hw4]; exact (((Below.refl _ _).alloc (Nat.le_refl _) _).alloc (by simp) _).drew
              have ra : w4.heap[wr.heap.size]? = some (.cells #[.string ⟨y.nm.toArray⟩, .slice ea y.f.dur.length ec, .slice ua y.f.pend.length uc] 37 (0, 0)) := by rw [hw4]; exact (Below.heap_alloc _ _ _ (by simp)).trans (heap_alloc_new _ _)
              have rb : w4.heap[wr.heap.size + 1]? = some (.cells #[.string ⟨x.nm.toArray⟩, .slice da x.f.dur.length dc, .slice wa x.f.pend.length wc] 37 (0, 0)) := by rw [hw4]; exact rf_new2 wr _ _
              obtain ⟨gx0, gx1, gx2⟩ := row_cells3 rb
              obtain ⟨gy0, gy1, gy2⟩ := row_cells3 ra
              have HX4 := Lib.hid (HX.out.below hb4)
              have HY4 := Lib.hid (HY.out.below hb4)
              have HB4 := Lib.hid (HB.out.trans (hb4.mono HB.out.size))
              have HB04 := Lib.hid (HB02.out.trans (HB4.out.mono HB02.out.size))
              obtain ⟨b1, hb1⟩ : ∃ b, b = wr.heap.size + 1 := ⟨_, rfl⟩
              obtain ⟨b2, hb2⟩ : ∃ b, b = wr.heap.size := ⟨_, rfl⟩
              rw [← hb1, ← hb2]
              rw [← hb1] at gx0 gx1 gx2
              rw [← hb2] at gy0 gy1 gy2
              clear hw4 hb4 ra rb x0 y0 p0 p1 p2 q0 q1 q2 hb1 hb2 z1 z2 z3 z4 HX HY HB
              have c1 := dk_conv HX4.out.dur.1 w4 rfl
              have c2 := dk_conv HY4.out.dur.1 w4 rfl
              rw [HDV.out] at c1
              rw [HEV.out] at c2
              by_cases e1 : x.nm = y.nm
              · by_cases e2 : x.f.dur = y.f.dur
                · by_cases e3 : x.f.pend.length = y.f.pend.length
                  · have f1 : (x.nm == y.nm) = true := by simpa using e1
                    have f2 : (x.f.dur == y.f.dur) = true := by simpa using e2
                    have E1 := Lib.hid e1
                    have E2 := Lib.hid e2
                    have E3 := Lib.hid e3
                    rw [e3] at gx2
                    obtain ⟨m, hm⟩ : ∃ m, m = y.f.pend.length := ⟨_, rfl⟩
                    have HM := Lib.hid hm
                    rw [← hm] at gx2 gy2
                    have hm6 : m ≤ 65536 := by rw [hm]; exact HY4.out.many
                    clear e1 e2 e3 hm
                    go_wp2_with fail
                    go_loopw [8] (fun iv w' => ∃ k : Nat, iv = .int .i64 k ∧ k ≤ m ∧ Hid (x.f.pend.take k = y.f.pend.take k) ∧ Hid (Below w4.heap.size w4 w')) (fun iv _ => m - (RowKit.intOf iv).toNat)
                    case atStart => exact ⟨0, rfl, Nat.zero_le _, Lib.hid (by simp), Lib.hid (Below.refl _ _)⟩
                    case round =>
                      obtain ⟨k, rfl, hk, HTk, HWE⟩ := hrel
                      have gx2 := (HWE.out.cell (p := ⟨b1, 2, none⟩) (World.block_lt_of_cell? w4 _ gx2)).trans gx2
                      have gy2 := (HWE.out.cell (p := ⟨b2, 2, none⟩) (World.block_lt_of_cell? w4 _ gy2)).trans gy2
                      have HX5 := Lib.hid (HX4.out.below HWE.out)
                      have HY5 := Lib.hid (HY4.out.below HWE.out)
                      have HB5 := Lib.hid (HB4.out.trans (HWE.out.mono HB4.out.size))
                      have HB05 := Lib.hid (HB02.out.trans (HB5.out.mono HB02.out.size))
                      have HWD := Lib.hid HWE.out.drew
                      have HBD := Lib.hid HB05.out.drew
                      by_cases hkm : k < m
                      · obtain ⟨⟨wo, wc', hv1, _, hwx⟩, _⟩ := HX5.out.pend
                        obtain ⟨⟨uo, uc', hv2, _, hux⟩, _⟩ := HY5.out.pend
                        rw [HWV.out] at hv1
                        rw [HUV.out] at hv2
                        injection hv1 with v1 _ v3
                        injection hv2 with v4 _ v6
                        subst v1 v3 v4 v6
                        have hk1 : k < x.f.pend.length := by rw [E3.out, ← HM.out]; exact hkm
                        have hk2 : k < y.f.pend.length := by rw [← HM.out]; exact hkm
                        obtain ⟨wg, rfl, hwg, hwc⟩ := hwx (by omega)
                        obtain ⟨ug, rfl, hug, huc⟩ := hux (by omega)
                        have hvs : k < x.vs.length := by rw [HX5.out.wr.1]; exact hk1
                        have hus : k < y.vs.length := by rw [HY5.out.wr.1]; exact hk2
                        obtain ⟨t1, t2⟩ := wrCells_at x.f.pend x.vs k _ _ (List.getElem?_eq_getElem hk1) (List.getElem?_eq_getElem hvs)
                        obtain ⟨t3, t4⟩ := wrCells_at y.f.pend y.vs k _ _ (List.getElem?_eq_getElem hk2) (List.getElem?_eq_getElem hus)
                        have d1 := hwc _ _ t1
                        have d2 := hwc _ _ t2
                        have d3 := huc _ _ t3
                        have d4 := huc _ _ t4
                        have o1 := (HX5.out.wr.2 k _ _ (List.getElem?_eq_getElem hk1) (List.getElem?_eq_getElem hvs)).1
                        have o2 := (HY5.out.wr.2 k _ _ (List.getElem?_eq_getElem hk2) (List.getElem?_eq_getElem hus)).1
                        have c3 := dk_conv o1.1 wr.drew rfl
                        have c4 := dk_conv o2.1 wr.drew rfl
                        obtain ⟨f1a, f1c, hf1⟩ := o1.1.form
                        obtain ⟨f2a, f2c, hf2⟩ := o2.1.form
                        rw [hf1] at d2 c3
                        rw [hf2] at d4 c4
                        have HTN : Hid (x.f.pend[k] = y.f.pend[k] → x.f.pend.take (k + 1) = y.f.pend.take (k + 1)) := Lib.hid (fun h => take_next hk1 hk2 HTk.out h)
                        have HBAD : Hid (x.f.pend[k] ≠ y.f.pend[k] → A.fs ≠ B.fs) := Lib.hid (fun hne e => by
                          have h := HAi.out
                          rw [e, HBi.out] at h
                          have h2 := congrArg (fun p => p.2.pend[k]?) (Option.some.inj h)
                          simp only [List.getElem?_eq_getElem hk1, List.getElem?_eq_getElem hk2, Option.some.injEq] at h2
                          exact hne h2.symm)
                        generalize x.f.pend[k] = pk at *
                        generalize y.f.pend[k] = qk at *
                        have j1 : (0 : Int) ≤ k := by omega
                        have j2 : (k : Int) < m := by omega
                        clear hwx hux hwc huc t1 t2 t3 t4 o1 o2 hf1 hf2 hvs hus hk1 hk2
                        obtain ⟨po, pb⟩ := pk
                        obtain ⟨qo, qb⟩ := qk
                        simp only [] at d1 d3 d2 d4 c3 c4
                        by_cases g3 : po = qo
                        · by_cases g4 : pb = qb
                          · have f5 : (pb == qb) = true := by simpa using g4
                            have HT5 := Lib.hid (HTN.out (by rw [g3, g4]))
                            have f6 : ((po : Int) == (qo : Int)) = true := by simp; omega
                            have f7 : ((po : Int) != (qo : Int)) = false := by simp; omega
                            clear g3 g4
                            go_wp2_with fail
                            refine wp_region_still_lit (by kernel_rfl) (by kernel_rfl) ?_
                            change wpStill _ _ (World.drew _) _ _ _
                            repeat still_step
                            refine wpStill_nil ?_
                            go_wp2_with fail
                            go_roundw
                            case rel => exact ⟨k + 1, by go_num, by omega, HT5, HWD⟩
                            case measure => simp [RowKit.intOf]; omega
                          · have f5 : (pb == qb) = false := by simpa using g4
                            have f6 : ((po : Int) == (qo : Int)) = true := by simp; omega
                            have f7 : ((po : Int) != (qo : Int)) = false := by simp; omega
                            have hbad := Lib.hid (HBAD.out (fun h => g4 (congrArg Dk.Wr.b h)))
                            clear g3 g4
                            go_wp2_with fail
                            refine wp_region_still_lit (by kernel_rfl) (by kernel_rfl) ?_
                            change wpStill _ _ (World.drew _) _ _ _
                            repeat still_step
                            refine wpStill_nil ?_
                            go_wp2_with fail
                            go_ret
                            exact ⟨false, rfl, by simp [hbad.out], HBD.out⟩
                        · have f6 : ((po : Int) == (qo : Int)) = false := by simp; omega
                          have f7 : ((po : Int) != (qo : Int)) = true := by simp; omega
                          have hbad := Lib.hid (HBAD.out (fun h => g3 (congrArg Dk.Wr.off h)))
                          clear g3
                          go_wp2_with fail
                          go_quiet (fail)
                          go_wp2_with fail
                          go_ret
                          exact ⟨false, rfl, by simp [hbad.out], dk_below_drewN HB05.out _⟩
                      · obtain rfl : k = m := by omega
                        have hpe : Hid (x.f.pend = y.f.pend) := Lib.hid (list_eq_of_take (by rw [E3.out, ← HM.out]) HM.out.symm HTk.out)
                        have HT2 : Hid (A.fs.take (i + 1) = B.fs.take (i + 1)) := Lib.hid (by
                          rw [List.take_add_one, List.take_add_one, HT.out, HAi.out, HBi.out, E1.out]
                          have : x.f = y.f := by
                            have h1 := E2.out
                            have h2 := hpe.out
                            cases hx : x.f; cases hy : y.f
                            rw [hx, hy] at h1 h2
                            simp only [] at h1 h2
                            rw [h1, h2]
                          rw [this])
                        go_wp2_with fail
                        exact ⟨⟨i + 1, by go_num, by omega, HT2, HB5⟩, by simp [RowKit.intOf]; omega⟩
                  · have f1 : (x.nm == y.nm) = true := by simpa using e1
                    have f2 : (x.f.dur == y.f.dur) = true := by simpa using e2
                    have hbad : Hid (A.fs ≠ B.fs) := Lib.hid (fun e => by have h := HAi.out; rw [e, HBi.out] at h; exact e3 (congrArg (fun p => p.2.pend.length) (Option.some.inj h)).symm)
                    have f3 : ((x.f.pend.length : Int) == (y.f.pend.length : Int)) = false := by simp; omega
                    clear e1 e2
                    go_wp2_with fail
                    go_ret
                    exact ⟨false, rfl, by simp [hbad.out], HB04.out⟩
                · have f1 : (x.nm == y.nm) = true := by simpa using e1
                  have f2 : (x.f.dur == y.f.dur) = false := by simpa using e2
                  have hbad : Hid (A.fs ≠ B.fs) := Lib.hid (fun e => by have h := HAi.out; rw [e, HBi.out] at h; exact e2 (congrArg (fun p => p.2.dur) (Option.some.inj h)).symm)
                  clear e1 e2
                  go_wp2_with fail
                  go_ret
                  exact ⟨false, rfl, by simp [hbad.out], HB04.out⟩
              · have f1 : (x.nm == y.nm) = false := by simpa using e1
                have hbad : Hid (A.fs ≠ B.fs) := Lib.hid (fun e => by have h := HAi.out; rw [e, HBi.out] at h; exact e1 (congrArg Prod.fst (Option.some.inj h)).symm)
                clear e1
                go_wp2_with fail
                go_ret
                exact ⟨false, rfl, by simp [hbad.out], HB04.out⟩
          · obtain rfl : i = n := by omega
            have hfin : Hid (A.fs = B.fs) := Lib.hid (list_eq_of_take (by rw [HF1.out, List.length_map, HN.out, ← HNN.out]) (by rw [HF2.out, List.length_map, ← HNN.out]) HT.out)
            go_wp2_with fail
            go_ret
            exact ⟨true, rfl, by simp [HBD.out, HDN.out, hfin.out], HB02.out.trans (HB.out.mono HB02.out.size)⟩
      · have hdb : (A.down == B.down) = false := by simpa using hd
        have HDN := Lib.hid hd
        rw [hn, hb] at HW2 ⊢
        clear hn hb hd
        generalize A.down = ad at *
        generalize B.down = bd at *
        go_enter Tryz.func35, Tryz.ntmps35
        go_wp2_with fail
        go_ret
        rw [← HW2.out]
        exact ⟨false, rfl, by simp [HDN.out], HB02.out⟩
    · have hbb : (A.bud == B.bud) = false := by simpa using hb
      have HBD := Lib.hid hb
      rw [hn] at HW2 ⊢
      clear hn hb
      generalize A.bud = ab at *
      generalize B.bud = bb at *
      go_enter Tryz.func35, Tryz.ntmps35
      go_wp2_with fail
      go_ret
      rw [← HW2.out]
      exact ⟨false, rfl, by simp [HBD.out], HB02.out⟩
  · have hne : ((xs.length : Int) == (ys.length : Int)) = false := by simp; omega
    have hfs : Hid (A.fs ≠ B.fs) := Lib.hid (fun e => hn (by have := congrArg List.length e; rw [HF1.out, HF2.out, List.length_map, List.length_map] at this; exact this))
    go_enter Tryz.func35, Tryz.ntmps35
    go_wp2_with fail
    go_ret
    rw [← HW2.out]
    exact ⟨false, rfl, by simp [hfs.out], HB02.out⟩

end Go.Proofs.YtegahpgnmeobhaaGreatDoor
