/-
  DiskBytes: the walk.
-/
import Derived.Test.YtegahpgnmeobhaaGreatDoorLawRestart
import Derived.Test.YtegahpgnmeobhaaGreatDoorPossible
namespace Go.Proofs.YtegahpgnmeobhaaGreatDoor
open Go.RowKit

theorem own_block' {W W' : World} {B : Nat} {t : TypeId} {sz : Nat} {v : Value} {n : Nat} {xs : List Value} (h : W.ownsRow B t sz v n xs) (hb : Below W.heap.size W W') : W'.ownsRow B t sz v n xs := by
  refine ⟨h.1, ?_⟩
  rcases h.2 with hn | ⟨g, cap, cur, hv, hB, hh, rest⟩
  · exact .inl hn
  · exact .inr ⟨g, cap, cur, hv, hB, (hb.block g (Array.getElem?_eq_some_iff.1 hh).1).trans hh, rest⟩

set_option maxRecDepth 100000 in
set_option maxHeartbeats 4000000 in
theorem law_bytes (W : World) (v0 v1 : Value) (l : List Dk.Raw) (ch : Dk.Bs) (hl : OpsAt W v0 l) (hch : RdB W W.heap.size v1 ch) (hcl : ch.length ≤ 140737488355328) :
    Calls Tryz.prog 3 #[v0, v1] W fun e W' => e = .returned (.bool true) ∧ Below W.heap.size W W' := by
  have n0 := dk_run (RunCtx.first W 1 7 (by decide) (by decide) (by decide)) v0 l hl
  obtain ⟨ca, cc, rfl⟩ := hch.form
  have HCH := Lib.hid hch
  clear hl hch
  go_enter Tryz.func3, Tryz.ntmps3
  go_wp2_with fail
  refine n0.mono ?_
  rintro e W1 ⟨c1, g, v, rfl, d1, r1, gd, b1, cols⟩
  have K1 : Kn W W1 c1 := ⟨b1, cols⟩
  generalize Dk.runD l = D at *
  obtain ⟨sv, xs, rfl, hxs, hRA⟩ := r1
  obtain ⟨sa, sc, rfl, _, _⟩ := hRA.at
  unfold rfVal
  rw [Dk.D.norm_fs] at hxs
  clear n0 b1 cols
  have hdw : D.norm.down = D.down := Dk.D.norm_down D
  have hA := Chg.alloc (i := 7) (c := c1) (W := W1) (.cells #[.slice sa xs.length sc, .int .i64 D.norm.bud, .bool D.norm.down] 27) 7
  have d2 := d1.chg hA (by decide) (by decide)
  have hRA2 : RfAt (pnt c1 W1.heap.size 7) (W1.alloc (.cells #[.slice sa xs.length sc, .int .i64 D.norm.bud, .bool D.norm.down] 27)) (.slice sa xs.length sc) xs := hRA.keep hA.size (keepC hA (by decide))
  have K2 := K1.chg hA (by decide)
  have row := heap_alloc_new W1 (.cells #[.slice sa xs.length sc, .int .i64 D.norm.bud, .bool D.norm.down] 27)
  obtain ⟨gw, hgw⟩ : ∃ gw, gw = W1.heap.size := ⟨_, rfl⟩
  obtain ⟨W2, hW2⟩ : ∃ W2, W2 = W1.alloc (.cells #[.slice sa xs.length sc, .int .i64 D.norm.bud, .bool D.norm.down] 27) := ⟨_, rfl⟩
  rw [← hW2] at hA d2 K2 row hRA2
  have col : pnt c1 W1.heap.size 7 gw = 7 := by rw [hgw]; exact pnt_new (Nat.le_refl _)
  generalize pnt c1 W1.heap.size 7 = c2 at *
  rw [← hgw] at row
  have HXS := Lib.hid hxs
  have HGD := Lib.hid gd
  have HR2 := Lib.hid hRA2
  clear hxs hRA hRA2 hA d1 K1
  cases hdn : D.down with
  | true =>
    rw [hdn] at hdw
    rw [hdw] at hW2 row ⊢
    have HW2 := Lib.hid hW2
    have HGW := Lib.hid hgw
    have n4 := dk_Restart d2 _ ch (RdC.of_kn' K2 (HCH.out.below K2.1)) (by omega) (by have := gd.many; omega) (fun p hp => by have := gd.names p hp; unfold maxLen; omega)
    rw [Dk.restart_down _ _ hdn] at n4
    have KX := K2
    have HRX := HR2
    have HROWX := Lib.hid row
    have colx := col
    have HDX := Lib.hid d2
    clear d2 row hW2 hgw gd K2 HR2 col
    go_wp2_with fail
    rw [← HW2.out, ← HGW.out]
    refine n4.mono ?_
    rintro e w4 ⟨c4, rfl, d4, h4⟩
    have K4 := Lib.hid (KX.chg h4 (by decide))
    have D4 := Lib.hid d4
    have R4 := Lib.hid (HRX.out.keep h4.size (keepC h4 (by decide)))
    have ROW4 := Lib.hid ((h4.block _ (Array.getElem?_eq_some_iff.1 HROWX.out).1 (by rw [colx]; decide)).trans HROWX.out)
    clear n4 d4 h4 HDX HRX HROWX KX colx
    obtain ⟨x0, _, _⟩ := row_cells3 ROW4.out
    go_wp2_with fail
    have hxl : xs.length ≤ 65536 := R4.out.2.2
    go_loopw [8] (fun iv wr => ∃ i : Nat, iv = .int .i64 i ∧ i ≤ xs.length ∧ Hid (Below w4.heap.size w4 wr)) (fun iv _ => xs.length - (RowKit.intOf iv).toNat)
    case atStart => exact ⟨0, rfl, Nat.zero_le _, Lib.hid (Below.refl _ _)⟩
    case round =>
      obtain ⟨i, rfl, hi, HB⟩ := hrel
      have x0 := (HB.out.cell (p := ⟨gw, 0, none⟩) (Array.getElem?_eq_some_iff.1 ROW4.out).1).trans x0
      by_cases hlt : i < xs.length
      · obtain ⟨x, hx⟩ : ∃ x, xs[i]? = some x := ⟨_, List.getElem?_eq_getElem hlt⟩
        have hfi : D.fs[i]? = some (x.nm, x.f) := by rw [HXS.out, List.getElem?_map, hx]; rfl
        obtain ⟨sa', sc', hv, -, hat⟩ := (R4.out.below HB.out).at
        injection hv with e1 _ e3
        subst e1 e3
        obtain ⟨rg, rfl, hrg, y0, y1, y2, hX⟩ := hat i x hx
        have hpos : ∀ w ∈ x.f.pend, 0 < w.b.length := by
          intro w hw
          obtain ⟨j, hj⟩ := List.getElem?_of_mem hw
          have hjl := (List.getElem?_eq_some_iff.1 hj).1
          exact (hX.wr.2 j w _ hj (List.getElem?_eq_getElem (by rw [hX.wr.1]; exact hjl))).2.1
        obtain ⟨f', hr, hle, hge, hps⟩ := Dk.restartFs_file D.fs ch i x.nm x.f hfi hpos
        obtain ⟨_, hff⟩ := Dk.find_place D4.out.rising i _ f' hr
        have hnl := HGD.out.names _ (List.mem_of_getElem? hfi)
        simp only [] at hnl
        have hsz1 : (⟨x.nm.toArray⟩ : ByteArray).size ≤ 9223372036854775807 := by show x.nm.toArray.size ≤ _; simp; omega
        have hrd := dk_Read (D4.out.keepB HB.out) ⟨x.nm.toArray⟩ hsz1
        rw [show (⟨x.nm.toArray⟩ : ByteArray).data.toList = x.nm by simp] at hrd
        have hread : Dk.D.read ⟨(Dk.restartFs D.fs ch).1, -1, false⟩ x.nm = (f'.contents, 0) := by unfold Dk.D.read; rw [if_neg (by simp)]; simp only [hff]
        rw [hread] at hrd
        have HRD := Lib.hid hrd
        have HXX := Lib.hid hX
        have HPS := Lib.hid hps
        obtain ⟨da, dc, hdv⟩ := hX.dur.1.form
        obtain ⟨wa, wc, hwv, _⟩ := hX.pend.form
        have HDV := Lib.hid hdv
        have HWV := Lib.hid hwv
        rw [hdv] at y1
        rw [hwv] at y2
        have i1 : (0 : Int) ≤ i := by omega
        have i2 : (i : Int) < xs.length := by omega
        clear hrd hread hr hff hfi hx hat hX hpos hps hdv hwv hnl hsz1
        have HLE := Lib.hid hle
        have HGE := Lib.hid hge
        clear hle hge
        go_wp2_with fail
        refine HRD.out.mono ?_
        rintro e w5 ⟨vb, rfl, hob, hb5⟩
        obtain ⟨b1, b2, rfl⟩ := rf_own_form hob
        have x0 := (hb5.cell (p := ⟨gw, 0, none⟩) (World.block_lt_of_cell? wr _ x0)).trans x0
        have y0 := (hb5.cell (p := ⟨rg, i * 3, none⟩) (World.block_lt_of_cell? wr _ y0)).trans y0
        have y1 := (hb5.cell (p := ⟨rg, i * 3 + 1, none⟩) (World.block_lt_of_cell? wr _ y1)).trans y1
        have y2 := (hb5.cell (p := ⟨rg, i * 3 + 2, none⟩) (World.block_lt_of_cell? wr _ y2)).trans y2
        have HX5 := Lib.hid (HXX.out.below hb5)
        have hct := rf_contents HX5.out
        unfold Re.val at hct
        rw [HDV.out, HWV.out] at hct
        have HCT := Lib.hid hct
        have HOB := Lib.hid hob
        have HB5 := Lib.hid (HB.out.trans (hb5.mono HB.out.size))
        clear hct hob hb5 HRD HXX
        go_wp2_with fail
        refine HCT.out.mono ?_
        rintro e w6 ⟨vw, rfl, how, hb6⟩
        obtain ⟨k1, k2, rfl⟩ := rf_own_form how
        have x0 := (hb6.cell (p := ⟨gw, 0, none⟩) (World.block_lt_of_cell? w5 _ x0)).trans x0
        have y0 := (hb6.cell (p := ⟨rg, i * 3, none⟩) (World.block_lt_of_cell? w5 _ y0)).trans y0
        have y1 := (hb6.cell (p := ⟨rg, i * 3 + 1, none⟩) (World.block_lt_of_cell? w5 _ y1)).trans y1
        have y2 := (hb6.cell (p := ⟨rg, i * 3 + 2, none⟩) (World.block_lt_of_cell? w5 _ y2)).trans y2
        have HX6 := Lib.hid (HX5.out.below hb6)
        have HO6 := Lib.hid (own_block' HOB.out hb6)
        have HB6 := Lib.hid (HB5.out.trans (hb6.mono HB5.out.size))
        have q1 : decide (x.f.contents.length < f'.contents.length) = false := by have := HLE.out; simp; omega
        have q2 : decide (f'.contents.length < x.f.dur.length) = false := by have := HGE.out; simp; omega
        have hsm : f'.contents.length < 1073741824 := by have := HLE.out; have := HX6.out.size; omega
        clear how hb6 HCT HX5 HOB HB5
        go_wp2_with fail
        go_loopw [11] (fun iv wr => ∃ k : Nat, iv = .int .i64 k ∧ k ≤ f'.contents.length ∧ Hid (Below w6.heap.size w6 wr)) (fun iv _ => f'.contents.length - (RowKit.intOf iv).toNat)
        case atStart => exact ⟨0, rfl, Nat.zero_le _, Lib.hid (Below.refl _ _)⟩
        case round =>
          obtain ⟨k, rfl, hk, HBk⟩ := hrel
          by_cases hkl : k < f'.contents.length
          · have x0 := (HBk.out.cell (p := ⟨gw, 0, none⟩) (World.block_lt_of_cell? w6 _ x0)).trans x0
            have y0 := (HBk.out.cell (p := ⟨rg, i * 3, none⟩) (World.block_lt_of_cell? w6 _ y0)).trans y0
            have y1 := (HBk.out.cell (p := ⟨rg, i * 3 + 1, none⟩) (World.block_lt_of_cell? w6 _ y1)).trans y1
            have y2 := (HBk.out.cell (p := ⟨rg, i * 3 + 2, none⟩) (World.block_lt_of_cell? w6 _ y2)).trans y2
            obtain ⟨bg, bc, hbv, _, hbgl⟩ := HO6.out.form (by omega)
            injection hbv with e1 _ e3
            subst e1 e3
            obtain ⟨z, hz⟩ : ∃ z : UInt8, f'.contents[k]? = some z := ⟨_, List.getElem?_eq_getElem hkl⟩
            have l0 := HO6.out.cellAt k (by omega)
            rw [dkCells_at _ _ _ hz] at l0
            have l1 := (HBk.out.cell (p := ⟨bg, k, none⟩) hbgl).trans l0
            have hpo := rf_possible (HX6.out.below HBk.out.drew) k z (by omega) (HPS.out k z hz)
            unfold Re.val at hpo
            rw [HDV.out, HWV.out] at hpo
            have HPO := Lib.hid hpo
            have j1 : (0 : Int) ≤ k := by omega
            have j2 : (k : Int) < f'.contents.length := by omega
            clear hpo hz l0
            have HBD := Lib.hid HBk.out.drew
            go_wp2_with fail
            refine wp_region_still_tail 10 (by kernel_rfl) (by kernel_rfl) ?_
            simp only [List.take_succ_cons, List.take_zero, List.drop_succ_cons, List.drop_zero]
            change wpStill _ _ (World.drew _) _ _ _
            repeat still_step
            refine wpStill_nil ?_
            go_wp2_with fail
            refine HPO.out.mono ?_
            rintro e w9 ⟨rfl, hb9⟩
            have HB9 := Lib.hid (HBD.out.trans (hb9.mono HBD.out.size))
            clear hb9
            go_wp2_with fail
            go_roundw
            case rel => exact ⟨k + 1, by go_num, by omega, HB9⟩
            case measure => simp [RowKit.intOf]; omega
          · obtain rfl : k = f'.contents.length := by omega
            go_wp2_with fail
            exact ⟨⟨i + 1, by go_num, by omega, Lib.hid (HB6.out.trans (HBk.out.mono HB6.out.size))⟩, by simp [RowKit.intOf]; omega⟩
      · obtain rfl : i = xs.length := by omega
        go_wp2_with fail
        have k0 := K4.out.1.trans (HB.out.mono K4.out.1.size)
        refine (dk_known wr).mono ?_
        rintro e w7 ⟨rfl, b7⟩
        go_wp2_with fail
        go_ret
        exact ⟨rfl, k0.trans (b7.mono k0.size)⟩
  | false =>
    rw [hdn] at hdw
    rw [hdw] at hW2 row ⊢
    have HW2 := Lib.hid hW2
    have HGW := Lib.hid hgw
    have n3 := dk_Crash d2
    rw [Dk.crash_up _ hdn] at n3
    have HROW := Lib.hid row
    clear d2 row hW2 hgw
    go_wp2_with fail
    rw [← HW2.out, ← HGW.out]
    refine n3.mono ?_
    rintro e wx ⟨cx, rfl, dx, hx⟩
    have KX := K2.chg hx (by decide)
    have HRX := Lib.hid (HR2.out.keep hx.size (keepC hx (by decide)))
    have HROWX := Lib.hid ((hx.block _ (Array.getElem?_eq_some_iff.1 HROW.out).1 (by rw [col]; decide)).trans HROW.out)
    have colx := (hx.col _ (Array.getElem?_eq_some_iff.1 HROW.out).1).trans col
    have n4 := dk_Restart dx _ ch (RdC.of_kn' KX (HCH.out.below KX.1)) (by omega) (by show D.fs.length ≤ _; have := gd.many; omega) (fun p hp => by have := gd.names p hp; unfold maxLen; omega)
    rw [Dk.restart_down _ _ (show (⟨D.fs, D.bud, true⟩ : Dk.D).down = true from rfl)] at n4
    have HDX := Lib.hid dx
    clear n3 hx dx K2 HR2 HROW col gd
    go_wp2_with fail
    refine n4.mono ?_
    rintro e w4 ⟨c4, rfl, d4, h4⟩
    have K4 := Lib.hid (KX.chg h4 (by decide))
    have D4 := Lib.hid d4
    have R4 := Lib.hid (HRX.out.keep h4.size (keepC h4 (by decide)))
    have ROW4 := Lib.hid ((h4.block _ (Array.getElem?_eq_some_iff.1 HROWX.out).1 (by rw [colx]; decide)).trans HROWX.out)
    clear n4 d4 h4 HDX HRX HROWX KX colx
    obtain ⟨x0, _, _⟩ := row_cells3 ROW4.out
    go_wp2_with fail
    have hxl : xs.length ≤ 65536 := R4.out.2.2
    go_loopw [8] (fun iv wr => ∃ i : Nat, iv = .int .i64 i ∧ i ≤ xs.length ∧ Hid (Below w4.heap.size w4 wr)) (fun iv _ => xs.length - (RowKit.intOf iv).toNat)
    case atStart => exact ⟨0, rfl, Nat.zero_le _, Lib.hid (Below.refl _ _)⟩
    case round =>
      obtain ⟨i, rfl, hi, HB⟩ := hrel
      have x0 := (HB.out.cell (p := ⟨gw, 0, none⟩) (Array.getElem?_eq_some_iff.1 ROW4.out).1).trans x0
      by_cases hlt : i < xs.length
      · obtain ⟨x, hx⟩ : ∃ x, xs[i]? = some x := ⟨_, List.getElem?_eq_getElem hlt⟩
        have hfi : D.fs[i]? = some (x.nm, x.f) := by rw [HXS.out, List.getElem?_map, hx]; rfl
        obtain ⟨sa', sc', hv, -, hat⟩ := (R4.out.below HB.out).at
        injection hv with e1 _ e3
        subst e1 e3
        obtain ⟨rg, rfl, hrg, y0, y1, y2, hX⟩ := hat i x hx
        have hpos : ∀ w ∈ x.f.pend, 0 < w.b.length := by
          intro w hw
          obtain ⟨j, hj⟩ := List.getElem?_of_mem hw
          have hjl := (List.getElem?_eq_some_iff.1 hj).1
          exact (hX.wr.2 j w _ hj (List.getElem?_eq_getElem (by rw [hX.wr.1]; exact hjl))).2.1
        obtain ⟨f', hr, hle, hge, hps⟩ := Dk.restartFs_file D.fs ch i x.nm x.f hfi hpos
        obtain ⟨_, hff⟩ := Dk.find_place D4.out.rising i _ f' hr
        have hnl := HGD.out.names _ (List.mem_of_getElem? hfi)
        simp only [] at hnl
        have hsz1 : (⟨x.nm.toArray⟩ : ByteArray).size ≤ 9223372036854775807 := by show x.nm.toArray.size ≤ _; simp; omega
        have hrd := dk_Read (D4.out.keepB HB.out) ⟨x.nm.toArray⟩ hsz1
        rw [show (⟨x.nm.toArray⟩ : ByteArray).data.toList = x.nm by simp] at hrd
        have hread : Dk.D.read ⟨(Dk.restartFs D.fs ch).1, -1, false⟩ x.nm = (f'.contents, 0) := by unfold Dk.D.read; rw [if_neg (by simp)]; simp only [hff]
        rw [hread] at hrd
        have HRD := Lib.hid hrd
        have HXX := Lib.hid hX
        have HPS := Lib.hid hps
        obtain ⟨da, dc, hdv⟩ := hX.dur.1.form
        obtain ⟨wa, wc, hwv, _⟩ := hX.pend.form
        have HDV := Lib.hid hdv
        have HWV := Lib.hid hwv
        rw [hdv] at y1
        rw [hwv] at y2
        have i1 : (0 : Int) ≤ i := by omega
        have i2 : (i : Int) < xs.length := by omega
        clear hrd hread hr hff hfi hx hat hX hpos hps hdv hwv hnl hsz1
        have HLE := Lib.hid hle
        have HGE := Lib.hid hge
        clear hle hge
        go_wp2_with fail
        refine HRD.out.mono ?_
        rintro e w5 ⟨vb, rfl, hob, hb5⟩
        obtain ⟨b1, b2, rfl⟩ := rf_own_form hob
        have x0 := (hb5.cell (p := ⟨gw, 0, none⟩) (World.block_lt_of_cell? wr _ x0)).trans x0
        have y0 := (hb5.cell (p := ⟨rg, i * 3, none⟩) (World.block_lt_of_cell? wr _ y0)).trans y0
        have y1 := (hb5.cell (p := ⟨rg, i * 3 + 1, none⟩) (World.block_lt_of_cell? wr _ y1)).trans y1
        have y2 := (hb5.cell (p := ⟨rg, i * 3 + 2, none⟩) (World.block_lt_of_cell? wr _ y2)).trans y2
        have HX5 := Lib.hid (HXX.out.below hb5)
        have hct := rf_contents HX5.out
        unfold Re.val at hct
        rw [HDV.out, HWV.out] at hct
        have HCT := Lib.hid hct
        have HOB := Lib.hid hob
        have HB5 := Lib.hid (HB.out.trans (hb5.mono HB.out.size))
        clear hct hob hb5 HRD HXX
        go_wp2_with fail
        refine HCT.out.mono ?_
        rintro e w6 ⟨vw, rfl, how, hb6⟩
        obtain ⟨k1, k2, rfl⟩ := rf_own_form how
        have x0 := (hb6.cell (p := ⟨gw, 0, none⟩) (World.block_lt_of_cell? w5 _ x0)).trans x0
        have y0 := (hb6.cell (p := ⟨rg, i * 3, none⟩) (World.block_lt_of_cell? w5 _ y0)).trans y0
        have y1 := (hb6.cell (p := ⟨rg, i * 3 + 1, none⟩) (World.block_lt_of_cell? w5 _ y1)).trans y1
        have y2 := (hb6.cell (p := ⟨rg, i * 3 + 2, none⟩) (World.block_lt_of_cell? w5 _ y2)).trans y2
        have HX6 := Lib.hid (HX5.out.below hb6)
        have HO6 := Lib.hid (own_block' HOB.out hb6)
        have HB6 := Lib.hid (HB5.out.trans (hb6.mono HB5.out.size))
        have q1 : decide (x.f.contents.length < f'.contents.length) = false := by have := HLE.out; simp; omega
        have q2 : decide (f'.contents.length < x.f.dur.length) = false := by have := HGE.out; simp; omega
        have hsm : f'.contents.length < 1073741824 := by have := HLE.out; have := HX6.out.size; omega
        clear how hb6 HCT HX5 HOB HB5
        go_wp2_with fail
        go_loopw [11] (fun iv wr => ∃ k : Nat, iv = .int .i64 k ∧ k ≤ f'.contents.length ∧ Hid (Below w6.heap.size w6 wr)) (fun iv _ => f'.contents.length - (RowKit.intOf iv).toNat)
        case atStart => exact ⟨0, rfl, Nat.zero_le _, Lib.hid (Below.refl _ _)⟩
        case round =>
          obtain ⟨k, rfl, hk, HBk⟩ := hrel
          by_cases hkl : k < f'.contents.length
          · have x0 := (HBk.out.cell (p := ⟨gw, 0, none⟩) (World.block_lt_of_cell? w6 _ x0)).trans x0
            have y0 := (HBk.out.cell (p := ⟨rg, i * 3, none⟩) (World.block_lt_of_cell? w6 _ y0)).trans y0
            have y1 := (HBk.out.cell (p := ⟨rg, i * 3 + 1, none⟩) (World.block_lt_of_cell? w6 _ y1)).trans y1
            have y2 := (HBk.out.cell (p := ⟨rg, i * 3 + 2, none⟩) (World.block_lt_of_cell? w6 _ y2)).trans y2
            obtain ⟨bg, bc, hbv, _, hbgl⟩ := HO6.out.form (by omega)
            injection hbv with e1 _ e3
            subst e1 e3
            obtain ⟨z, hz⟩ : ∃ z : UInt8, f'.contents[k]? = some z := ⟨_, List.getElem?_eq_getElem hkl⟩
            have l0 := HO6.out.cellAt k (by omega)
            rw [dkCells_at _ _ _ hz] at l0
            have l1 := (HBk.out.cell (p := ⟨bg, k, none⟩) hbgl).trans l0
            have hpo := rf_possible (HX6.out.below HBk.out.drew) k z (by omega) (HPS.out k z hz)
            unfold Re.val at hpo
            rw [HDV.out, HWV.out] at hpo
            have HPO := Lib.hid hpo
            have j1 : (0 : Int) ≤ k := by omega
            have j2 : (k : Int) < f'.contents.length := by omega
            clear hpo hz l0
            have HBD := Lib.hid HBk.out.drew
            go_wp2_with fail
            refine wp_region_still_tail 10 (by kernel_rfl) (by kernel_rfl) ?_
            simp only [List.take_succ_cons, List.take_zero, List.drop_succ_cons, List.drop_zero]
            change wpStill _ _ (World.drew _) _ _ _
            repeat still_step
            refine wpStill_nil ?_
            go_wp2_with fail
            refine HPO.out.mono ?_
            rintro e w9 ⟨rfl, hb9⟩
            have HB9 := Lib.hid (HBD.out.trans (hb9.mono HBD.out.size))
            clear hb9
            go_wp2_with fail
            go_roundw
            case rel => exact ⟨k + 1, by go_num, by omega, HB9⟩
            case measure => simp [RowKit.intOf]; omega
          · obtain rfl : k = f'.contents.length := by omega
            go_wp2_with fail
            exact ⟨⟨i + 1, by go_num, by omega, Lib.hid (HB6.out.trans (HBk.out.mono HB6.out.size))⟩, by simp [RowKit.intOf]; omega⟩
      · obtain rfl : i = xs.length := by omega
        go_wp2_with fail
        have k0 := K4.out.1.trans (HB.out.mono K4.out.1.size)
        refine (dk_known wr).mono ?_
        rintro e w7 ⟨rfl, b7⟩
        go_wp2_with fail
        go_ret
        exact ⟨rfl, k0.trans (b7.mono k0.size)⟩

end Go.Proofs.YtegahpgnmeobhaaGreatDoor
