/-
  DiskRestart: the walk.
-/
import Derived.Test.YtegahpgnmeobhaaGreatDoorRun
import Derived.Test.YtegahpgnmeobhaaGreatDoorLawsPlain
namespace Go.Proofs.YtegahpgnmeobhaaGreatDoor
open Go.RowKit

theorem RunCtx.first (W : World) (i j : Nat) (hi : i ≠ 0) (hj : j ≠ 0) (hij : i ≠ j) : RunCtx W W i j (fun _ => 0) :=
  ⟨hi, hj, hij, fun _ _ => ⟨fun e => hi e.symm, fun e => hj e.symm⟩, Below.refl _ _, fun _ _ => rfl⟩

namespace Dk
theorem restart_down (d : D) (ch : Bs) (h : d.down = true) : d.restart ch = (⟨(restartFs d.fs ch).1, -1, false⟩, 0) := by unfold D.restart; rw [if_pos h]
theorem restart_up (d : D) (ch : Bs) (h : d.down = false) : d.restart ch = (d, 10) := by unfold D.restart; rw [if_neg (by simp [h])]
theorem crash_up (d : D) (h : d.down = false) : d.crash = (⟨d.fs, d.bud, true⟩, 0) := by unfold D.crash; rw [if_neg (by simp [h])]
theorem Good.restart {k : Nat} {d : D} (h : Good k d) (ch : Bs) : Good (k + 1) (d.restart ch).1 := h.act ⟨9, ⟨#[]⟩, ⟨#[]⟩, 0, ch⟩ (by show (0 : Int) ≤ _; decide)
theorem Good.crash {k : Nat} {d : D} (h : Good k d) : Good (k + 1) d.crash.1 := h.act ⟨8, ⟨#[]⟩, ⟨#[]⟩, 0, []⟩ (by show (0 : Int) ≤ _; decide)
end Dk

set_option maxRecDepth 100000 in
set_option maxHeartbeats 4000000 in
theorem law_restart (W : World) (v0 v1 : Value) (l : List Dk.Raw) (ch : Dk.Bs) (hl : OpsAt W v0 l) (hch : RdB W W.heap.size v1 ch) (hcl : ch.length ≤ 140737488355328) :
    Calls Tryz.prog 7 #[v0, v1] W fun e W' => e = .returned (.bool true) ∧ Below W.heap.size W W' := by
  have n0 := dk_run (RunCtx.first W 1 7 (by decide) (by decide) (by decide)) v0 l hl
  obtain ⟨ca, cc, rfl⟩ := hch.form
  have HCH := Lib.hid hch
  clear hl hch
  go_enter Tryz.func7, Tryz.ntmps7
  go_wp2_with fail
  refine n0.mono ?_
  rintro e W1 ⟨c1, g, v, rfl, d1, r1, gd, b1, cols⟩
  have K1 : Kn W W1 c1 := ⟨b1, cols⟩
  generalize Dk.runD l = D at *
  obtain ⟨sa, sn, sc, rfl⟩ := r1.form
  clear n0 b1 cols
  have hdw : D.norm.down = D.down := Dk.D.norm_down D
  have hA := Chg.alloc (i := 7) (c := c1) (W := W1) (.cells #[.slice sa sn sc, .int .i64 D.norm.bud, .bool D.norm.down] 27) 7
  have d2 := d1.chg hA (by decide) (by decide)
  have r2 := r1.chg hA (by decide)
  have K2 := K1.chg hA (by decide)
  have row := heap_alloc_new W1 (.cells #[.slice sa sn sc, .int .i64 D.norm.bud, .bool D.norm.down] 27)
  have col : pnt c1 W1.heap.size 7 W1.heap.size = 7 := pnt_new (Nat.le_refl _)
  have hgw : W1.heap.size = W1.heap.size := rfl
  obtain ⟨gw, hgw⟩ : ∃ gw, gw = W1.heap.size := ⟨_, rfl⟩
  obtain ⟨W2, hW2⟩ : ∃ W2, W2 = W1.alloc (.cells #[.slice sa sn sc, .int .i64 D.norm.bud, .bool D.norm.down] 27) := ⟨_, rfl⟩
  rw [← hW2] at hA d2 r2 K2 row
  generalize pnt c1 W1.heap.size 7 = c2 at *
  rw [← hgw] at row col
  cases hdn : D.down with
  | true =>
    rw [hdn] at hdw
    rw [hdw] at hW2 row ⊢
    have HW2 := Lib.hid hW2
    have HGW := Lib.hid hgw
    have HROW := Lib.hid row
    have HR2 := Lib.hid r2
    have n3 := dk_Down d2
    have HD2 := Lib.hid d2
    clear hA d2 r2 row hW2 d1 r1 K1 hgw
    go_wp2_with fail
    rw [← HW2.out, ← HGW.out]
    refine n3.mono ?_
    rintro e w' ⟨rfl, rfl⟩
    rw [hdn]
    clear n3
    go_wp2_with fail
    have HDX := HD2
    have KX := K2
    have gx := gd
    have hdx := hdn
    have HRX := HR2
    have HROWX := HROW
    have colx := col
    clear HD2 K2 HR2 HROW
    have n4 := dk_Restart HDX.out _ ch (RdC.of_kn' KX (HCH.out.below KX.1)) (by omega) (by have := gx.many; omega) (fun p hp => by have := gx.names p hp; unfold maxLen; omega)
    rw [Dk.restart_down _ _ hdx] at n4
    have g4 := gx.restart ch
    rw [Dk.restart_down _ _ hdx] at g4
    simp only [] at g4
    refine n4.mono ?_
    rintro e w4 ⟨c4, rfl, d4, h4⟩
    have K4 := Lib.hid (KX.chg h4 (by decide))
    have D4 := Lib.hid d4
    have R4 := Lib.hid (HRX.out.chg h4 (by decide))
    have ROW4 := (h4.block _ (Array.getElem?_eq_some_iff.1 HROWX.out).1 (by rw [colx]; decide)).trans HROWX.out
    obtain ⟨x0, x1, x2⟩ := row_cells3 ROW4
    have G4 := Lib.hid g4
    clear n4 d4 h4 HDX HRX HROWX KX ROW4 g4
    obtain ⟨sv, xs, hv, hxs, hA⟩ := R4.out
    unfold rfVal at hv
    injection hv with hv
    have hsv : Value.slice sa sn sc = sv := by
      have := congrArg (fun l : Array Value => l[0]?) hv
      simpa using this
    subst hsv
    rw [Dk.D.norm_fs] at hxs
    have hA0 := hA.keep (c' := pnt c4 w4.heap.size 0) (Nat.le_refl _) (fun b hb h0 => ⟨rfl, (pnt_old hb).trans h0⟩)
    have n5 := rf_restart (l := ch) (lv := .slice ca ch.length cc) D.norm.bud true (New0.pnt c4 w4.heap.size) hA0 ((RdC.of_kn' K4.out (HCH.out.below K4.out.1)).keep (c' := pnt c4 w4.heap.size 0) (Nat.le_refl _) (fun b hb h0 => ⟨rfl, (pnt_old hb).trans h0⟩)) hcl
    have HXS := Lib.hid hxs
    clear hv hA hA0 R4 hxs
    go_wp2_with fail
    refine n5.mono ?_
    rintro e w5 ⟨sv5, ys, rfl, hys, hA5, b5⟩
    rw [← HXS.out] at hys
    obtain ⟨s1, s3, rfl, _⟩ := hA5.source
    have D5 := ((D4.out.chg (Chg.paint 3 c4 w4 0) (by decide) (by decide)).keepB b5)
    have n6 := rf_same D5 (v := .agg #[.slice s1 ys.length s3, .int .i64 (-1), .bool false]) ⟨_, ys, rfl, hys.symm, hA5⟩ (by have := G4.out.many; omega) G4.out.names
    have K5 := Lib.hid (K4.out.1.trans (b5.mono K4.out.1.size))
    clear n5 b5 hA5 hys D4 G4 HXS K4
    go_wp2_with fail
    refine n6.mono ?_
    rintro e w6 ⟨rfl, b6⟩
    go_wp2_with fail
    refine (dk_known w6).mono ?_
    rintro e w7 ⟨rfl, b7⟩
    go_wp2_with fail
    go_ret
    have k6 := K5.out.trans (b6.mono K5.out.size)
    exact ⟨rfl, k6.trans (b7.mono k6.size)⟩
  | false =>
    rw [hdn] at hdw
    rw [hdw] at hW2 row ⊢
    have HW2 := Lib.hid hW2
    have HGW := Lib.hid hgw
    have HROW := Lib.hid row
    have HR2 := Lib.hid r2
    have n3 := dk_Restart d2 _ ch (RdC.of_kn' K2 (HCH.out.below K2.1)) (by omega) (by have := gd.many; omega) (fun p hp => by have := gd.names p hp; unfold maxLen; omega)
    rw [Dk.restart_up _ _ hdn] at n3
    clear hA d2 r2 row hW2 d1 r1 K1 hgw
    go_wp2_with fail
    rw [← HW2.out, ← HGW.out]
    refine n3.mono ?_
    rintro e w3 ⟨c3, rfl, d3, h3⟩
    have n3b := dk_Crash d3
    rw [Dk.crash_up _ hdn] at n3b
    have K3 := K2.chg h3 (by decide)
    have R3 := HR2.out.chg h3 (by decide)
    have ROW3 := (h3.block _ (Array.getElem?_eq_some_iff.1 HROW.out).1 (by rw [col]; decide)).trans HROW.out
    have col3 := (h3.col _ (Array.getElem?_eq_some_iff.1 HROW.out).1).trans col
    clear n3 d3 h3 K2 HR2 HROW col
    go_wp2_with fail
    refine n3b.mono ?_
    rintro e wx ⟨cx, rfl, dx, hx⟩
    have KX := K3.chg hx (by decide)
    have HRX := Lib.hid (R3.chg hx (by decide))
    have HROWX := Lib.hid ((hx.block _ (Array.getElem?_eq_some_iff.1 ROW3).1 (by rw [col3]; decide)).trans ROW3)
    have colx := (hx.col _ (Array.getElem?_eq_some_iff.1 ROW3).1).trans col3
    have HDX := Lib.hid dx
    have gx := gd.crash
    rw [Dk.crash_up _ hdn] at gx
    simp only [] at gx
    have nd := dk_Down dx
    clear n3b hx dx K3 R3 ROW3 col3
    go_wp2_with fail
    refine nd.mono ?_
    rintro e w' ⟨rfl, rfl⟩
    clear nd
    go_wp2_with fail
    have hdx : (⟨D.fs, D.bud, true⟩ : Dk.D).down = true := rfl
    have n4 := dk_Restart HDX.out _ ch (RdC.of_kn' KX (HCH.out.below KX.1)) (by omega) (by have := gx.many; omega) (fun p hp => by have := gx.names p hp; unfold maxLen; omega)
    rw [Dk.restart_down _ _ hdx] at n4
    have g4 := gx.restart ch
    rw [Dk.restart_down _ _ hdx] at g4
    simp only [] at g4
    refine n4.mono ?_
    rintro e w4 ⟨c4, rfl, d4, h4⟩
    have K4 := Lib.hid (KX.chg h4 (by decide))
    have D4 := Lib.hid d4
    have R4 := Lib.hid (HRX.out.chg h4 (by decide))
    have ROW4 := (h4.block _ (Array.getElem?_eq_some_iff.1 HROWX.out).1 (by rw [colx]; decide)).trans HROWX.out
    obtain ⟨x0, x1, x2⟩ := row_cells3 ROW4
    have G4 := Lib.hid g4
    clear n4 d4 h4 HDX HRX HROWX KX ROW4 g4
    obtain ⟨sv, xs, hv, hxs, hA⟩ := R4.out
    unfold rfVal at hv
    injection hv with hv
    have hsv : Value.slice sa sn sc = sv := by
      have := congrArg (fun l : Array Value => l[0]?) hv
      simpa using this
    subst hsv
    rw [Dk.D.norm_fs] at hxs
    have hA0 := hA.keep (c' := pnt c4 w4.heap.size 0) (Nat.le_refl _) (fun b hb h0 => ⟨rfl, (pnt_old hb).trans h0⟩)
    have n5 := rf_restart (l := ch) (lv := .slice ca ch.length cc) D.norm.bud false (New0.pnt c4 w4.heap.size) hA0 ((RdC.of_kn' K4.out (HCH.out.below K4.out.1)).keep (c' := pnt c4 w4.heap.size 0) (Nat.le_refl _) (fun b hb h0 => ⟨rfl, (pnt_old hb).trans h0⟩)) hcl
    have HXS := Lib.hid hxs
    clear hv hA hA0 R4 hxs
    go_wp2_with fail
    refine n5.mono ?_
    rintro e w5 ⟨sv5, ys, rfl, hys, hA5, b5⟩
    rw [← HXS.out] at hys
    obtain ⟨s1, s3, rfl, _⟩ := hA5.source
    have D5 := ((D4.out.chg (Chg.paint 3 c4 w4 0) (by decide) (by decide)).keepB b5)
    have n6 := rf_same D5 (v := .agg #[.slice s1 ys.length s3, .int .i64 (-1), .bool false]) ⟨_, ys, rfl, hys.symm, hA5⟩ (by have := G4.out.many; omega) G4.out.names
    have K5 := Lib.hid (K4.out.1.trans (b5.mono K4.out.1.size))
    clear n5 b5 hA5 hys D4 G4 HXS K4
    go_wp2_with fail
    refine n6.mono ?_
    rintro e w6 ⟨rfl, b6⟩
    go_wp2_with fail
    refine (dk_known w6).mono ?_
    rintro e w7 ⟨rfl, b7⟩
    go_wp2_with fail
    go_ret
    have k6 := K5.out.trans (b6.mono K5.out.size)
    exact ⟨rfl, k6.trans (b7.mono k6.size)⟩

end Go.Proofs.YtegahpgnmeobhaaGreatDoor
