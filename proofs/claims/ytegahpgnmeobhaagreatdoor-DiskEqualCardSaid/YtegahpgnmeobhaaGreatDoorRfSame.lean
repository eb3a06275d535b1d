/-
  girolaw10.same: true wherever the disk and the reference keep the same.
-/
import Derived.Test.YtegahpgnmeobhaaGreatDoorRfDo
import Derived.Test.YtegahpgnmeobhaaGreatDoorRfGood
import Derived.Test.YtegahpgnmeobhaaGreatDoorDkApp1
namespace Go.Proofs.YtegahpgnmeobhaaGreatDoor
open Go.RowKit

theorem DiskAt.rising {i : Nat} {c : Nat → Nat} {W : World} {g : Nat} {D : Dk.D} (h : DiskAt i c W g D) : Dk.Rising D.fs := by
  obtain ⟨m, xs, h⟩ := h
  exact h.rising_fs
theorem DiskAt.keepB {i : Nat} {c : Nat → Nat} {W W' : World} {g : Nat} {D : Dk.D} (h : DiskAt i c W g D) (hb : Below W.heap.size W W') : DiskAt i c W' g D :=
  h.chg (Chg.of_below_same (i := i + 1) hb) (by omega) (by omega)
theorem Dk.find_at {fs : List (Dk.Bs × Dk.Fl)} (h : Dk.Rising fs) (k : Nat) (hk : k < fs.length) : Dk.find (fs[k]).1 fs = some (fs[k]).2 := by
  have hp := Dk.pos_of (n := (fs[k]).1) (fs := fs) k hk rfl (fun j hj => by
    have := (List.pairwise_iff_getElem.1 h.ne) j k (by omega) hk hj
    exact this)
  obtain ⟨f, h1, h2, _⟩ := Dk.pos_some hp
  rw [List.getElem?_eq_getElem hk] at h1
  have e := Option.some.inj h1
  rw [h2]
  exact congrArg some (congrArg Prod.snd e).symm

set_option maxRecDepth 100000 in
set_option maxHeartbeats 4000000 in
theorem rf_same {i : Nat} {c : Nat → Nat} {W : World} {g : Nat} {v : Value} {D : Dk.D} (h : DiskAt i c W g D) (hr : RfD c W v D.norm) (hmany : D.fs.length ≤ 1000) (hnm : ∀ p ∈ D.fs, p.1.length ≤ 64) :
    Calls Tryz.prog 30 #[.pointer (some ⟨g, 0, none⟩), v] W fun e W' => e = .returned (.bool true) ∧ Below W.heap.size W W' := by
  obtain ⟨sv, xs, rfl, hfs, hA⟩ := hr
  obtain ⟨ao, cap, rfl, hcap, hat⟩ := hA.at
  have hR := h.rising
  have hl := dk_List (W := W.alloc (.cells #[.slice ao xs.length cap, .int .i64 D.norm.bud, .bool D.norm.down] 27)) (h.keepB ((Below.refl _ _).alloc (Nat.le_refl _) _)) (by omega)
  have hrow := heap_alloc_new W (.cells #[.slice ao xs.length cap, .int .i64 D.norm.bud, .bool D.norm.down] 27)
  have hb01 : Below W.heap.size W (W.alloc (.cells #[.slice ao xs.length cap, .int .i64 D.norm.bud, .bool D.norm.down] 27)) := (Below.refl _ _).alloc (Nat.le_refl _) _
  have hs01 : (W.alloc (.cells #[.slice ao xs.length cap, .int .i64 D.norm.bud, .bool D.norm.down] 27)).heap.size = W.heap.size + 1 := by simp
  generalize hW1 : W.alloc (.cells #[.slice ao xs.length cap, .int .i64 D.norm.bud, .bool D.norm.down] 27) = W1 at *
  have HW := Lib.hid hW1
  have HL := Lib.hid hl
  have HROW := Lib.hid hrow
  have HB01 := Lib.hid hb01
  have HS01 := Lib.hid hs01
  have HD := Lib.hid h
  have HA := Lib.hid hA
  have HAT := Lib.hid hat
  have HR := Lib.hid hR
  have HNM := Lib.hid hnm
  have HFS := Lib.hid hfs
  clear hl hrow hb01 hs01 h hA hat hR hnm hfs hW1
  unfold rfVal
  cases hdn : D.down with
  | true =>
    have hbd0 : D.norm.bud = 0 := by unfold Dk.D.norm; rw [if_pos hdn]
    have hnd : D.norm.down = true := by rw [Dk.D.norm_down, hdn]
    have hw := HW.out
    have hrow := HROW.out
    rw [hbd0, hnd] at hw hrow
    clear HW HROW
    have HW := Lib.hid hw
    have HROW := Lib.hid hrow
    have HDN := Lib.hid hdn
    rw [hbd0, hnd]
    clear hw hrow hdn hbd0 hnd
    go_enter Tryz.func30, Tryz.ntmps30
    go_wp2_with fail
    rw [HW.out]
    refine HL.out.mono ?_
    rintro e w2 ⟨vl, rfl, hol, hb2⟩
    obtain ⟨la, lc, rfl⟩ := rf_own_form hol
    have r2 := (hb2.block W.heap.size (by rw [HS01.out]; omega)).trans HROW.out
    have d1 : w2.cell? ⟨W.heap.size, 1, none⟩ = some (.int .i64 0) := by rw [cell_of_row _ _ _ _ _ _ r2]; rfl
    have d2 : w2.cell? ⟨W.heap.size, 2, none⟩ = some (.bool true) := by rw [cell_of_row _ _ _ _ _ _ r2]; rfl
    have hb02 := HB01.out.trans (hb2.mono HB01.out.size)
    have hdq : ∀ n, Calls Tryz.prog 31 #[.pointer (some ⟨g, 0, none⟩)] (w2.drewN n) fun e W' => e = .returned (.bool true) ∧ W' = w2.drewN n := fun n => (dk_Down (HD.out.keepB (dk_below_drewN hb02 n))).mono fun e w' ⟨he, hw⟩ => ⟨by rw [he, HDN.out], hw.symm⟩
    have hbq : ∀ n, Calls Tryz.prog 33 #[.pointer (some ⟨g, 0, none⟩)] (w2.drewN n) fun e W' => e = .returned (.int .i64 0) ∧ W' = w2.drewN n := fun n => (dk_Budget (HD.out.keepB (dk_below_drewN hb02 n))).mono fun e w' ⟨he, hw⟩ => ⟨by rw [he, Dk.D.budget, HDN.out]; rfl, hw.symm⟩
    have HDQ := Lib.hid hdq
    have HBQ := Lib.hid hbq
    have HB02 := Lib.hid hb02
    have hnl : D.names.length = 0 := by unfold Dk.D.names; rw [HDN.out]; rfl
    rw [hnl]
    clear hol hb2 hb02 r2 hdq hbq hnl
    go_wp2_with fail
    go_quiet ((first | (go_at_call 31; exact Calls.quiet_of_same (HDQ.out _)) | (go_at_call 33; exact Calls.quiet_of_same (HBQ.out _))))
    go_wp2_with fail
    go_ret
    exact ⟨rfl, dk_below_drewN HB02.out _⟩
  | false =>
    have hnorm := Dk.D.norm_up hdn
    rw [hnorm] at HW HROW HFS ⊢
    have hw := HW.out
    have hrow := HROW.out
    rw [hdn] at hw hrow
    clear HW HROW
    have HW := Lib.hid hw
    have HROW := Lib.hid hrow
    have HDN := Lib.hid hdn
    rw [hdn]
    clear hw hrow hnorm hdn
    go_enter Tryz.func30, Tryz.ntmps30
    go_wp2_with fail
    rw [HW.out]
    refine HL.out.mono ?_
    rintro e w2 ⟨vl, rfl, hol, hb2⟩
    obtain ⟨la, lc, rfl⟩ := rf_own_form hol
    have r2 := (hb2.block W.heap.size (by rw [HS01.out]; omega)).trans HROW.out
    have d0 : w2.cell? ⟨W.heap.size, 0, none⟩ = some (.slice ao xs.length cap) := by rw [cell_of_row _ _ _ _ _ _ r2]; rfl
    have d1 : w2.cell? ⟨W.heap.size, 1, none⟩ = some (.int .i64 D.bud) := by rw [cell_of_row _ _ _ _ _ _ r2]; rfl
    have d2 : w2.cell? ⟨W.heap.size, 2, none⟩ = some (.bool false) := by rw [cell_of_row _ _ _ _ _ _ r2]; rfl
    have hb02 := HB01.out.trans (hb2.mono HB01.out.size)
    have hdq : ∀ n, Calls Tryz.prog 31 #[.pointer (some ⟨g, 0, none⟩)] (w2.drewN n) fun e W' => e = .returned (.bool false) ∧ W' = w2.drewN n := fun n => (dk_Down (HD.out.keepB (dk_below_drewN hb02 n))).mono fun e w' ⟨he, hw⟩ => ⟨by rw [he, HDN.out], hw.symm⟩
    have hbq : ∀ n, Calls Tryz.prog 33 #[.pointer (some ⟨g, 0, none⟩)] (w2.drewN n) fun e W' => e = .returned (.int .i64 D.bud) ∧ W' = w2.drewN n := fun n => (dk_Budget (HD.out.keepB (dk_below_drewN hb02 n))).mono fun e w' ⟨he, hw⟩ => ⟨by rw [he, Dk.D.budget, HDN.out]; rfl, hw.symm⟩
    have HDQ := Lib.hid hdq
    have HBQ := Lib.hid hbq
    have HOL := Lib.hid hol
    have HB2 := Lib.hid hb2
    have HB02 := Lib.hid hb02
    have hnl : D.names.length = xs.length := by unfold Dk.D.names; rw [HDN.out]; simp; rw [HFS.out, List.length_map]
    rw [hnl]
    have HNL := Lib.hid hnl
    clear hol hb2 hb02 r2 hdq hbq hnl
    go_wp2_with fail
    go_quiet ((first | (go_at_call 31; exact Calls.quiet_of_same (HDQ.out _)) | (go_at_call 33; exact Calls.quiet_of_same (HBQ.out _))))
    go_wp2_with fail
    have HBq : Hid (Below w2.heap.size w2 (w2.drewN nq)) := Lib.hid (dk_below_drewN (Below.refl _ _) nq)
    generalize w2.drewN nq = wq at *
    clear HDQ HBQ d0 d1 d2
    go_loopw [6] (fun iv wr => ∃ i : Nat, iv = .int .i64 i ∧ i ≤ xs.length ∧ Hid (Below w2.heap.size w2 wr)) (fun iv _ => xs.length - (RowKit.intOf iv).toNat)
    case atStart => exact ⟨0, rfl, Nat.zero_le _, HBq⟩
    case round =>
      obtain ⟨k, rfl, hk, HB⟩ := hrel
      clear HBq
      by_cases hlt : k < xs.length
      · have hfk : D.fs[k]? = some (xs[k].nm, xs[k].f) := by rw [HFS.out, List.getElem?_map, List.getElem?_eq_getElem hlt]; rfl
        have hkf : k < D.fs.length := by rw [HFS.out, List.length_map]; exact hlt
        have hfe : D.fs[k] = (xs[k].nm, xs[k].f) := by rw [List.getElem?_eq_getElem hkf] at hfk; exact Option.some.inj hfk
        have hfind : Dk.find xs[k].nm D.fs = some xs[k].f := by have := Dk.find_at HR.out k hkf; rw [hfe] at this; exact this
        have hn64 : xs[k].nm.length ≤ 64 := by have := HNM.out _ (List.getElem_mem hkf); rw [hfe] at this; exact this
        obtain ⟨lg, lc', hlv, _, hlgl⟩ := HOL.out.form (by rw [HNL.out]; omega)
        injection hlv with h1 _ h3
        subst h1 h3
        have hb0r := HB02.out.trans (HB.out.mono HB02.out.size)
        have lcell : wr.cell? ⟨lg, k, none⟩ = some (.string ⟨xs[k].nm.toArray⟩) := by
          have h1 := HOL.out.cellAt k (by rw [HNL.out]; omega)
          refine (HB.out.cell (p := ⟨lg, k, none⟩) hlgl).trans (h1.trans ?_)
          unfold dkNames Dk.D.names
          rw [HDN.out]
          simp only [Bool.false_eq_true, if_false]
          rw [List.getElem?_map, List.getElem?_map, hfk]
          rfl
        have hs1 : (⟨xs[k].nm.toArray⟩ : ByteArray).data.toList = xs[k].nm := by simp
        have hsz1 : (⟨xs[k].nm.toArray⟩ : ByteArray).size ≤ 9223372036854775807 := by show xs[k].nm.toArray.size ≤ _; simp; omega
        have hrd := dk_Read (HD.out.keepB hb0r) ⟨xs[k].nm.toArray⟩ hsz1
        rw [hs1] at hrd
        have hread : D.read xs[k].nm = (xs[k].f.contents, 0) := by unfold Dk.D.read; rw [HDN.out, hfind]; rfl
        rw [hread] at hrd
        have HRD := Lib.hid hrd
        have HSZ1 := Lib.hid hsz1
        have HFIND := Lib.hid hfind
        have HB0r := Lib.hid hb0r
        have i1 : (0 : Int) ≤ k := by omega
        have i2 : (k : Int) < xs.length := by omega
        clear hrd hfk hfe hfind hs1 hsz1 hread hn64
        go_wp2_with fail
        refine HRD.out.mono ?_
        rintro e w3 ⟨vb, rfl, hob, hb3⟩
        obtain ⟨b1, b2, rfl⟩ := rf_own_form hob
        have HOB := Lib.hid hob
        have hb03 := HB0r.out.trans (hb3.mono HB0r.out.size)
        have lcell3 := (hb3.cell (p := ⟨lg, k, none⟩) (World.block_lt_of_cell? wr _ lcell)).trans lcell
        have hsi := dk_Size (HD.out.keepB hb03) ⟨xs[k].nm.toArray⟩ HSZ1.out
        rw [show (⟨xs[k].nm.toArray⟩ : ByteArray).data.toList = xs[k].nm by simp] at hsi
        have hsize : D.size xs[k].nm = (xs[k].f.contents.length, 0) := by unfold Dk.D.size; rw [HDN.out, HFIND.out]; rfl
        rw [hsize] at hsi
        have HSI := Lib.hid hsi
        have HB3 := Lib.hid hb3
        have HB03 := Lib.hid hb03
        clear hsi hb3 hb03 hob hsize lcell
        go_wp2_with fail
        refine HSI.out.mono ?_
        rintro e w4 ⟨rfl, hb4⟩
        have lcell4 := (hb4.cell (p := ⟨lg, k, none⟩) (World.block_lt_of_cell? w3 _ lcell3)).trans lcell3
        have hb04 := HB03.out.trans (hb4.mono HB03.out.size)
        have hb24 := HB.out.trans ((HB3.out.trans (hb4.mono HB3.out.size)).mono HB.out.size)
        have hs2 := HB2.out.size
        have r4 := (hb24.block W.heap.size (by have := HS01.out; omega)).trans ((HB2.out.block W.heap.size (by have := HS01.out; omega)).trans HROW.out)
        have d0 : w4.cell? ⟨W.heap.size, 0, none⟩ = some (.slice ao xs.length cap) := by rw [cell_of_row _ _ _ _ _ _ r4]; rfl
        obtain ⟨rg, rfl, hrg, x1, x2, x3, hX0⟩ := HAT.out k xs[k] (List.getElem?_eq_getElem hlt)
        have y1 := (hb04.cell (p := ⟨rg, k * 3, none⟩) hrg).trans x1
        have y2 := (hb04.cell (p := ⟨rg, k * 3 + 1, none⟩) hrg).trans x2
        have y3 := (hb04.cell (p := ⟨rg, k * 3 + 2, none⟩) hrg).trans x3
        have hX := hX0.below hb04
        obtain ⟨da, dc, hdv⟩ := hX.dur.1.form
        obtain ⟨wa, wc, hwv, _⟩ := hX.pend.form
        have hct := rf_contents hX
        unfold Re.val at hct
        rw [hdv, hwv] at hct
        rw [hdv] at y2
        rw [hwv] at y3
        have HCT := Lib.hid hct
        have HB4 := Lib.hid hb4
        have HB04 := Lib.hid hb04
        have HB24 := Lib.hid hb24
        have HR4 := Lib.hid r4
        have HWC := Lib.hid (show w4.cell? ⟨rg, k * 3 + 2, none⟩ = _ from y3)
        clear hct hb4 hb04 hb24 r4 x1 x2 x3 hX hX0 hdv hwv lcell3
        go_wp2_with fail
        refine HCT.out.mono ?_
        rintro e w5 ⟨vw, rfl, how, hb5⟩
        obtain ⟨c1, c2, rfl⟩ := rf_own_form how
        have hb05 := HB04.out.trans (hb5.mono HB04.out.size)
        have hb25 := HB24.out.trans (hb5.mono HB24.out.size)
        have e1 := (hb5.cell (p := ⟨lg, k, none⟩) (World.block_lt_of_cell? w4 _ lcell4)).trans lcell4
        have e2 := (hb5.cell (p := ⟨W.heap.size, 0, none⟩) (World.block_lt_of_cell? w4 _ d0)).trans d0
        have e3 := (hb5.cell (p := ⟨rg, k * 3, none⟩) (World.block_lt_of_cell? w4 _ y1)).trans y1
        have e4 := (hb5.cell (p := ⟨rg, k * 3 + 2, none⟩) (World.block_lt_of_cell? w4 _ y3)).trans y3
        have q1 := dk_conv ((RdB.of_own HOB.out).below (HB4.out.trans (hb5.mono HB4.out.size))) w5.drew rfl
        have q2 := dk_conv (RdB.of_own how) w5.drew rfl
        have hpn := dk_Pending (HD.out.keepB hb05.drew) ⟨xs[k].nm.toArray⟩ HSZ1.out
        rw [show (⟨xs[k].nm.toArray⟩ : ByteArray).data.toList = xs[k].nm by simp] at hpn
        have hpend : D.pending xs[k].nm = xs[k].f.pend.length := by unfold Dk.D.pending; rw [HDN.out, HFIND.out]; rfl
        rw [hpend] at hpn
        have hpn2 : Calls Tryz.prog 22 #[.pointer (some ⟨g, 0, none⟩), .string ⟨xs[k].nm.toArray⟩] w5.drew fun e w' => e = .returned (.int .i64 xs[k].f.pend.length) ∧ w' = w5.drew := hpn.mono (fun _ _ h => ⟨h.1, h.2.symm⟩)
        have HPN := Lib.hid hpn2
        clear hpn2
        have HB25 := Lib.hid hb25
        clear hpn hpend hb05 hb25 how hb5 d0 lcell4 y1 y2 y3
        go_wp2_with fail
        refine wp_region_still_lit (by kernel_rfl) (by kernel_rfl) ?_
        change wpStill _ _ (World.drew _) _ _ _
        repeat still_step
        still_call HPN.out
        repeat still_step
        refine wpStill_nil ?_
        go_wp2_with fail
        refine ⟨⟨k + 1, by go_num, by omega, Lib.hid HB25.out.drew⟩, by simp [RowKit.intOf]; omega⟩
      · obtain rfl : k = xs.length := by omega
        go_wp2_with fail
        go_ret
        exact ⟨rfl, HB02.out.trans (HB.out.mono HB02.out.size)⟩

end Go.Proofs.YtegahpgnmeobhaaGreatDoor
