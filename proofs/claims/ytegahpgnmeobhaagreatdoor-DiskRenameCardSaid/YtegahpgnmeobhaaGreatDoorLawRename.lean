/-
  DiskRename: the walk.
-/
import Derived.Test.YtegahpgnmeobhaaGreatDoorLawRestart
namespace Go.Proofs.YtegahpgnmeobhaaGreatDoor
open Go.RowKit

namespace Dk
theorem size_back_some (fs : List (Bs × Fl)) (n : Bs) (f : Fl) (h : find n fs = some f) : ∃ k, D.size ⟨(restartFs fs []).1, -1, false⟩ n = (k, 0) := by
  have : (find n (restartFs fs []).1).isSome = true := by rw [find_restart, h]; rfl
  obtain ⟨g, hg⟩ := Option.isSome_iff_exists.1 this
  exact ⟨g.contents.length, by unfold D.size; rw [if_neg (by simp)]; simp only [hg]⟩
theorem size_back_none (fs : List (Bs × Fl)) (n : Bs) (h : find n fs = none) : ∃ k, D.size ⟨(restartFs fs []).1, -1, false⟩ n = (k, 9) := by
  have : (find n (restartFs fs []).1).isSome = false := by rw [find_restart, h]; rfl
  have h0 : find n (restartFs fs []).1 = none := by
    cases hx : find n (restartFs fs []).1 with
    | none => rfl
    | some g => rw [hx] at this; cases this
  exact ⟨0, by unfold D.size; rw [if_neg (by simp)]; simp only [h0]⟩
theorem runD_named (l : List Raw) : Named (runD l) := by
  unfold runD
  suffices h : ∀ (l : List Raw) (d : D), Named d → Named (l.foldl (fun d r => (d.act (small r)).1) d) from h _ _ Named.new
  intro l
  induction l with
  | nil => exact fun d h => h
  | cons r l ih => exact fun d h => ih _ (h.act _)

theorem rename_law (fs : List (Bs × Fl)) (a b : Bs) (fa : Fl) (hfa : find a fs = some fa) (hb : valid b = true) :
    ∃ fs', D.rename ⟨fs, -1, false⟩ a b = (⟨fs', -1, false⟩, 0) ∧ find b fs' = some fa ∧ (a ≠ b → find a fs' = none) := by
  refine ⟨ins b fa (del b (del a fs)), ?_, find_ins_self _ _ _ (find_del_self _ _), fun hne => find_ins_ne _ _ _ _ hne (find_del_none _ _ _ (find_del_self _ _))⟩
  have hc : renameCheck ⟨fs, -1, false⟩ a b = 0 := by unfold renameCheck; simp only [hfa, hb]; rfl
  unfold D.rename
  rw [if_neg (by simp), if_neg (by rw [hc]; simp)]
  simp only [hfa]
  unfold D.modify
  rw [if_neg (by simp)]
  rfl
theorem valid_another : valid [97, 110, 111, 116, 104, 101, 114] = true := by kernel_rfl
theorem read_some (fs : List (Bs × Fl)) (n : Bs) (f : Fl) (h : find n fs = some f) : D.read ⟨fs, -1, false⟩ n = (f.contents, 0) := by unfold D.read; rw [if_neg (by simp)]; simp only [h]
theorem read_none (fs : List (Bs × Fl)) (n : Bs) (h : find n fs = none) : D.read ⟨fs, -1, false⟩ n = ([], 9) := by unfold D.read; rw [if_neg (by simp)]; simp only [h]
theorem pending_some (fs : List (Bs × Fl)) (n : Bs) (f : Fl) (h : find n fs = some f) : D.pending ⟨fs, -1, false⟩ n = f.pend.length := by unfold D.pending; rw [if_neg (by simp)]; simp only [h]
theorem size_some (fs : List (Bs × Fl)) (n : Bs) (h : (find n fs).isSome = true) : ∃ k, D.size ⟨fs, -1, false⟩ n = (k, 0) := by
  obtain ⟨f, hf⟩ := Option.isSome_iff_exists.1 h
  exact ⟨f.contents.length, by unfold D.size; rw [if_neg (by simp)]; simp only [hf]⟩
theorem size_none (fs : List (Bs × Fl)) (n : Bs) (h : find n fs = none) : D.size ⟨fs, -1, false⟩ n = (0, 9) := by unfold D.size; rw [if_neg (by simp)]; simp only [h]
end Dk

theorem wrap_small (n : Nat) (h : n < 256) : IntKind.i64.wrap (n : Int) = n := by
  unfold IntKind.wrap
  simp [IntKind.signed, IntKind.bits]
  omega

set_option maxRecDepth 100000 in
set_option maxHeartbeats 4000000 in
theorem law_rename (W : World) (v0 : Value) (l : List Dk.Raw) (fr tn : Nat) (hl : OpsAt W v0 l) (hfr : fr < 256) (hto : tn < 256) :
    Calls Tryz.prog 5 #[v0, .int .u8 fr, .int .u8 tn] W fun e W' => e = .returned (.bool true) ∧ Below W.heap.size W W' := by
  have n0 := dk_run (RunCtx.first W 1 7 (by decide) (by decide) (by decide)) v0 l hl
  have nm0 := Dk.runD_named l
  clear hl
  go_enter Tryz.func5, Tryz.ntmps5
  go_wp2_with fail
  refine n0.mono ?_
  rintro e W1 ⟨c1, g, v, rfl, d1, r1, gd, b1, cols⟩
  have K1 : Kn W W1 c1 := ⟨b1, cols⟩
  generalize Dk.runD l = D at *
  obtain ⟨sv, xs, rfl, hxs, hRA⟩ := r1
  obtain ⟨sa, sc, rfl, _, _⟩ := hRA.at
  unfold rfVal
  rw [Dk.D.norm_fs] at hxs
  clear n0 b1 cols
  have hdw : D.norm.down = D.down := Dk.D.norm_down D
  have hB := (Below.refl W1.heap.size W1).alloc (Nat.le_refl _) (.cells #[.slice sa xs.length sc, .int .i64 D.norm.bud, .bool D.norm.down] 27)
  have hA := Chg.alloc (i := 7) (c := c1) (W := W1) (.cells #[.slice sa xs.length sc, .int .i64 D.norm.bud, .bool D.norm.down] 27) 7
  have d2 := d1.chg hA (by decide) (by decide)
  have hRA2 : RfAt (pnt c1 W1.heap.size 7) (W1.alloc (.cells #[.slice sa xs.length sc, .int .i64 D.norm.bud, .bool D.norm.down] 27)) (.slice sa xs.length sc) xs := hRA.keep hA.size (keepC hA (by decide))
  have K2 := K1.chg hA (by decide)
  have row := heap_alloc_new W1 (.cells #[.slice sa xs.length sc, .int .i64 D.norm.bud, .bool D.norm.down] 27)
  obtain ⟨gw, hgw⟩ : ∃ gw, gw = W1.heap.size := ⟨_, rfl⟩
  obtain ⟨W2, hW2⟩ : ∃ W2, W2 = W1.alloc (.cells #[.slice sa xs.length sc, .int .i64 D.norm.bud, .bool D.norm.down] 27) := ⟨_, rfl⟩
  rw [← hW2] at hA hB d2 K2 row hRA2
  have colg : pnt c1 W1.heap.size 7 gw = 7 := by rw [hgw]; exact pnt_new (Nat.le_refl _)
  generalize pnt c1 W1.heap.size 7 = c2 at *
  rw [← hgw] at row
  cases hdn : D.down with
  | true =>
    rw [hdn] at hdw
    rw [hdw] at hW2 ⊢
    have HW2 := Lib.hid hW2
    clear hA hB d2 hW2 d1 K1 hgw row
    go_wp2_with fail
    rw [← HW2.out]
    refine (dk_known W2).mono ?_
    rintro e w7 ⟨rfl, b7⟩
    go_wp2_with fail
    go_ret
    exact ⟨rfl, K2.1.trans (b7.mono K2.1.size)⟩
  | false =>
    rw [hdn] at hdw
    rw [hdw] at hW2 row ⊢
    have HW2 := Lib.hid hW2
    have HGW := Lib.hid hgw
    by_cases hx0 : xs.length = 0
    · rw [hx0] at hW2
      have HW2 := Lib.hid hW2
      clear hA hB d2 hW2 d1 K1 hgw
      go_wp2_with fail
      rw [← HW2.out]
      refine (dk_known W2).mono ?_
      rintro e w7 ⟨rfl, b7⟩
      go_wp2_with fail
      go_ret
      exact ⟨rfl, K2.1.trans (b7.mono K2.1.size)⟩
    · have n3 := dk_SetBudget d2 (-1)
      have hsb : D.setBudget (-1) = (⟨D.fs, -1, false⟩, 0) := by unfold Dk.D.setBudget; rw [if_neg (by simp [hdn]), if_neg (by decide)]; rw [← hdn]
      rw [hsb] at n3
      have HRA := Lib.hid hRA2
      have HBB := Lib.hid hB
      have HROW := Lib.hid row
      have hmany := gd.many
      have HGD0 : Hid (Dk.Good 40 (⟨D.fs, -1, false⟩ : Dk.D)) := Lib.hid ⟨by show (-1 : Int) ≤ _; decide, gd.many, gd.names, gd.pend⟩
      have hn64 := gd.names
      have nm1 : ∀ p ∈ D.fs, Dk.valid p.1 = true := nm0
      clear hA hB hW2 d1 K1 hgw hsb row nm0 gd d2 hRA hRA2
      generalize D.fs = fs at *
      have HXL : Hid (xs.length = fs.length) := Lib.hid (by rw [hxs, List.length_map])
      have HXS := Lib.hid hxs
      have HN64 := Lib.hid hn64
      have HNM := Lib.hid nm1
      have HMANY := Lib.hid hmany
      clear hxs hn64 nm1 hmany
      go_wp2_with fail
      rw [← HW2.out, ← HGW.out]
      refine n3.mono ?_
      rintro e w3 ⟨c3, rfl, d3, h3⟩
      have K3 := K2.chg h3 (by decide)
      have row3 := (h3.block _ (Array.getElem?_eq_some_iff.1 HROW.out).1 (by rw [colg]; decide)).trans HROW.out
      obtain ⟨x0, x1, x2⟩ := row_cells3 row3
      have hR3 := HRA.out.keep h3.size (keepC h3 (by decide))
      have HD3 := Lib.hid d3
      obtain ⟨sa', sc', hv, -, hat⟩ := hR3.at
      injection hv with e1 _ e3
      subst e1 e3
      obtain ⟨kf, hkf⟩ : ∃ kf, kf = fr % xs.length := ⟨_, rfl⟩
      have hkfl : kf < xs.length := by rw [hkf]; exact Nat.mod_lt _ (by omega)
      obtain ⟨kt, hkt⟩ : ∃ kt, kt = tn % xs.length := ⟨_, rfl⟩
      have hktl : kt < xs.length := by rw [hkt]; exact Nat.mod_lt _ (by omega)
      have i0 : (IntKind.i64.wrap (fr : Int)).tmod (xs.length : Int) = (kf : Int) := by rw [wrap_small fr hfr, hkf]; exact (Int.ofNat_tmod fr xs.length).symm
      have j0 : (IntKind.i64.wrap (tn : Int)).tmod (xs.length : Int) = (kt : Int) := by rw [wrap_small tn hto, hkt]; exact (Int.ofNat_tmod tn xs.length).symm
      obtain ⟨xa, hxa⟩ : ∃ xa, xs[kf]? = some xa := ⟨_, List.getElem?_eq_getElem hkfl⟩
      obtain ⟨xb, hxb⟩ : ∃ xb, xs[kt]? = some xb := ⟨_, List.getElem?_eq_getElem hktl⟩
      obtain ⟨rg, rfl, hrg, y0, -, -, -⟩ := hat kf _ hxa
      obtain ⟨rg', e', -, z0, -, -, -⟩ := hat kt _ hxb
      cases e'
      have i2 : (0 : Int) ≤ kf := by omega
      have i3 : (kf : Int) < xs.length := by omega
      have j2 : (0 : Int) ≤ kt := by omega
      have j3 : (kt : Int) < xs.length := by omega
      have HXA := Lib.hid hxa
      have HXB := Lib.hid hxb
      clear n3 h3 d3 hR3 hat hkf hkt hkfl hktl hxa hxb HRA
      go_wp2_with fail
      refine wp_region_still_lit (by kernel_rfl) (by kernel_rfl) ?_
      change wpStill _ _ (World.drew _) _ _ _
      repeat still_step
      refine wpStill_nil ?_
      change Exit.then _ _ Exit.normal _ (World.drew w3)
      have HD4 : Hid (DiskAt 1 c3 w3.drew g ⟨fs, -1, false⟩) := Lib.hid (HD3.out.keepB ((Below.refl _ _).drew))
      have K4 : Kn W w3.drew c3 := ⟨K3.1.drew, K3.2⟩
      have x0' : w3.drew.cell? ⟨gw, 0, none⟩ = _ := x0
      have z0' : w3.drew.cell? ⟨rg, kt * 3, none⟩ = _ := z0
      clear x0 x1 x2 y0 z0 K3 HD3 row3
      generalize w3.drew = w4 at *
      go_wp2_with fail
      refine wp_region_still_lit (by kernel_rfl) (by kernel_rfl) ?_
      change wpStill _ _ (World.drew _) _ _ _
      repeat still_step
      refine wpStill_nil ?_
      change Exit.then _ _ Exit.normal _ (World.drew w4)
      have HGD : Hid (Dk.Good 40 (⟨fs, -1, false⟩ : Dk.D)) := HGD0
      have HD5 : Hid (DiskAt 1 c3 w4.drew g ⟨fs, -1, false⟩) := Lib.hid (HD4.out.keepB ((Below.refl _ _).drew))
      have K5 : Kn W w4.drew c3 := ⟨K4.1.drew, K4.2⟩
      clear x0' z0' K4 HD4
      generalize w4.drew = w5 at *
      obtain ⟨fa, hfa0⟩ : ∃ fa, fs[kf]? = some (xa.nm, fa) := ⟨xa.f, by rw [HXS.out, List.getElem?_map, HXA.out]; rfl⟩
      have hmem := List.mem_of_getElem? hfa0
      have HFA := Lib.hid (Dk.find_place HD5.out.rising kf _ fa hfa0).2
      have HLA := Lib.hid (HN64.out _ hmem)
      simp only [] at HLA
      obtain ⟨fb, hfb0⟩ : ∃ fb, fs[kt]? = some (xb.nm, fb) := ⟨xb.f, by rw [HXS.out, List.getElem?_map, HXB.out]; rfl⟩
      have HVX := Lib.hid (HNM.out _ (List.mem_of_getElem? hfb0))
      simp only [] at HVX
      clear hfa0 hmem hfb0 HXS HXA HXB HNM HN64 HXL
      generalize xa.nm = na at *
      by_cases ht3 : tn % 3 = 0
      · have ht3' : ((tn : Int)) % 3 = 0 := by omega
        clear ht3
        go_wp2_with fail
        obtain ⟨nb, hnb⟩ : ∃ nb : Dk.Bs, nb = [97, 110, 111, 116, 104, 101, 114] := ⟨_, rfl⟩
        have HVB : Hid (Dk.valid nb = true) := Lib.hid (by rw [hnb]; exact Dk.valid_another)
        rw [show (⟨#[97, 110, 111, 116, 104, 101, 114]⟩ : ByteArray) = ⟨nb.toArray⟩ by rw [hnb]]
        clear hnb HVX
        have HSA : Hid ((⟨na.toArray⟩ : ByteArray).size ≤ 9223372036854775807) := Lib.hid (by show na.toArray.size ≤ _; simp; have := HLA.out; omega)
        have HSB : Hid ((⟨nb.toArray⟩ : ByteArray).size ≤ 9223372036854775807) := Lib.hid (by show nb.toArray.size ≤ _; simp; have := Dk.valid_len HVB.out; omega)
        have n6 := dk_Read HD5.out ⟨na.toArray⟩ HSA.out
        rw [show (⟨na.toArray⟩ : ByteArray).data.toList = na by simp, Dk.read_some _ _ _ HFA.out] at n6
        refine n6.mono ?_
        rintro e w6 ⟨vx, rfl, hox, b6⟩
        have RB6 := RdC.of_own (c := pnt c3 w5.heap.size 0) hox (fun b hb _ => pnt_new hb)
        obtain ⟨xa', xc, rfl⟩ := rf_own_form hox
        have d6 := HD5.out.chg (Chg.of_below (i := 3) b6 0) (by decide) (by decide)
        have K6 := K5.chg (Chg.of_below (i := 3) b6 0) (by decide)
        generalize pnt c3 w5.heap.size 0 = c6 at *
        have n7 := dk_Pending d6 ⟨na.toArray⟩ HSA.out
        rw [show (⟨na.toArray⟩ : ByteArray).data.toList = na by simp, Dk.pending_some _ _ _ HFA.out] at n7
        clear n6 hox b6 K5 HD5
        go_wp2_with fail
        refine n7.mono ?_
        rintro e w7 ⟨rfl, rfl⟩
        have K7 := K6
        obtain ⟨fs', hre, hf2, hn2⟩ := Dk.rename_law fs na nb fa HFA.out HVB.out
        have n8 := dk_Rename d6 ⟨na.toArray⟩ ⟨nb.toArray⟩ HSA.out HSB.out (by show (-1 : Int) ≤ _; decide) (by show fs.length ≤ _; have := HMANY.out; omega)
        rw [show (⟨na.toArray⟩ : ByteArray).data.toList = na by simp, show (⟨nb.toArray⟩ : ByteArray).data.toList = nb by simp, hre] at n8
        have HG8 := Lib.hid (HGD.out.act ⟨5, ⟨na.toArray⟩, ⟨nb.toArray⟩, 0, []⟩ (by show (0 : Int) ≤ _; decide))
        have HRE := Lib.hid hre
        clear n7 K6 hre
        go_wp2_with fail
        refine n8.mono ?_
        rintro e w8 ⟨c8, rfl, d8, h8⟩
        have K8 := K7.chg h8 (by decide)
        have RB8 := RB6.chg h8 (by decide)
        by_cases hab : na = nb
        · subst hab
          have n9 := dk_Read d8 ⟨na.toArray⟩ HSB.out
          rw [show (⟨na.toArray⟩ : ByteArray).data.toList = na by simp, Dk.read_some _ _ _ hf2] at n9
          have HN2 := Lib.hid hn2
          have HF2 := Lib.hid hf2
          clear n8 h8 K7 RB6 d6 hn2 hf2
          go_wp2_with fail
          refine n9.mono ?_
          rintro e w9 ⟨vy, rfl, hoy, b9⟩
          have d9 := d8.keepB b9
          have K9 := K8.chg (Chg.of_below_same (i := 3) b9) (by decide)
          have RB9 := RB8.below b9
          have OY9 := RdB.of_own hoy
          obtain ⟨ya, yc, rfl⟩ := rf_own_form hoy
          have n10 := dk_Read d9 ⟨na.toArray⟩ HSA.out
          rw [show (⟨na.toArray⟩ : ByteArray).data.toList = na by simp, Dk.read_some _ _ _ HF2.out] at n10
          clear n9 hoy b9 d8 K8 RB8
          go_wp2_with fail
          refine n10.mono ?_
          rintro e w10 ⟨vz, rfl, hoz, b10⟩
          have d10 := d9.keepB b10
          have K10 := Lib.hid (K9.chg (Chg.of_below_same (i := 3) b10) (by decide))
          obtain ⟨za, zc, rfl⟩ := rf_own_form hoz
          have q1 := dk_conv (RB9.below b10).1 w10 rfl
          have q2 := dk_conv (OY9.below b10) w10 rfl
          have n11 := dk_Pending d10 ⟨na.toArray⟩ HSB.out
          rw [show (⟨na.toArray⟩ : ByteArray).data.toList = na by simp, Dk.pending_some _ _ _ HF2.out] at n11
          have HD10 := Lib.hid d10
          clear n10 hoz b10 d9 K9 RB9 OY9 d10
          go_wp2_with fail
          refine n11.mono ?_
          rintro e w11 ⟨rfl, rfl⟩
          have n12 := dk_Crash HD10.out
          rw [Dk.crash_up _ (show (⟨fs', -1, false⟩ : Dk.D).down = false from rfl)] at n12
          simp only [] at n12
          clear n11 q1 q2 HD10
          go_wp2_with fail
          refine n12.mono ?_
          rintro e w12 ⟨c12, rfl, d12, h12⟩
          have K12 := K10.out.chg h12 (by decide)
          have g8 := HG8.out
          have e8 : Dk.D.act ⟨fs, -1, false⟩ ⟨5, ⟨na.toArray⟩, ⟨na.toArray⟩, 0, []⟩ = (⟨fs', -1, false⟩, 0) := by
            have := HRE.out
            show Dk.D.rename _ (⟨na.toArray⟩ : ByteArray).data.toList (⟨na.toArray⟩ : ByteArray).data.toList = _
            simpa using this
          rw [e8] at g8
          have n13 := dk_Restart d12 (.slice none 0 0) [] ⟨.inl ⟨rfl, none, 0, rfl⟩, fun h => absurd rfl h⟩ (by decide) (by show fs'.length ≤ _; have h := g8.many; have h2 : fs'.length ≤ 41 := h; omega) (fun p hp => by have h := g8.names p hp; unfold maxLen; omega)
          rw [Dk.restart_down _ _ (show (⟨fs', -1, true⟩ : Dk.D).down = true from rfl)] at n13
          simp only [] at n13
          clear n12 d12 h12 K10 g8 e8
          go_wp2_with fail
          refine n13.mono ?_
          rintro e w13 ⟨c13, rfl, d13, h13⟩
          have K13 := K12.chg h13 (by decide)
          have n14 := dk_Size d13 ⟨na.toArray⟩ HSA.out
          obtain ⟨k1, hk1⟩ := Dk.size_back_some fs' na fa HF2.out
          rw [show (⟨na.toArray⟩ : ByteArray).data.toList = na by simp, hk1] at n14
          have HD13 := Lib.hid d13
          clear n13 h13 K12 hk1 d13
          go_wp2_with fail
          refine n14.mono ?_
          rintro e w14 ⟨rfl, b14⟩
          have K14 := K13.chg (Chg.of_below_same (i := 3) b14) (by decide)
          have n15 := dk_Size (HD13.out.keepB b14) ⟨na.toArray⟩ HSB.out
          obtain ⟨k2, hk2⟩ := Dk.size_back_some fs' na fa HF2.out
          rw [show (⟨na.toArray⟩ : ByteArray).data.toList = na by simp, hk2] at n15
          clear n14 b14 K13 hk2 HD13
          go_wp2_with fail
          refine n15.mono ?_
          rintro e w15 ⟨rfl, b15⟩
          have K15 := Lib.hid (K14.1.trans (b15.mono K14.1.size))
          clear n15 b15 K14
          go_wp2_with fail
          refine (dk_known w15).mono ?_
          rintro e w16 ⟨rfl, b16⟩
          go_wp2_with fail
          go_ret
          exact ⟨rfl, K15.out.trans (b16.mono K15.out.size)⟩
        · have hne : (na == nb) = false := by simpa using hab
          have n9 := dk_Read d8 ⟨nb.toArray⟩ HSB.out
          rw [show (⟨nb.toArray⟩ : ByteArray).data.toList = nb by simp, Dk.read_some _ _ _ hf2] at n9
          have HN2 := Lib.hid hn2
          have HF2 := Lib.hid hf2
          clear n8 h8 K7 RB6 d6 hn2 hf2
          go_wp2_with fail
          refine n9.mono ?_
          rintro e w9 ⟨vy, rfl, hoy, b9⟩
          have d9 := d8.keepB b9
          have K9 := K8.chg (Chg.of_below_same (i := 3) b9) (by decide)
          have RB9 := RB8.below b9
          have OY9 := RdB.of_own hoy
          obtain ⟨ya, yc, rfl⟩ := rf_own_form hoy
          have n10 := dk_Read d9 ⟨na.toArray⟩ HSA.out
          rw [show (⟨na.toArray⟩ : ByteArray).data.toList = na by simp, Dk.read_none _ _ (HN2.out hab)] at n10
          clear n9 hoy b9 d8 K8 RB8
          go_wp2_with fail
          refine n10.mono ?_
          rintro e w10 ⟨vz, rfl, hoz, b10⟩
          have d10 := d9.keepB b10
          have K10 := Lib.hid (K9.chg (Chg.of_below_same (i := 3) b10) (by decide))
          obtain ⟨za, zc, rfl⟩ := rf_own_form hoz
          have q1 := dk_conv (RB9.below b10).1 w10 rfl
          have q2 := dk_conv (OY9.below b10) w10 rfl
          have n11 := dk_Pending d10 ⟨nb.toArray⟩ HSB.out
          rw [show (⟨nb.toArray⟩ : ByteArray).data.toList = nb by simp, Dk.pending_some _ _ _ HF2.out] at n11
          have HD10 := Lib.hid d10
          clear n10 hoz b10 d9 K9 RB9 OY9 d10
          go_wp2_with fail
          refine n11.mono ?_
          rintro e w11 ⟨rfl, rfl⟩
          have n12 := dk_Crash HD10.out
          rw [Dk.crash_up _ (show (⟨fs', -1, false⟩ : Dk.D).down = false from rfl)] at n12
          simp only [] at n12
          clear n11 q1 q2 HD10
          go_wp2_with fail
          refine n12.mono ?_
          rintro e w12 ⟨c12, rfl, d12, h12⟩
          have K12 := K10.out.chg h12 (by decide)
          have g8 := HG8.out
          have e8 : Dk.D.act ⟨fs, -1, false⟩ ⟨5, ⟨na.toArray⟩, ⟨nb.toArray⟩, 0, []⟩ = (⟨fs', -1, false⟩, 0) := by
            have := HRE.out
            show Dk.D.rename _ (⟨na.toArray⟩ : ByteArray).data.toList (⟨nb.toArray⟩ : ByteArray).data.toList = _
            simpa using this
          rw [e8] at g8
          have n13 := dk_Restart d12 (.slice none 0 0) [] ⟨.inl ⟨rfl, none, 0, rfl⟩, fun h => absurd rfl h⟩ (by decide) (by show fs'.length ≤ _; have h := g8.many; have h2 : fs'.length ≤ 41 := h; omega) (fun p hp => by have h := g8.names p hp; unfold maxLen; omega)
          rw [Dk.restart_down _ _ (show (⟨fs', -1, true⟩ : Dk.D).down = true from rfl)] at n13
          simp only [] at n13
          clear n12 d12 h12 K10 g8 e8
          go_wp2_with fail
          refine n13.mono ?_
          rintro e w13 ⟨c13, rfl, d13, h13⟩
          have K13 := K12.chg h13 (by decide)
          have n14 := dk_Size d13 ⟨na.toArray⟩ HSA.out
          obtain ⟨k1, hk1⟩ := Dk.size_back_none fs' na (HN2.out hab)
          rw [show (⟨na.toArray⟩ : ByteArray).data.toList = na by simp, hk1] at n14
          have HD13 := Lib.hid d13
          clear n13 h13 K12 hk1 d13
          go_wp2_with fail
          refine n14.mono ?_
          rintro e w14 ⟨rfl, b14⟩
          have K14 := K13.chg (Chg.of_below_same (i := 3) b14) (by decide)
          have n15 := dk_Size (HD13.out.keepB b14) ⟨nb.toArray⟩ HSB.out
          obtain ⟨k2, hk2⟩ := Dk.size_back_some fs' nb fa HF2.out
          rw [show (⟨nb.toArray⟩ : ByteArray).data.toList = nb by simp, hk2] at n15
          clear n14 b14 K13 hk2 HD13
          go_wp2_with fail
          refine n15.mono ?_
          rintro e w15 ⟨rfl, b15⟩
          have K15 := Lib.hid (K14.1.trans (b15.mono K14.1.size))
          clear n15 b15 K14
          go_wp2_with fail
          refine (dk_known w15).mono ?_
          rintro e w16 ⟨rfl, b16⟩
          go_wp2_with fail
          go_ret
          exact ⟨rfl, K15.out.trans (b16.mono K15.out.size)⟩
      · have ht3' : ¬ ((tn : Int)) % 3 = 0 := by omega
        clear ht3
        go_wp2_with fail
        generalize xb.nm = nb at *
        have HVB := HVX
        clear HVX
        have HSA : Hid ((⟨na.toArray⟩ : ByteArray).size ≤ 9223372036854775807) := Lib.hid (by show na.toArray.size ≤ _; simp; have := HLA.out; omega)
        have HSB : Hid ((⟨nb.toArray⟩ : ByteArray).size ≤ 9223372036854775807) := Lib.hid (by show nb.toArray.size ≤ _; simp; have := Dk.valid_len HVB.out; omega)
        have n6 := dk_Read HD5.out ⟨na.toArray⟩ HSA.out
        rw [show (⟨na.toArray⟩ : ByteArray).data.toList = na by simp, Dk.read_some _ _ _ HFA.out] at n6
        refine n6.mono ?_
        rintro e w6 ⟨vx, rfl, hox, b6⟩
        have RB6 := RdC.of_own (c := pnt c3 w5.heap.size 0) hox (fun b hb _ => pnt_new hb)
        obtain ⟨xa', xc, rfl⟩ := rf_own_form hox
        have d6 := HD5.out.chg (Chg.of_below (i := 3) b6 0) (by decide) (by decide)
        have K6 := K5.chg (Chg.of_below (i := 3) b6 0) (by decide)
        generalize pnt c3 w5.heap.size 0 = c6 at *
        have n7 := dk_Pending d6 ⟨na.toArray⟩ HSA.out
        rw [show (⟨na.toArray⟩ : ByteArray).data.toList = na by simp, Dk.pending_some _ _ _ HFA.out] at n7
        clear n6 hox b6 K5 HD5
        go_wp2_with fail
        refine n7.mono ?_
        rintro e w7 ⟨rfl, rfl⟩
        have K7 := K6
        obtain ⟨fs', hre, hf2, hn2⟩ := Dk.rename_law fs na nb fa HFA.out HVB.out
        have n8 := dk_Rename d6 ⟨na.toArray⟩ ⟨nb.toArray⟩ HSA.out HSB.out (by show (-1 : Int) ≤ _; decide) (by show fs.length ≤ _; have := HMANY.out; omega)
        rw [show (⟨na.toArray⟩ : ByteArray).data.toList = na by simp, show (⟨nb.toArray⟩ : ByteArray).data.toList = nb by simp, hre] at n8
        have HG8 := Lib.hid (HGD.out.act ⟨5, ⟨na.toArray⟩, ⟨nb.toArray⟩, 0, []⟩ (by show (0 : Int) ≤ _; decide))
        have HRE := Lib.hid hre
        clear n7 K6 hre
        go_wp2_with fail
        refine n8.mono ?_
        rintro e w8 ⟨c8, rfl, d8, h8⟩
        have K8 := K7.chg h8 (by decide)
        have RB8 := RB6.chg h8 (by decide)
        by_cases hab : na = nb
        · subst hab
          have n9 := dk_Read d8 ⟨na.toArray⟩ HSB.out
          rw [show (⟨na.toArray⟩ : ByteArray).data.toList = na by simp, Dk.read_some _ _ _ hf2] at n9
          have HN2 := Lib.hid hn2
          have HF2 := Lib.hid hf2
          clear n8 h8 K7 RB6 d6 hn2 hf2
          go_wp2_with fail
          refine n9.mono ?_
          rintro e w9 ⟨vy, rfl, hoy, b9⟩
          have d9 := d8.keepB b9
          have K9 := K8.chg (Chg.of_below_same (i := 3) b9) (by decide)
          have RB9 := RB8.below b9
          have OY9 := RdB.of_own hoy
          obtain ⟨ya, yc, rfl⟩ := rf_own_form hoy
          have n10 := dk_Read d9 ⟨na.toArray⟩ HSA.out
          rw [show (⟨na.toArray⟩ : ByteArray).data.toList = na by simp, Dk.read_some _ _ _ HF2.out] at n10
          clear n9 hoy b9 d8 K8 RB8
          go_wp2_with fail
          refine n10.mono ?_
          rintro e w10 ⟨vz, rfl, hoz, b10⟩
          have d10 := d9.keepB b10
          have K10 := Lib.hid (K9.chg (Chg.of_below_same (i := 3) b10) (by decide))
          obtain ⟨za, zc, rfl⟩ := rf_own_form hoz
          have q1 := dk_conv (RB9.below b10).1 w10 rfl
          have q2 := dk_conv (OY9.below b10) w10 rfl
          have n11 := dk_Pending d10 ⟨na.toArray⟩ HSB.out
          rw [show (⟨na.toArray⟩ : ByteArray).data.toList = na by simp, Dk.pending_some _ _ _ HF2.out] at n11
          have HD10 := Lib.hid d10
          clear n10 hoz b10 d9 K9 RB9 OY9 d10
          go_wp2_with fail
          refine n11.mono ?_
          rintro e w11 ⟨rfl, rfl⟩
          have n12 := dk_Crash HD10.out
          rw [Dk.crash_up _ (show (⟨fs', -1, false⟩ : Dk.D).down = false from rfl)] at n12
          simp only [] at n12
          clear n11 q1 q2 HD10
          go_wp2_with fail
          refine n12.mono ?_
          rintro e w12 ⟨c12, rfl, d12, h12⟩
          have K12 := K10.out.chg h12 (by decide)
          have g8 := HG8.out
          have e8 : Dk.D.act ⟨fs, -1, false⟩ ⟨5, ⟨na.toArray⟩, ⟨na.toArray⟩, 0, []⟩ = (⟨fs', -1, false⟩, 0) := by
            have := HRE.out
            show Dk.D.rename _ (⟨na.toArray⟩ : ByteArray).data.toList (⟨na.toArray⟩ : ByteArray).data.toList = _
            simpa using this
          rw [e8] at g8
          have n13 := dk_Restart d12 (.slice none 0 0) [] ⟨.inl ⟨rfl, none, 0, rfl⟩, fun h => absurd rfl h⟩ (by decide) (by show fs'.length ≤ _; have h := g8.many; have h2 : fs'.length ≤ 41 := h; omega) (fun p hp => by have h := g8.names p hp; unfold maxLen; omega)
          rw [Dk.restart_down _ _ (show (⟨fs', -1, true⟩ : Dk.D).down = true from rfl)] at n13
          simp only [] at n13
          clear n12 d12 h12 K10 g8 e8
          go_wp2_with fail
          refine n13.mono ?_
          rintro e w13 ⟨c13, rfl, d13, h13⟩
          have K13 := K12.chg h13 (by decide)
          have n14 := dk_Size d13 ⟨na.toArray⟩ HSA.out
          obtain ⟨k1, hk1⟩ := Dk.size_back_some fs' na fa HF2.out
          rw [show (⟨na.toArray⟩ : ByteArray).data.toList = na by simp, hk1] at n14
          have HD13 := Lib.hid d13
          clear n13 h13 K12 hk1 d13
          go_wp2_with fail
          refine n14.mono ?_
          rintro e w14 ⟨rfl, b14⟩
          have K14 := K13.chg (Chg.of_below_same (i := 3) b14) (by decide)
          have n15 := dk_Size (HD13.out.keepB b14) ⟨na.toArray⟩ HSB.out
          obtain ⟨k2, hk2⟩ := Dk.size_back_some fs' na fa HF2.out
          rw [show (⟨na.toArray⟩ : ByteArray).data.toList = na by simp, hk2] at n15
          clear n14 b14 K13 hk2 HD13
          go_wp2_with fail
          refine n15.mono ?_
          rintro e w15 ⟨rfl, b15⟩
          have K15 := Lib.hid (K14.1.trans (b15.mono K14.1.size))
          clear n15 b15 K14
          go_wp2_with fail
          refine (dk_known w15).mono ?_
          rintro e w16 ⟨rfl, b16⟩
          go_wp2_with fail
          go_ret
          exact ⟨rfl, K15.out.trans (b16.mono K15.out.size)⟩
        · have hne : (na == nb) = false := by simpa using hab
          have n9 := dk_Read d8 ⟨nb.toArray⟩ HSB.out
          rw [show (⟨nb.toArray⟩ : ByteArray).data.toList = nb by simp, Dk.read_some _ _ _ hf2] at n9
          have HN2 := Lib.hid hn2
          have HF2 := Lib.hid hf2
          clear n8 h8 K7 RB6 d6 hn2 hf2
          go_wp2_with fail
          refine n9.mono ?_
          rintro e w9 ⟨vy, rfl, hoy, b9⟩
          have d9 := d8.keepB b9
          have K9 := K8.chg (Chg.of_below_same (i := 3) b9) (by decide)
          have RB9 := RB8.below b9
          have OY9 := RdB.of_own hoy
          obtain ⟨ya, yc, rfl⟩ := rf_own_form hoy
          have n10 := dk_Read d9 ⟨na.toArray⟩ HSA.out
          rw [show (⟨na.toArray⟩ : ByteArray).data.toList = na by simp, Dk.read_none _ _ (HN2.out hab)] at n10
          clear n9 hoy b9 d8 K8 RB8
          go_wp2_with fail
          refine n10.mono ?_
          rintro e w10 ⟨vz, rfl, hoz, b10⟩
          have d10 := d9.keepB b10
          have K10 := Lib.hid (K9.chg (Chg.of_below_same (i := 3) b10) (by decide))
          obtain ⟨za, zc, rfl⟩ := rf_own_form hoz
          have q1 := dk_conv (RB9.below b10).1 w10 rfl
          have q2 := dk_conv (OY9.below b10) w10 rfl
          have n11 := dk_Pending d10 ⟨nb.toArray⟩ HSB.out
          rw [show (⟨nb.toArray⟩ : ByteArray).data.toList = nb by simp, Dk.pending_some _ _ _ HF2.out] at n11
          have HD10 := Lib.hid d10
          clear n10 hoz b10 d9 K9 RB9 OY9 d10
          go_wp2_with fail
          refine n11.mono ?_
          rintro e w11 ⟨rfl, rfl⟩
          have n12 := dk_Crash HD10.out
          rw [Dk.crash_up _ (show (⟨fs', -1, false⟩ : Dk.D).down = false from rfl)] at n12
          simp only [] at n12
          clear n11 q1 q2 HD10
          go_wp2_with fail
          refine n12.mono ?_
          rintro e w12 ⟨c12, rfl, d12, h12⟩
          have K12 := K10.out.chg h12 (by decide)
          have g8 := HG8.out
          have e8 : Dk.D.act ⟨fs, -1, false⟩ ⟨5, ⟨na.toArray⟩, ⟨nb.toArray⟩, 0, []⟩ = (⟨fs', -1, false⟩, 0) := by
            have := HRE.out
            show Dk.D.rename _ (⟨na.toArray⟩ : ByteArray).data.toList (⟨nb.toArray⟩ : ByteArray).data.toList = _
            simpa using this
          rw [e8] at g8
          have n13 := dk_Restart d12 (.slice none 0 0) [] ⟨.inl ⟨rfl, none, 0, rfl⟩, fun h => absurd rfl h⟩ (by decide) (by show fs'.length ≤ _; have h := g8.many; have h2 : fs'.length ≤ 41 := h; omega) (fun p hp => by have h := g8.names p hp; unfold maxLen; omega)
          rw [Dk.restart_down _ _ (show (⟨fs', -1, true⟩ : Dk.D).down = true from rfl)] at n13
          simp only [] at n13
          clear n12 d12 h12 K10 g8 e8
          go_wp2_with fail
          refine n13.mono ?_
          rintro e w13 ⟨c13, rfl, d13, h13⟩
          have K13 := K12.chg h13 (by decide)
          have n14 := dk_Size d13 ⟨na.toArray⟩ HSA.out
          obtain ⟨k1, hk1⟩ := Dk.size_back_none fs' na (HN2.out hab)
          rw [show (⟨na.toArray⟩ : ByteArray).data.toList = na by simp, hk1] at n14
          have HD13 := Lib.hid d13
          clear n13 h13 K12 hk1 d13
          go_wp2_with fail
          refine n14.mono ?_
          rintro e w14 ⟨rfl, b14⟩
          have K14 := K13.chg (Chg.of_below_same (i := 3) b14) (by decide)
          have n15 := dk_Size (HD13.out.keepB b14) ⟨nb.toArray⟩ HSB.out
          obtain ⟨k2, hk2⟩ := Dk.size_back_some fs' nb fa HF2.out
          rw [show (⟨nb.toArray⟩ : ByteArray).data.toList = nb by simp, hk2] at n15
          clear n14 b14 K13 hk2 HD13
          go_wp2_with fail
          refine n15.mono ?_
          rintro e w15 ⟨rfl, b15⟩
          have K15 := Lib.hid (K14.1.trans (b15.mono K14.1.size))
          clear n15 b15 K14
          go_wp2_with fail
          refine (dk_known w15).mono ?_
          rintro e w16 ⟨rfl, b16⟩
          go_wp2_with fail
          go_ret
          exact ⟨rfl, K15.out.trans (b16.mono K15.out.size)⟩

end Go.Proofs.YtegahpgnmeobhaaGreatDoor
