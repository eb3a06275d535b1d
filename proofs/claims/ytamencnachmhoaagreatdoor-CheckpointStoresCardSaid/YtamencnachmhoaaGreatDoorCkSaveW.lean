/-
  Save's closures; slices.ContainsFunc over the sequence numbers.
-/
import Derived.Test.YtamencnachmhoaaGreatDoorCkThin
import Derived.Test.YtamencnachmhoaaGreatDoorCkGood
import Derived.Test.YtamencnachmhoaaGreatDoorCkEncode
import Derived.StillTailTactics
namespace Go.Proofs.YtamencnachmhoaaGreatDoor
open Go.RowKit

set_option maxRecDepth 100000 in
set_option maxHeartbeats 1000000 in
theorem ck_anyGe (W : World) (v : Value) (l : List Nat) (B q : Nat) (sq : Int) (hown : W.ownsRow B 3 1 v l.length (Ck.intCells l)) (hc : W.cell? ⟨q, 0, none⟩ = some (.int .i64 sq)) (hl : l.length ≤ 1000000) :
    Calls Tryz.prog 56 #[v, .func (.func 57) #[] #[.pointer (some ⟨q, 0, none⟩)]] W fun e W' => e = .returned (.bool (l.any fun m => decide (sq ≤ (m : Int)))) ∧ W = W' := by
  have n0 : ∀ n : Int, Calls Tryz.prog 57 #[.int .i64 n, .pointer (some ⟨q, 0, none⟩)] W fun e W' => e = .returned (.bool (decide (sq ≤ n))) ∧ W = W' := fun n => by
    go_enter Tryz.func57, Tryz.ntmps57
    go_wp2_with fail
    go_ret
    exact ⟨rfl, rfl⟩
  have eg : ∀ args w, (callFunc 57 args).run Tryz.prog w = .ok (.enter 57 args) w := enters_of Tryz.func57 (by kernel_rfl) rfl
  obtain ⟨bb, hbb⟩ : ∃ bb, bb = l.any fun m => decide (sq ≤ (m : Int)) := ⟨_, rfl⟩
  have HBB := Lib.hid hbb
  rw [← hbb]
  clear hbb
  have n1 : Calls Tryz.prog 111 #[v, .func (.func 57) #[] #[.pointer (some ⟨q, 0, none⟩)]] W fun e W' => ∃ r : Int, e = .returned (.int .i64 r) ∧ (bb = true ↔ 0 ≤ r) ∧ W = W' := by
    have hcell : 0 < l.length → ∃ sb cap, v = .slice (some ⟨sb, 0, none⟩) l.length cap ∧ sb < W.heap.size ∧ ∀ (k : Nat) (y : Value), (Ck.intCells l)[k]? = some y → W.cell? ⟨sb, k, none⟩ = some y := fun h => own_formT hown h
    obtain ⟨va, vc, rfl⟩ := own_slice hown
    have HC := Lib.hid hcell
    clear hown hcell hc
    go_enter Tryz.func111, Tryz.ntmps111
    go_wp2_with fail
    go_loopw [8] (fun iv wr => ∃ i : Nat, i ≤ l.length ∧ iv = .int .i64 i ∧ Hid (∀ y ∈ l.take i, ((y : Nat) : Int) < sq) ∧ wr = W) (fun iv _ => l.length - (RowKit.intOf iv).toNat)
    case atStart => exact ⟨0, Nat.zero_le _, rfl, Lib.hid (by simp), rfl⟩
    case round =>
      obtain ⟨i, hi, rfl, HN, rfl⟩ := hrel
      by_cases hlt : i < l.length
      · obtain ⟨y, hy⟩ : ∃ y, l[i]? = some y := ⟨_, List.getElem?_eq_getElem hlt⟩
        obtain ⟨sb, cap, e8, -, hcl⟩ := HC.out (by omega)
        injection e8 with e81 _ e83
        subst e81 e83
        have y0 := hcl i (.int .i64 (y : Int)) (by unfold Ck.intCells; rw [List.getElem?_map, hy]; rfl)
        have n2 := n0 (y : Int)
        by_cases hq : sq ≤ (y : Int)
        · have HQ : Hid (bb = true) := Lib.hid (by rw [HBB.out]; exact List.any_eq_true.2 ⟨y, List.mem_of_getElem? hy, by simpa using hq⟩)
          rw [decide_eq_true hq] at n2
          clear hcl hy n0
          go_wp2_with (go_at_fn 57; refine n2.mono ?_; rintro e w1 ⟨rfl, rfl⟩)
          go_ret
          exact ⟨_, rfl, ⟨fun _ => by omega, fun _ => by first | exact HQ.out | simpa using HQ.out⟩, rfl⟩
        · have HN2 : Hid (∀ z ∈ l.take (i + 1), ((z : Nat) : Int) < sq) := Lib.hid (fun z hz => by
            rw [List.take_add_one, hy] at hz
            rcases List.mem_append.1 hz with hz | hz
            · exact HN.out z hz
            · obtain rfl : z = y := by simpa using hz
              omega)
          rw [decide_eq_false hq] at n2
          clear hcl hy hq
          go_wp2_with (go_at_fn 57; refine n2.mono ?_; rintro e w1 ⟨rfl, rfl⟩)
          refine ⟨⟨i + 1, by omega, by go_num, HN2, by first | rfl | trivial⟩, by simp [RowKit.intOf] <;> omega⟩
      · have hie : i = l.length := by omega
        have hltI : ¬ (i : Int) < (l.length : Int) := by omega
        have HQ : Hid (¬ bb = true) := Lib.hid (by
          intro hm
          rw [HBB.out] at hm
          obtain ⟨z, hz, hz2⟩ := List.any_eq_true.1 hm
          rw [← List.take_length (l := l), ← hie] at hz
          have h1 := HN.out z hz
          have h2 : sq ≤ (z : Int) := by simpa using hz2
          omega)
        go_wp2_with fail
        go_ret
        exact ⟨_, rfl, ⟨fun h => by first | exact absurd h HQ.out | exact absurd (by simpa using h) HQ.out, fun h => by omega⟩, rfl⟩
  obtain ⟨va, vc, rfl⟩ := own_slice hown
  clear hown n0
  go_enter Tryz.func56, Tryz.ntmps56
  go_wp2_with fail
  refine n1.mono ?_
  rintro e W1 ⟨r, rfl, hr, rfl⟩
  have HR : Hid (bb = decide (0 ≤ r)) := Lib.hid (by
    by_cases h : 0 ≤ r
    · rw [decide_eq_true h]; exact hr.2 h
    · rw [decide_eq_false h, Bool.eq_false_iff]
      exact fun h2 => h (hr.1 h2))
  clear n1 hr
  go_wp2_with fail
  go_ret
  rw [HR.out]
  exact ⟨rfl, rfl⟩

/-- a box of colour 0 -/
structure Box0 (c : Nat → Nat) (W : World) (b : Nat) (t : TypeId) (v : Value) : Prop where
  row : W.heap[b]? = some (.cells #[v] t (0, 0))
  col : c b = 0
theorem Box0.chg {i b : Nat} {c c' : Nat → Nat} {W W' : World} {t : TypeId} {v : Value} (h : Box0 c W b t v) (hc : Chg i c c' W W') (hi : i ≠ 0) : Box0 c' W' b t v := by
  have hl := (Array.getElem?_eq_some_iff.1 h.row).1
  exact ⟨(hc.block b hl (by rw [h.col]; exact Ne.symm hi)).trans h.row, (hc.col b hl).trans h.col⟩
theorem Box0.cell {b : Nat} {c : Nat → Nat} {W : World} {t : TypeId} {v : Value} (h : Box0 c W b t v) : W.cell? ⟨b, 0, none⟩ = some v := by rw [cell_of_row _ _ _ _ _ _ h.row]; rfl

/-- what Save's closures have captured -/
structure SvIs (c : Nat → Nat) (W : World) (s g : Nat) (nm : Ck.Bs) (n : Nat) (b : Ck.Bs) (bv : Value) (b3 b4 b7 b9 b11 : Nat) : Prop where
  st : StIs c W s g nm
  r3 : Box0 c W b3 43 (.pointer (some ⟨s, 0, none⟩))
  r4 : Box0 c W b4 3 (.int .i64 n)
  r7 : Box0 c W b7 22 bv
  r9 : Box0 c W b9 9 (.string ⟨(Ck.fileName nm n).toArray⟩)
  r11 : Box0 c W b11 9 (.string ⟨(Ck.tmpName nm).toArray⟩)
  dat : RdC c W bv b
  nml : nm.length ≤ 16
  num : n ≤ 1000000000
theorem SvIs.chg {i : Nat} {c c' : Nat → Nat} {W W' : World} {s g : Nat} {nm b : Ck.Bs} {n : Nat} {bv : Value} {b3 b4 b7 b9 b11 : Nat} (H : SvIs c W s g nm n b bv b3 b4 b7 b9 b11) (hc : Chg i c c' W W') (hi : i ≠ 0) : SvIs c' W' s g nm n b bv b3 b4 b7 b9 b11 :=
  ⟨H.st.chg hc hi, H.r3.chg hc hi, H.r4.chg hc hi, H.r7.chg hc hi, H.r9.chg hc hi, H.r11.chg hc hi, H.dat.chg hc hi, H.nml, H.num⟩
theorem SvIs.tsz {c : Nat → Nat} {W : World} {s g : Nat} {nm b : Ck.Bs} {n : Nat} {bv : Value} {b3 b4 b7 b9 b11 : Nat} (H : SvIs c W s g nm n b bv b3 b4 b7 b9 b11) : (⟨(Ck.tmpName nm).toArray⟩ : ByteArray).size ≤ 9223372036854775807 := by
  have := H.nml
  show (Ck.tmpName nm).toArray.size ≤ _
  rw [List.size_toArray]
  unfold Ck.tmpName
  rw [List.length_append]
  show nm.length + 4 ≤ _
  omega
theorem SvIs.fsz {c : Nat → Nat} {W : World} {s g : Nat} {nm b : Ck.Bs} {n : Nat} {bv : Value} {b3 b4 b7 b9 b11 : Nat} (H : SvIs c W s g nm n b bv b3 b4 b7 b9 b11) : (⟨(Ck.fileName nm n).toArray⟩ : ByteArray).size ≤ 9223372036854775807 := by
  have := H.nml
  have := H.num
  show (Ck.fileName nm n).toArray.size ≤ _
  rw [List.size_toArray, Ck.fileName_length (by omega)]
  omega
theorem SvIs.nm9 {c : Nat → Nat} {W : World} {s g : Nat} {nm b : Ck.Bs} {n : Nat} {bv : Value} {b3 b4 b7 b9 b11 : Nat} (H : SvIs c W s g nm n b bv b3 b4 b7 b9 b11) : nm.length ≤ 900 := by have := H.nml; omega
theorem SvIs.bvform {c : Nat → Nat} {W : World} {s g : Nat} {nm b : Ck.Bs} {n : Nat} {bv : Value} {b3 b4 b7 b9 b11 : Nat} (H : SvIs c W s g nm n b bv b3 b4 b7 b9 b11) : ∃ a k, bv = .slice a b.length k := H.dat.1.form
theorem Ck.Fit.few2 {nm : Ck.Bs} {d : Dk.D} (h : Ck.Fit nm d) : d.fs.length ≤ 1000000 := Nat.le_trans h.few (by decide)
theorem Ck.Fit.few3 {nm : Ck.Bs} {d : Dk.D} (h : Ck.Fit nm d) : d.fs.length ≤ 1073741824 := Nat.le_trans h.few (by decide)
theorem RdC.drw {c : Nat → Nat} {W : World} {v : Value} {l : Ck.Bs} (h : RdC c W v l) : RdC c W.drew v l := h.chg (Chg.of_belowSame (i := 1) ((Below.refl _ _).drew)) (by decide)

set_option maxRecDepth 100000 in
theorem sv_step0 {i : Nat} {c : Nat → Nat} {W : World} {s g : Nat} {D : Dk.D} {nm b : Ck.Bs} {n : Nat} {bv : Value} {b3 b4 b7 b9 b11 : Nat} (H : SvIs c W s g nm n b bv b3 b4 b7 b9 b11) (hd : DiskAt i c W g D) (hi : i ≠ 0) (hF : Ck.Fit nm D) (hbl : b.length ≤ 1073741824) (hP : ∀ f, Dk.find (Ck.tmpName nm) D.fs = some f → f.pend.length < 65536) :
    Calls Tryz.prog 58 #[.pointer (some ⟨b3, 0, none⟩), .pointer (some ⟨b11, 0, none⟩)] W (DkPost i c W g (Ck.step nm n b 0 D)) := by
  have nX := ck_discard hd H.st hi hF.few2 hF.bud (x := Ck.tmpName nm) (by have := H.nml; unfold Ck.tmpName; rw [List.length_append]; show nm.length + 4 ≤ 1000; omega)
  have hstep : Ck.step nm n b 0 D = Ck.discard D (Ck.tmpName nm) := rfl
  rw [hstep]
  obtain ⟨x0, x1⟩ := H.st.cells
  have y3 := H.r3.cell
  have y11 := H.r11.cell
  generalize Ck.discard D (Ck.tmpName nm) = r at nX ⊢
  obtain ⟨T, hT⟩ : ∃ T : ByteArray, T = ⟨(Ck.tmpName nm).toArray⟩ := ⟨_, rfl⟩
  rw [← hT] at nX y11
  clear H hF hP hd hstep hT
  go_enter Tryz.func58, Tryz.ntmps58
  go_wp2_with fail
  refine nX.mono ?_
  rintro e w1 ⟨c1, rfl, d1, h1⟩
  have HD1 := Lib.hid d1
  have HC1 := Lib.hid h1
  clear nX d1 h1
  go_wp2_with fail
  go_ret
  exact ⟨c1, rfl, HD1.out, HC1.out⟩

set_option maxRecDepth 100000 in
theorem sv_step1 {i : Nat} {c : Nat → Nat} {W : World} {s g : Nat} {D : Dk.D} {nm b : Ck.Bs} {n : Nat} {bv : Value} {b3 b4 b7 b9 b11 : Nat} (H : SvIs c W s g nm n b bv b3 b4 b7 b9 b11) (hd : DiskAt i c W g D) (hi : i ≠ 0) (hF : Ck.Fit nm D) (hbl : b.length ≤ 1073741824) (hP : ∀ f, Dk.find (Ck.tmpName nm) D.fs = some f → f.pend.length < 65536) :
    Calls Tryz.prog 59 #[.pointer (some ⟨b3, 0, none⟩), .pointer (some ⟨b11, 0, none⟩)] W (DkPost i c W g (Ck.step nm n b 1 D)) := by
  have hdr : Chg (i + 1) c c W W.drew := Chg.of_belowSame ((Below.refl _ _).drew)
  have hdd : DiskAt i c W.drew g D := hd.chg hdr (by omega) (by omega)
  have nX := dk_create hdd ⟨(Ck.tmpName nm).toArray⟩ (H.tsz) hF.bud hF.few3
  have hstep : Ck.step nm n b 1 D = D.create (Ck.tmpName nm) := rfl
  rw [hstep]
  obtain ⟨x0, x1⟩ := H.st.cells
  have y3 := H.r3.cell
  have y11 := H.r11.cell
  have hT : (⟨(Ck.tmpName nm).toArray⟩ : ByteArray).data.toList = Ck.tmpName nm := rfl
  rw [hT] at nX
  generalize D.create (Ck.tmpName nm) = r at nX ⊢
  obtain ⟨T, hT3⟩ : ∃ T : ByteArray, T = ⟨(Ck.tmpName nm).toArray⟩ := ⟨_, rfl⟩
  rw [← hT3] at nX y11
  clear H hF hP hd hstep hdd hT hT3
  go_enter Tryz.func59, Tryz.ntmps59
  go_wp2_with fail
  refine wp_region_still_tail 5 (by kernel_rfl) (by kernel_rfl) ?_
  simp only [List.take_succ_cons, List.take_zero, List.drop_succ_cons, List.drop_zero]
  change wpStill _ _ (World.drew _) _ _ _
  repeat still_step
  refine wpStill_nil ?_
  go_wp2_with fail
  refine nX.mono ?_
  rintro e w1 ⟨c1, rfl, d1, h1⟩
  have HD1 := Lib.hid d1
  have HC1 := Lib.hid h1
  clear nX d1 h1
  go_wp2_with fail
  go_ret
  exact ⟨c1, rfl, HD1.out, (Chg.of_belowSame ((Below.refl _ _).drew)).trans HC1.out⟩

set_option maxRecDepth 100000 in
theorem sv_step2 {i : Nat} {c : Nat → Nat} {W : World} {s g : Nat} {D : Dk.D} {nm b : Ck.Bs} {n : Nat} {bv : Value} {b3 b4 b7 b9 b11 : Nat} (H : SvIs c W s g nm n b bv b3 b4 b7 b9 b11) (hd : DiskAt i c W g D) (hi : i ≠ 0) (hF : Ck.Fit nm D) (hbl : b.length ≤ 1073741824) (hP : ∀ f, Dk.find (Ck.tmpName nm) D.fs = some f → f.pend.length < 65536) :
    Calls Tryz.prog 61 #[.pointer (some ⟨b3, 0, none⟩), .pointer (some ⟨b11, 0, none⟩), .pointer (some ⟨b7, 0, none⟩)] W (DkPost i c W g (Ck.step nm n b 2 D)) := by
  have hdr : Chg (i + 1) c c W W.drew := Chg.of_belowSame ((Below.refl _ _).drew)
  have hdd : DiskAt i c W.drew g D := hd.chg hdr (by omega) (by omega)
  have nX := dk_Append hdd ⟨(Ck.tmpName nm).toArray⟩ (H.tsz) hF.bud b bv H.dat.drw hbl hP
  have hstep : Ck.step nm n b 2 D = D.write (Ck.tmpName nm) (fun m => m) b := rfl
  rw [hstep]
  obtain ⟨x0, x1⟩ := H.st.cells
  have y3 := H.r3.cell
  have y11 := H.r11.cell
  have y7 := H.r7.cell
  have hT : (⟨(Ck.tmpName nm).toArray⟩ : ByteArray).data.toList = Ck.tmpName nm := rfl
  rw [hT] at nX
  generalize D.write (Ck.tmpName nm) (fun m => m) b = r at nX ⊢
  obtain ⟨ba, bc, hbv⟩ := H.bvform
  subst hbv
  obtain ⟨T, hT3⟩ : ∃ T : ByteArray, T = ⟨(Ck.tmpName nm).toArray⟩ := ⟨_, rfl⟩
  rw [← hT3] at nX y11
  clear H hF hP hd hstep hdd hT hT3
  go_enter Tryz.func61, Tryz.ntmps61
  go_wp2_with fail
  refine wp_region_still_tail 6 (by kernel_rfl) (by kernel_rfl) ?_
  simp only [List.take_succ_cons, List.take_zero, List.drop_succ_cons, List.drop_zero]
  change wpStill _ _ (World.drew _) _ _ _
  repeat still_step
  refine wpStill_nil ?_
  go_wp2_with fail
  refine nX.mono ?_
  rintro e w1 ⟨c1, rfl, d1, h1⟩
  have HD1 := Lib.hid d1
  have HC1 := Lib.hid h1
  clear nX d1 h1
  go_wp2_with fail
  go_ret
  exact ⟨c1, rfl, HD1.out, (Chg.of_belowSame ((Below.refl _ _).drew)).trans HC1.out⟩

set_option maxRecDepth 100000 in
theorem sv_step3 {i : Nat} {c : Nat → Nat} {W : World} {s g : Nat} {D : Dk.D} {nm b : Ck.Bs} {n : Nat} {bv : Value} {b3 b4 b7 b9 b11 : Nat} (H : SvIs c W s g nm n b bv b3 b4 b7 b9 b11) (hd : DiskAt i c W g D) (hi : i ≠ 0) (hF : Ck.Fit nm D) (hbl : b.length ≤ 1073741824) (hP : ∀ f, Dk.find (Ck.tmpName nm) D.fs = some f → f.pend.length < 65536) :
    Calls Tryz.prog 63 #[.pointer (some ⟨b3, 0, none⟩), .pointer (some ⟨b11, 0, none⟩)] W (DkPost i c W g (Ck.step nm n b 3 D)) := by
  have hdr : Chg (i + 1) c c W W.drew := Chg.of_belowSame ((Below.refl _ _).drew)
  have hdd : DiskAt i c W.drew g D := hd.chg hdr (by omega) (by omega)
  have nX := dk_Sync hdd ⟨(Ck.tmpName nm).toArray⟩ (H.tsz) hF.bud
  have hstep : Ck.step nm n b 3 D = D.sync (Ck.tmpName nm) := rfl
  rw [hstep]
  obtain ⟨x0, x1⟩ := H.st.cells
  have y3 := H.r3.cell
  have y11 := H.r11.cell
  have hT : (⟨(Ck.tmpName nm).toArray⟩ : ByteArray).data.toList = Ck.tmpName nm := rfl
  rw [hT] at nX
  generalize D.sync (Ck.tmpName nm) = r at nX ⊢
  obtain ⟨T, hT3⟩ : ∃ T : ByteArray, T = ⟨(Ck.tmpName nm).toArray⟩ := ⟨_, rfl⟩
  rw [← hT3] at nX y11
  clear H hF hP hd hstep hdd hT hT3
  go_enter Tryz.func63, Tryz.ntmps63
  go_wp2_with fail
  refine wp_region_still_tail 5 (by kernel_rfl) (by kernel_rfl) ?_
  simp only [List.take_succ_cons, List.take_zero, List.drop_succ_cons, List.drop_zero]
  change wpStill _ _ (World.drew _) _ _ _
  repeat still_step
  refine wpStill_nil ?_
  go_wp2_with fail
  refine nX.mono ?_
  rintro e w1 ⟨c1, rfl, d1, h1⟩
  have HD1 := Lib.hid d1
  have HC1 := Lib.hid h1
  clear nX d1 h1
  go_wp2_with fail
  go_ret
  exact ⟨c1, rfl, HD1.out, (Chg.of_belowSame ((Below.refl _ _).drew)).trans HC1.out⟩

set_option maxRecDepth 100000 in
theorem sv_step4 {i : Nat} {c : Nat → Nat} {W : World} {s g : Nat} {D : Dk.D} {nm b : Ck.Bs} {n : Nat} {bv : Value} {b3 b4 b7 b9 b11 : Nat} (H : SvIs c W s g nm n b bv b3 b4 b7 b9 b11) (hd : DiskAt i c W g D) (hi : i ≠ 0) (hF : Ck.Fit nm D) (hbl : b.length ≤ 1073741824) (hP : ∀ f, Dk.find (Ck.tmpName nm) D.fs = some f → f.pend.length < 65536) :
    Calls Tryz.prog 65 #[.pointer (some ⟨b3, 0, none⟩), .pointer (some ⟨b11, 0, none⟩), .pointer (some ⟨b9, 0, none⟩)] W (DkPost i c W g (Ck.step nm n b 4 D)) := by
  have hdr : Chg (i + 1) c c W W.drew := Chg.of_belowSame ((Below.refl _ _).drew)
  have hdd : DiskAt i c W.drew g D := hd.chg hdr (by omega) (by omega)
  have nX := dk_Rename hdd ⟨(Ck.tmpName nm).toArray⟩ ⟨(Ck.fileName nm n).toArray⟩ (H.tsz) (H.fsz) hF.bud hF.few3
  have hstep : Ck.step nm n b 4 D = D.rename (Ck.tmpName nm) (Ck.fileName nm n) := rfl
  rw [hstep]
  obtain ⟨x0, x1⟩ := H.st.cells
  have y3 := H.r3.cell
  have y11 := H.r11.cell
  have y9 := H.r9.cell
  have hT : (⟨(Ck.tmpName nm).toArray⟩ : ByteArray).data.toList = Ck.tmpName nm := rfl
  rw [hT] at nX
  have hT2 : (⟨(Ck.fileName nm n).toArray⟩ : ByteArray).data.toList = Ck.fileName nm n := rfl
  rw [hT2] at nX
  generalize D.rename (Ck.tmpName nm) (Ck.fileName nm n) = r at nX ⊢
  obtain ⟨T, hT3⟩ : ∃ T : ByteArray, T = ⟨(Ck.tmpName nm).toArray⟩ := ⟨_, rfl⟩
  rw [← hT3] at nX y11
  obtain ⟨U, hU⟩ : ∃ U : ByteArray, U = ⟨(Ck.fileName nm n).toArray⟩ := ⟨_, rfl⟩
  rw [← hU] at nX y9
  clear H hF hP hd hstep hdd hT hT3 hT2 hU
  go_enter Tryz.func65, Tryz.ntmps65
  go_wp2_with fail
  refine wp_region_still_tail 6 (by kernel_rfl) (by kernel_rfl) ?_
  simp only [List.take_succ_cons, List.take_zero, List.drop_succ_cons, List.drop_zero]
  change wpStill _ _ (World.drew _) _ _ _
  repeat still_step
  refine wpStill_nil ?_
  go_wp2_with fail
  refine nX.mono ?_
  rintro e w1 ⟨c1, rfl, d1, h1⟩
  have HD1 := Lib.hid d1
  have HC1 := Lib.hid h1
  clear nX d1 h1
  go_wp2_with fail
  go_ret
  exact ⟨c1, rfl, HD1.out, (Chg.of_belowSame ((Below.refl _ _).drew)).trans HC1.out⟩

set_option maxRecDepth 100000 in
theorem sv_step5 {i : Nat} {c : Nat → Nat} {W : World} {s g : Nat} {D : Dk.D} {nm b : Ck.Bs} {n : Nat} {bv : Value} {b3 b4 b7 b9 b11 : Nat} (H : SvIs c W s g nm n b bv b3 b4 b7 b9 b11) (hd : DiskAt i c W g D) (hi : i ≠ 0) (hF : Ck.Fit nm D) (hbl : b.length ≤ 1073741824) (hP : ∀ f, Dk.find (Ck.tmpName nm) D.fs = some f → f.pend.length < 65536) :
    Calls Tryz.prog 67 #[.pointer (some ⟨b3, 0, none⟩), .pointer (some ⟨b4, 0, none⟩)] W (DkPost i c W g (Ck.step nm n b 5 D)) := by
  have nX := ck_thin hd H.st hi hF.few2 H.nm9 hF.nml hF.tame hF.ord hF.bud (n := n)
  have hstep : Ck.step nm n b 5 D = Ck.thin D nm n := rfl
  rw [hstep]
  obtain ⟨x0, x1⟩ := H.st.cells
  have y3 := H.r3.cell
  have y4 := H.r4.cell
  generalize Ck.thin D nm n = r at nX ⊢
  clear H hF hP hd hstep
  go_enter Tryz.func67, Tryz.ntmps67
  go_wp2_with fail
  refine nX.mono ?_
  rintro e w1 ⟨c1, rfl, d1, h1⟩
  have HD1 := Lib.hid d1
  have HC1 := Lib.hid h1
  clear nX d1 h1
  go_wp2_with fail
  go_ret
  exact ⟨c1, rfl, HD1.out, HC1.out⟩

end Go.Proofs.YtamencnachmhoaaGreatDoor
