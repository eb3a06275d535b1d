/-
  Save's closures; slices.ContainsFunc over the sequence numbers.
  (*Store).Save.
-/
import Derived.Test.YtamencnachmhoaaGreatDoorCkThin
import Derived.Test.YtamencnachmhoaaGreatDoorCkGood
import Derived.Test.YtamencnachmhoaaGreatDoorCkEncode
import Derived.StillTailTactics
import Derived.Laws.EntriesVeiled
import Derived.Deep.RegionHeld3
import Derived.RangeFuncBox

namespace Go.Proofs.YtamencnachmhoaaGreatDoor
open Go.RowKit

set_option maxRecDepth 100000 in
set_option maxHeartbeats 1000000 in
theorem ck_anyGe (W : World) (v : Value) (l : List Nat) (B q : Nat) (sq : Int) (hown : W.ownsRow B 3 1 v l.length (Ck.intCells l)) (hc : W.cell? ⟨q, 0, none⟩ = some (.int .i64 sq)) (hl : l.length ≤ 1000000) :
    Calls Tryz.prog 56 #[v, .func (.func 57) #[] #[.pointer (some ⟨q, 0, none⟩)]] W fun e W' => e = .returned (.bool (l.any fun m => decide (sq ≤ (m : Int)))) ∧ W = W' := by
  have n0 : ∀ n : Int, Calls Tryz.prog 57 #[.int .i64 n, .pointer (some ⟨q, 0, none⟩)] W fun e W' => e = .returned (.bool (decide (sq ≤ n))) ∧ W = W' := fun n => by
    go_enter Tryz.func57, Tryz.ntmps57
    go_wp2_with fail
    go_ret
    exact ⟨rfl, rfl⟩
  have eg : ∀ args w, (callFunc 57 args).run Tryz.prog w = .ok (.enter 57 args) w := enters_of Tryz.func57 (by kernel_rfl) rfl
  obtain ⟨bb, hbb⟩ : ∃ bb, bb = l.any fun m => decide (sq ≤ (m : Int)) := ⟨_, rfl⟩
  have HBB := Lib.hid hbb
  rw [← hbb]
  clear hbb
  have n1 : Calls Tryz.prog 111 #[v, .func (.func 57) #[] #[.pointer (some ⟨q, 0, none⟩)]] W fun e W' => ∃ r : Int, e = .returned (.int .i64 r) ∧ (bb = true ↔ 0 ≤ r) ∧ W = W' := by
    have hcell : 0 < l.length → ∃ sb cap, v = .slice (some ⟨sb, 0, none⟩) l.length cap ∧ sb < W.heap.size ∧ ∀ (k : Nat) (y : Value), (Ck.intCells l)[k]? = some y → W.cell? ⟨sb, k, none⟩ = some y := fun h => own_formT hown h
    obtain ⟨va, vc, rfl⟩ := own_slice hown
    have HC := Lib.hid hcell
    clear hown hcell hc
    go_enter Tryz.func111, Tryz.ntmps111
    go_wp2_with fail
    go_loopw [8] (fun iv wr => ∃ i : Nat, i ≤ l.length ∧ iv = .int .i64 i ∧ Hid (∀ y ∈ l.take i, ((y : Nat) : Int) < sq) ∧ wr = W) (fun iv _ => l.length - (RowKit.intOf iv).toNat)
    case atStart => exact ⟨0, Nat.zero_le _, rfl, Lib.hid (by simp), rfl⟩
    case round =>
      obtain ⟨i, hi, rfl, HN, rfl⟩ := hrel
      by_cases hlt : i < l.length
      · obtain ⟨y, hy⟩ : ∃ y, l[i]? = some y := ⟨_, List.getElem?_eq_getElem hlt⟩
        obtain ⟨sb, cap, e8, -, hcl⟩ := HC.out (by omega)
        injection e8 with e81 _ e83
        subst e81 e83
        have y0 := hcl i (.int .i64 (y : Int)) (by unfold Ck.intCells; rw [List.getElem?_map, hy]; rfl)
        have n2 := n0 (y : Int)
        by_cases hq : sq ≤ (y : Int)
        · have HQ : Hid (bb = true) := Lib.hid (by rw [HBB.out]; exact List.any_eq_true.2 ⟨y, List.mem_of_getElem? hy, by simpa using hq⟩)
          rw [decide_eq_true hq] at n2
          clear hcl hy n0
          go_wp2_with (go_at_fn 57; refine n2.mono ?_; rintro e w1 ⟨rfl, rfl⟩)
          go_ret
          exact ⟨_, rfl, ⟨fun _ => by omega, fun _ => by first | exact HQ.out | simpa using HQ.out⟩, rfl⟩
        · have HN2 : Hid (∀ z ∈ l.take (i + 1), ((z : Nat) : Int) < sq) := Lib.hid (fun z hz => by
            rw [List.take_add_one, hy] at hz
            rcases List.mem_append.1 hz with hz | hz
            · exact HN.out z hz
            · obtain rfl : z = y := by simpa using hz
              omega)
          rw [decide_eq_false hq] at n2
          clear hcl hy hq
          go_wp2_with (go_at_fn 57; refine n2.mono ?_; rintro e w1 ⟨rfl, rfl⟩)
          refine ⟨⟨i + 1, by omega, by go_num, HN2, by first | rfl | trivial⟩, by simp [RowKit.intOf] <;> omega⟩
      · have hie : i = l.length := by omega
        have hltI : ¬ (i : Int) < (l.length : Int) := by omega
        have HQ : Hid (¬ bb = true) := Lib.hid (by
          intro hm
          rw [HBB.out] at hm
          obtain ⟨z, hz, hz2⟩ := List.any_eq_true.1 hm
          rw [← List.take_length (l := l), ← hie] at hz
          have h1 := HN.out z hz
          have h2 : sq ≤ (z : Int) := by simpa using hz2
          omega)
        go_wp2_with fail
        go_ret
        exact ⟨_, rfl, ⟨fun h => by first | exact absurd h HQ.out | exact absurd (by simpa using h) HQ.out, fun h => by omega⟩, rfl⟩
  obtain ⟨va, vc, rfl⟩ := own_slice hown
  clear hown n0
  go_enter Tryz.func56, Tryz.ntmps56
  go_wp2_with fail
  refine n1.mono ?_
  rintro e W1 ⟨r, rfl, hr, rfl⟩
  have HR : Hid (bb = decide (0 ≤ r)) := Lib.hid (by
    by_cases h : 0 ≤ r
    · rw [decide_eq_true h]; exact hr.2 h
    · rw [decide_eq_false h, Bool.eq_false_iff]
      exact fun h2 => h (hr.1 h2))
  clear n1 hr
  go_wp2_with fail
  go_ret
  rw [HR.out]
  exact ⟨rfl, rfl⟩

/-- a box of colour 0 -/
structure Box0 (c : Nat → Nat) (W : World) (b : Nat) (t : TypeId) (v : Value) : Prop where
  row : W.heap[b]? = some (.cells #[v] t (0, 0))
  col : c b = 0
theorem Box0.chg {i b : Nat} {c c' : Nat → Nat} {W W' : World} {t : TypeId} {v : Value} (h : Box0 c W b t v) (hc : Chg i c c' W W') (hi : i ≠ 0) : Box0 c' W' b t v := by
  have hl := (Array.getElem?_eq_some_iff.1 h.row).1
  exact ⟨(hc.block b hl (by rw [h.col]; exact Ne.symm hi)).trans h.row, (hc.col b hl).trans h.col⟩
theorem Box0.cell {b : Nat} {c : Nat → Nat} {W : World} {t : TypeId} {v : Value} (h : Box0 c W b t v) : W.cell? ⟨b, 0, none⟩ = some v := by rw [cell_of_row _ _ _ _ _ _ h.row]; rfl

/-- what Save's closures have captured -/
structure SvIs (c : Nat → Nat) (W : World) (s g : Nat) (nm : Ck.Bs) (n : Nat) (b : Ck.Bs) (bv : Value) (b3 b4 b7 b9 b11 : Nat) : Prop where
  st : StIs c W s g nm
  r3 : Box0 c W b3 43 (.pointer (some ⟨s, 0, none⟩))
  r4 : Box0 c W b4 3 (.int .i64 n)
  r7 : Box0 c W b7 22 bv
  r9 : Box0 c W b9 9 (.string ⟨(Ck.fileName nm n).toArray⟩)
  r11 : Box0 c W b11 9 (.string ⟨(Ck.tmpName nm).toArray⟩)
  dat : RdC c W bv b
  nml : nm.length ≤ 16
  num : n ≤ 1000000000
theorem SvIs.chg {i : Nat} {c c' : Nat → Nat} {W W' : World} {s g : Nat} {nm b : Ck.Bs} {n : Nat} {bv : Value} {b3 b4 b7 b9 b11 : Nat} (H : SvIs c W s g nm n b bv b3 b4 b7 b9 b11) (hc : Chg i c c' W W') (hi : i ≠ 0) : SvIs c' W' s g nm n b bv b3 b4 b7 b9 b11 :=
  ⟨H.st.chg hc hi, H.r3.chg hc hi, H.r4.chg hc hi, H.r7.chg hc hi, H.r9.chg hc hi, H.r11.chg hc hi, H.dat.chg hc hi, H.nml, H.num⟩
theorem SvIs.tsz {c : Nat → Nat} {W : World} {s g : Nat} {nm b : Ck.Bs} {n : Nat} {bv : Value} {b3 b4 b7 b9 b11 : Nat} (H : SvIs c W s g nm n b bv b3 b4 b7 b9 b11) : (⟨(Ck.tmpName nm).toArray⟩ : ByteArray).size ≤ 9223372036854775807 := by
  have := H.nml
  show (Ck.tmpName nm).toArray.size ≤ _
  rw [List.size_toArray]
  unfold Ck.tmpName
  rw [List.length_append]
  show nm.length + 4 ≤ _
  omega
theorem SvIs.fsz {c : Nat → Nat} {W : World} {s g : Nat} {nm b : Ck.Bs} {n : Nat} {bv : Value} {b3 b4 b7 b9 b11 : Nat} (H : SvIs c W s g nm n b bv b3 b4 b7 b9 b11) : (⟨(Ck.fileName nm n).toArray⟩ : ByteArray).size ≤ 9223372036854775807 := by
  have := H.nml
  have := H.num
  show (Ck.fileName nm n).toArray.size ≤ _
  rw [List.size_toArray, Ck.fileName_length (by omega)]
  omega
theorem SvIs.nm9 {c : Nat → Nat} {W : World} {s g : Nat} {nm b : Ck.Bs} {n : Nat} {bv : Value} {b3 b4 b7 b9 b11 : Nat} (H : SvIs c W s g nm n b bv b3 b4 b7 b9 b11) : nm.length ≤ 900 := by have := H.nml; omega
theorem SvIs.bvform {c : Nat → Nat} {W : World} {s g : Nat} {nm b : Ck.Bs} {n : Nat} {bv : Value} {b3 b4 b7 b9 b11 : Nat} (H : SvIs c W s g nm n b bv b3 b4 b7 b9 b11) : ∃ a k, bv = .slice a b.length k := H.dat.1.form
theorem Ck.Fit.few2 {nm : Ck.Bs} {d : Dk.D} (h : Ck.Fit nm d) : d.fs.length ≤ 1000000 := Nat.le_trans h.few (by decide)
theorem Ck.Fit.few3 {nm : Ck.Bs} {d : Dk.D} (h : Ck.Fit nm d) : d.fs.length ≤ 1073741824 := Nat.le_trans h.few (by decide)
theorem RdC.drw {c : Nat → Nat} {W : World} {v : Value} {l : Ck.Bs} (h : RdC c W v l) : RdC c W.drew v l := h.chg (Chg.of_belowSame (i := 1) ((Below.refl _ _).drew)) (by decide)

set_option maxRecDepth 100000 in
theorem sv_step0 {i : Nat} {c : Nat → Nat} {W : World} {s g : Nat} {D : Dk.D} {nm b : Ck.Bs} {n : Nat} {bv : Value} {b3 b4 b7 b9 b11 : Nat} (H : SvIs c W s g nm n b bv b3 b4 b7 b9 b11) (hd : DiskAt i c W g D) (hi : i ≠ 0) (hF : Ck.Fit nm D) (hbl : b.length ≤ 1073741824) (hP : ∀ f, Dk.find (Ck.tmpName nm) D.fs = some f → f.pend.length < 65536) :
    Calls Tryz.prog 58 #[.pointer (some ⟨b3, 0, none⟩), .pointer (some ⟨b11, 0, none⟩)] W (DkPost i c W g (Ck.step nm n b 0 D)) := by
  have nX := ck_discard hd H.st hi hF.few2 hF.bud (x := Ck.tmpName nm) (by have := H.nml; unfold Ck.tmpName; rw [List.length_append]; show nm.length + 4 ≤ 1000; omega)
  have hstep : Ck.step nm n b 0 D = Ck.discard D (Ck.tmpName nm) := rfl
  rw [hstep]
  obtain ⟨x0, x1⟩ := H.st.cells
  have y3 := H.r3.cell
  have y11 := H.r11.cell
  generalize Ck.discard D (Ck.tmpName nm) = r at nX ⊢
  obtain ⟨T, hT⟩ : ∃ T : ByteArray, T = ⟨(Ck.tmpName nm).toArray⟩ := ⟨_, rfl⟩
  rw [← hT] at nX y11
  clear H hF hP hd hstep hT
  go_enter Tryz.func58, Tryz.ntmps58
  go_wp2_with fail
  refine nX.mono ?_
  rintro e w1 ⟨c1, rfl, d1, h1⟩
  have HD1 := Lib.hid d1
  have HC1 := Lib.hid h1
  clear nX d1 h1
  go_wp2_with fail
  go_ret
  exact ⟨c1, rfl, HD1.out, HC1.out⟩

set_option maxRecDepth 100000 in
theorem sv_step1 {i : Nat} {c : Nat → Nat} {W : World} {s g : Nat} {D : Dk.D} {nm b : Ck.Bs} {n : Nat} {bv : Value} {b3 b4 b7 b9 b11 : Nat} (H : SvIs c W s g nm n b bv b3 b4 b7 b9 b11) (hd : DiskAt i c W g D) (hi : i ≠ 0) (hF : Ck.Fit nm D) (hbl : b.length ≤ 1073741824) (hP : ∀ f, Dk.find (Ck.tmpName nm) D.fs = some f → f.pend.length < 65536) :
    Calls Tryz.prog 59 #[.pointer (some ⟨b3, 0, none⟩), .pointer (some ⟨b11, 0, none⟩)] W (DkPost i c W g (Ck.step nm n b 1 D)) := by
  have hdr : Chg (i + 1) c c W W.drew := Chg.of_belowSame ((Below.refl _ _).drew)
  have hdd : DiskAt i c W.drew g D := hd.chg hdr (by omega) (by omega)
  have nX := dk_create hdd ⟨(Ck.tmpName nm).toArray⟩ (H.tsz) hF.bud hF.few3
  have hstep : Ck.step nm n b 1 D = D.create (Ck.tmpName nm) := rfl
  rw [hstep]
  obtain ⟨x0, x1⟩ := H.st.cells
  have y3 := H.r3.cell
  have y11 := H.r11.cell
  have hT : (⟨(Ck.tmpName nm).toArray⟩ : ByteArray).data.toList = Ck.tmpName nm := rfl
  rw [hT] at nX
  generalize D.create (Ck.tmpName nm) = r at nX ⊢
  obtain ⟨T, hT3⟩ : ∃ T : ByteArray, T = ⟨(Ck.tmpName nm).toArray⟩ := ⟨_, rfl⟩
  rw [← hT3] at nX y11
  clear H hF hP hd hstep hdd hT hT3
  go_enter Tryz.func59, Tryz.ntmps59
  go_wp2_with fail
  refine wp_region_still_tail 5 (by kernel_rfl) (by kernel_rfl) ?_
  simp only [List.take_succ_cons, List.take_zero, List.drop_succ_cons, List.drop_zero]
  change wpStill _ _ (World.drew _) _ _ _
  repeat still_step
  refine wpStill_nil ?_
  go_wp2_with fail
  refine nX.mono ?_
  rintro e w1 ⟨c1, rfl, d1, h1⟩
  have HD1 := Lib.hid d1
  have HC1 := Lib.hid h1
  clear nX d1 h1
  go_wp2_with fail
  go_ret
  exact ⟨c1, rfl, HD1.out, (Chg.of_belowSame ((Below.refl _ _).drew)).trans HC1.out⟩

set_option maxRecDepth 100000 in
theorem sv_step2 {i : Nat} {c : Nat → Nat} {W : World} {s g : Nat} {D : Dk.D} {nm b : Ck.Bs} {n : Nat} {bv : Value} {b3 b4 b7 b9 b11 : Nat} (H : SvIs c W s g nm n b bv b3 b4 b7 b9 b11) (hd : DiskAt i c W g D) (hi : i ≠ 0) (hF : Ck.Fit nm D) (hbl : b.length ≤ 1073741824) (hP : ∀ f, Dk.find (Ck.tmpName nm) D.fs = some f → f.pend.length < 65536) :
    Calls Tryz.prog 61 #[.pointer (some ⟨b3, 0, none⟩), .pointer (some ⟨b11, 0, none⟩), .pointer (some ⟨b7, 0, none⟩)] W (DkPost i c W g (Ck.step nm n b 2 D)) := by
  have hdr : Chg (i + 1) c c W W.drew := Chg.of_belowSame ((Below.refl _ _).drew)
  have hdd : DiskAt i c W.drew g D := hd.chg hdr (by omega) (by omega)
  have nX := dk_Append hdd ⟨(Ck.tmpName nm).toArray⟩ (H.tsz) hF.bud b bv H.dat.drw hbl hP
  have hstep : Ck.step nm n b 2 D = D.write (Ck.tmpName nm) (fun m => m) b := rfl
  rw [hstep]
  obtain ⟨x0, x1⟩ := H.st.cells
  have y3 := H.r3.cell
  have y11 := H.r11.cell
  have y7 := H.r7.cell
  have hT : (⟨(Ck.tmpName nm).toArray⟩ : ByteArray).data.toList = Ck.tmpName nm := rfl
  rw [hT] at nX
  generalize D.write (Ck.tmpName nm) (fun m => m) b = r at nX ⊢
  obtain ⟨ba, bc, hbv⟩ := H.bvform
  subst hbv
  obtain ⟨T, hT3⟩ : ∃ T : ByteArray, T = ⟨(Ck.tmpName nm).toArray⟩ := ⟨_, rfl⟩
  rw [← hT3] at nX y11
  clear H hF hP hd hstep hdd hT hT3
  go_enter Tryz.func61, Tryz.ntmps61
  go_wp2_with fail
  refine wp_region_still_tail 6 (by kernel_rfl) (by kernel_rfl) ?_
  simp only [List.take_succ_cons, List.take_zero, List.drop_succ_cons, List.drop_zero]
  change wpStill _ _ (World.drew _) _ _ _
  repeat still_step
  refine wpStill_nil ?_
  go_wp2_with fail
  refine nX.mono ?_
  rintro e w1 ⟨c1, rfl, d1, h1⟩
  have HD1 := Lib.hid d1
  have HC1 := Lib.hid h1
  clear nX d1 h1
  go_wp2_with fail
  go_ret
  exact ⟨c1, rfl, HD1.out, (Chg.of_belowSame ((Below.refl _ _).drew)).trans HC1.out⟩

set_option maxRecDepth 100000 in
theorem sv_step3 {i : Nat} {c : Nat → Nat} {W : World} {s g : Nat} {D : Dk.D} {nm b : Ck.Bs} {n : Nat} {bv : Value} {b3 b4 b7 b9 b11 : Nat} (H : SvIs c W s g nm n b bv b3 b4 b7 b9 b11) (hd : DiskAt i c W g D) (hi : i ≠ 0) (hF : Ck.Fit nm D) (hbl : b.length ≤ 1073741824) (hP : ∀ f, Dk.find (Ck.tmpName nm) D.fs = some f → f.pend.length < 65536) :
    Calls Tryz.prog 63 #[.pointer (some ⟨b3, 0, none⟩), .pointer (some ⟨b11, 0, none⟩)] W (DkPost i c W g (Ck.step nm n b 3 D)) := by
  have hdr : Chg (i + 1) c c W W.drew := Chg.of_belowSame ((Below.refl _ _).drew)
  have hdd : DiskAt i c W.drew g D := hd.chg hdr (by omega) (by omega)
  have nX := dk_Sync hdd ⟨(Ck.tmpName nm).toArray⟩ (H.tsz) hF.bud
  have hstep : Ck.step nm n b 3 D = D.sync (Ck.tmpName nm) := rfl
  rw [hstep]
  obtain ⟨x0, x1⟩ := H.st.cells
  have y3 := H.r3.cell
  have y11 := H.r11.cell
  have hT : (⟨(Ck.tmpName nm).toArray⟩ : ByteArray).data.toList = Ck.tmpName nm := rfl
  rw [hT] at nX
  generalize D.sync (Ck.tmpName nm) = r at nX ⊢
  obtain ⟨T, hT3⟩ : ∃ T : ByteArray, T = ⟨(Ck.tmpName nm).toArray⟩ := ⟨_, rfl⟩
  rw [← hT3] at nX y11
  clear H hF hP hd hstep hdd hT hT3
  go_enter Tryz.func63, Tryz.ntmps63
  go_wp2_with fail
  refine wp_region_still_tail 5 (by kernel_rfl) (by kernel_rfl) ?_
  simp only [List.take_succ_cons, List.take_zero, List.drop_succ_cons, List.drop_zero]
  change wpStill _ _ (World.drew _) _ _ _
  repeat still_step
  refine wpStill_nil ?_
  go_wp2_with fail
  refine nX.mono ?_
  rintro e w1 ⟨c1, rfl, d1, h1⟩
  have HD1 := Lib.hid d1
  have HC1 := Lib.hid h1
  clear nX d1 h1
  go_wp2_with fail
  go_ret
  exact ⟨c1, rfl, HD1.out, (Chg.of_belowSame ((Below.refl _ _).drew)).trans HC1.out⟩

set_option maxRecDepth 100000 in
theorem sv_step4 {i : Nat} {c : Nat → Nat} {W : World} {s g : Nat} {D : Dk.D} {nm b : Ck.Bs} {n : Nat} {bv : Value} {b3 b4 b7 b9 b11 : Nat} (H : SvIs c W s g nm n b bv b3 b4 b7 b9 b11) (hd : DiskAt i c W g D) (hi : i ≠ 0) (hF : Ck.Fit nm D) (hbl : b.length ≤ 1073741824) (hP : ∀ f, Dk.find (Ck.tmpName nm) D.fs = some f → f.pend.length < 65536) :
    Calls Tryz.prog 65 #[.pointer (some ⟨b3, 0, none⟩), .pointer (some ⟨b11, 0, none⟩), .pointer (some ⟨b9, 0, none⟩)] W (DkPost i c W g (Ck.step nm n b 4 D)) := by
  have hdr : Chg (i + 1) c c W W.drew := Chg.of_belowSame ((Below.refl _ _).drew)
  have hdd : DiskAt i c W.drew g D := hd.chg hdr (by omega) (by omega)
  have nX := dk_Rename hdd ⟨(Ck.tmpName nm).toArray⟩ ⟨(Ck.fileName nm n).toArray⟩ (H.tsz) (H.fsz) hF.bud hF.few3
  have hstep : Ck.step nm n b 4 D = D.rename (Ck.tmpName nm) (Ck.fileName nm n) := rfl
  rw [hstep]
  obtain ⟨x0, x1⟩ := H.st.cells
  have y3 := H.r3.cell
  have y11 := H.r11.cell
  have y9 := H.r9.cell
  have hT : (⟨(Ck.tmpName nm).toArray⟩ : ByteArray).data.toList = Ck.tmpName nm := rfl
  rw [hT] at nX
  have hT2 : (⟨(Ck.fileName nm n).toArray⟩ : ByteArray).data.toList = Ck.fileName nm n := rfl
  rw [hT2] at nX
  generalize D.rename (Ck.tmpName nm) (Ck.fileName nm n) = r at nX ⊢
  obtain ⟨T, hT3⟩ : ∃ T : ByteArray, T = ⟨(Ck.tmpName nm).toArray⟩ := ⟨_, rfl⟩
  rw [← hT3] at nX y11
  obtain ⟨U, hU⟩ : ∃ U : ByteArray, U = ⟨(Ck.fileName nm n).toArray⟩ := ⟨_, rfl⟩
  rw [← hU] at nX y9
  clear H hF hP hd hstep hdd hT hT3 hT2 hU
  go_enter Tryz.func65, Tryz.ntmps65
  go_wp2_with fail
  refine wp_region_still_tail 6 (by kernel_rfl) (by kernel_rfl) ?_
  simp only [List.take_succ_cons, List.take_zero, List.drop_succ_cons, List.drop_zero]
  change wpStill _ _ (World.drew _) _ _ _
  repeat still_step
  refine wpStill_nil ?_
  go_wp2_with fail
  refine nX.mono ?_
  rintro e w1 ⟨c1, rfl, d1, h1⟩
  have HD1 := Lib.hid d1
  have HC1 := Lib.hid h1
  clear nX d1 h1
  go_wp2_with fail
  go_ret
  exact ⟨c1, rfl, HD1.out, (Chg.of_belowSame ((Below.refl _ _).drew)).trans HC1.out⟩

set_option maxRecDepth 100000 in
theorem sv_step5 {i : Nat} {c : Nat → Nat} {W : World} {s g : Nat} {D : Dk.D} {nm b : Ck.Bs} {n : Nat} {bv : Value} {b3 b4 b7 b9 b11 : Nat} (H : SvIs c W s g nm n b bv b3 b4 b7 b9 b11) (hd : DiskAt i c W g D) (hi : i ≠ 0) (hF : Ck.Fit nm D) (hbl : b.length ≤ 1073741824) (hP : ∀ f, Dk.find (Ck.tmpName nm) D.fs = some f → f.pend.length < 65536) :
    Calls Tryz.prog 67 #[.pointer (some ⟨b3, 0, none⟩), .pointer (some ⟨b4, 0, none⟩)] W (DkPost i c W g (Ck.step nm n b 5 D)) := by
  have nX := ck_thin hd H.st hi hF.few2 H.nm9 hF.nml hF.tame hF.ord hF.bud (n := n)
  have hstep : Ck.step nm n b 5 D = Ck.thin D nm n := rfl
  rw [hstep]
  obtain ⟨x0, x1⟩ := H.st.cells
  have y3 := H.r3.cell
  have y4 := H.r4.cell
  generalize Ck.thin D nm n = r at nX ⊢
  clear H hF hP hd hstep
  go_enter Tryz.func67, Tryz.ntmps67
  go_wp2_with fail
  refine nX.mono ?_
  rintro e w1 ⟨c1, rfl, d1, h1⟩
  have HD1 := Lib.hid d1
  have HC1 := Lib.hid h1
  clear nX d1 h1
  go_wp2_with fail
  go_ret
  exact ⟨c1, rfl, HD1.out, HC1.out⟩

end Go.Proofs.YtamencnachmhoaaGreatDoor

namespace Go.Proofs.YtamencnachmhoaaGreatDoor
open Go.RowKit

theorem sv_S_step {w4 w w3 : World} {p1 p2 p3 p4 : Addr} {x1 x2 x3 x4 : Value} (H : Below w4.heap.size w4 w ∧ w.cell? p1 = some x1 ∧ w.cell? p2 = some x2 ∧ w.cell? p3 = some x3 ∧ w.cell? p4 = some x4) (hb : Below w.heap.size w w3) :
    Below w4.heap.size w4 w3 ∧ w3.cell? p1 = some x1 ∧ w3.cell? p2 = some x2 ∧ w3.cell? p3 = some x3 ∧ w3.cell? p4 = some x4 :=
  ⟨H.1.trans (hb.mono H.1.size), (hb.cell (World.block_lt_of_cell? w _ H.2.1)).trans H.2.1, (hb.cell (World.block_lt_of_cell? w _ H.2.2.1)).trans H.2.2.1, (hb.cell (World.block_lt_of_cell? w _ H.2.2.2.1)).trans H.2.2.2.1, (hb.cell (World.block_lt_of_cell? w _ H.2.2.2.2)).trans H.2.2.2.2⟩

theorem sv_S_store {w4 w : World} {p1 p2 p3 p4 : Addr} {x1 x2 x3 x4 : Value} {b : Nat} {v : Value} (H : Below w4.heap.size w4 w ∧ w.cell? p1 = some x1 ∧ w.cell? p2 = some x2 ∧ w.cell? p3 = some x3 ∧ w.cell? p4 = some x4)
    (hP : p1.block < w4.heap.size ∧ p2.block < w4.heap.size ∧ p3.block < w4.heap.size ∧ p4.block < w4.heap.size) (hb : w4.heap.size ≤ b) :
    Below w4.heap.size w4 (w.setCell ⟨b, 0, none⟩ v) ∧ (w.setCell ⟨b, 0, none⟩ v).cell? p1 = some x1 ∧ (w.setCell ⟨b, 0, none⟩ v).cell? p2 = some x2 ∧ (w.setCell ⟨b, 0, none⟩ v).cell? p3 = some x3 ∧ (w.setCell ⟨b, 0, none⟩ v).cell? p4 = some x4 := by
  have h := (Below.refl w4.heap.size w).setCell (p := ⟨b, 0, none⟩) hb v
  exact ⟨H.1.setCell (p := ⟨b, 0, none⟩) hb v, (h.cell hP.1).trans H.2.1, (h.cell hP.2.1).trans H.2.2.1, (h.cell hP.2.2.1).trans H.2.2.2.1, (h.cell hP.2.2.2).trans H.2.2.2.2⟩
theorem sv_box_d {w w5 : World} {cs : Array Value} {t : TypeId} (hb : Below (w.alloc (.cells cs t)).drew.heap.size (w.alloc (.cells cs t)).drew w5) : w5.heap[w.heap.size]? = some (.cells cs t (0, 0)) :=
  (hb.block _ (show w.heap.size < (w.alloc (.cells cs t)).heap.size by simp)).trans (heap_alloc_new w (.cells cs t))
theorem sv_box {w w5 : World} {cs : Array Value} {t : TypeId} (hb : Below (w.alloc (.cells cs t)).heap.size (w.alloc (.cells cs t)) w5) : w5.heap[w.heap.size]? = some (.cells cs t (0, 0)) :=
  (hb.block _ (by simp)).trans (heap_alloc_new _ _)
theorem sv_box_cell {w : World} {b : Nat} {v : Value} {t : TypeId} (h : w.heap[b]? = some (.cells #[v] t (0, 0))) : w.cell? ⟨b, 0, none⟩ = some v := by rw [cell_of_row _ _ _ _ _ _ h]; rfl

set_option maxRecDepth 100000 in
set_option maxHeartbeats 1000000 in
theorem ck_Save {i : Nat} {c : Nat → Nat} {W : World} {s g : Nat} {D : Dk.D} {nm data : Ck.Bs} {n : Nat} {bv : Value} (hd : DiskAt i c W g D) (hs : StIs c W s g nm) (hi : i ≠ 0) (hup : D.down = false) (hv : Wl.validP nm = true)
    (hrd : RdC c W bv data) (hdl : data.length ≤ 1000000) (hn : n < 100) (hseq : (Ck.seqs D nm).any (fun m => decide ((n : Int) ≤ (m : Int))) = false) (hgood : Ck.Good nm n (Ck.encode n data) [0, 1, 2, 3, 4, 5] D) :
    Calls Tryz.prog 19 #[.pointer (some ⟨s, 0, none⟩), .int .i64 n, bv] W (DkPost i c W g (Ck.save D nm n data)) := by
  have hF := hgood.1
  have hnl := (Ck.vp_parts hv).2.2
  have hSV : Ck.save D nm n data = Ck.stepsL nm n (Ck.encode n data) [0, 1, 2, 3, 4, 5] D := by
    unfold Ck.save
    rw [if_neg (by omega), if_neg (by omega), if_neg (by simp [hup]), hseq]
    rfl
  have hEC : Ck.encodeC n data = (Ck.encode n data, 0) := by
    unfold Ck.encodeC
    rw [if_neg (by omega), if_neg (by omega)]
    rfl
  have hEL := Ck.encode_pos n data
  obtain ⟨W1, hW1⟩ : ∃ W1, W1 = (W.alloc (.cells #[.pointer (some ⟨s, 0, none⟩)] 43)).alloc (.cells #[.int .i64 n] 3) := ⟨_, rfl⟩
  have s1 : (W.alloc (.cells #[.pointer (some ⟨s, 0, none⟩)] 43)).heap.size = W.heap.size + 1 := by simp
  have b1 : Below W.heap.size W W1 := by rw [hW1]; exact ((Below.refl _ _).alloc (Nat.le_refl _) _).alloc (by omega) _
  have r4 : W1.heap[W.heap.size + 1]? = some (.cells #[.int .i64 n] 3 (0, 0)) := by
    have h := heap_alloc_new (W.alloc (.cells #[.pointer (some ⟨s, 0, none⟩)] 43)) (.cells #[.int .i64 n] 3)
    rw [s1, ← hW1] at h
    exact h
  have r3 : W1.heap[W.heap.size]? = some (.cells #[.pointer (some ⟨s, 0, none⟩)] 43 (0, 0)) := by
    rw [hW1, Below.heap_alloc _ _ _ (by simp)]
    exact heap_alloc_new W _
  have hs1 : W1.heap.size = W.heap.size + 1 + 1 := by rw [hW1]; simp
  have n1 := ck_Encode W1 n bv data ((hrd.1.below b1).mono b1.size) (by omega)
  rw [hEC] at n1
  obtain ⟨E, hE⟩ : ∃ E, E = Ck.encode n data := ⟨_, rfl⟩
  rw [← hE] at n1 hSV hgood hEL
  obtain ⟨av, kv, rfl⟩ := hrd.1.form
  have HD := Lib.hid hd
  have HS := Lib.hid hs
  have HSV := Lib.hid hSV
  have HG := Lib.hid hgood
  have HF := Lib.hid hF
  have HEL := Lib.hid hEL
  have HV := Lib.hid hv
  have HSEQ := Lib.hid hseq
  have HNL := Lib.hid hnl
  have HB1 := Lib.hid b1
  have HW1 := Lib.hid hW1
  have R3 := Lib.hid r3
  have R4 := Lib.hid r4
  have HN := Lib.hid hn
  have HUP := Lib.hid hup
  have c3 : W1.cell? ⟨W.heap.size, 0, none⟩ = some (.pointer (some ⟨s, 0, none⟩)) := by rw [cell_of_row _ _ _ _ _ _ r3]; rfl
  have c4 : W1.cell? ⟨W.heap.size + 1, 0, none⟩ = some (.int .i64 n) := by rw [cell_of_row _ _ _ _ _ _ r4]; rfl
  clear hd hs hSV hgood hF hEL hv hseq hnl b1 hW1 r3 r4 hrd hE hEC hn hup s1
  go_enter Tryz.func19, Tryz.ntmps19
  go_upto_region 1 with fail
  rw [← HW1.out]
  go_upto_region 4 with (go_at_call 13; refine n1.mono ?_; rintro e w2 ⟨ev, rfl, o2, b2⟩; have HO2 := Lib.hid o2; obtain ⟨ea, ek, rfl⟩ := own_slice o2)
  obtain ⟨w3, hw3⟩ : ∃ w3, w3 = w2.alloc (.cells #[.slice ea E.length ek] 22) := ⟨_, rfl⟩
  have b3 : Below w2.heap.size w2 w3 := by rw [hw3]; exact (Below.refl _ _).alloc (Nat.le_refl _) _
  have r7 : w3.heap[w2.heap.size]? = some (.cells #[.slice ea E.length ek] 22 (0, 0)) := by rw [hw3]; exact heap_alloc_new _ _
  have b13 : Below W1.heap.size W1 w3 := b2.trans (b3.mono b2.size)
  have bW3 : Below W.heap.size W w3 := HB1.out.trans (b13.mono HB1.out.size)
  have hd3 := HD.out.chg (Chg.of_belowSame (i := i + 1) bW3) (by omega) (by omega)
  have hs3 := HS.out.below bW3
  have nD := dk_Down hd3
  rw [HUP.out] at nD
  have hnm9 : nm.length ≤ 900 := by have := HNL.out; omega
  have nS := ck_Sequences hd3 hs3 hi HF.out.few2 hnm9 HF.out.nml HF.out.tame HF.out.ord
  have hsl : (Ck.seqs D nm).length ≤ 1000000 := by
    rw [Ck.seqs_eq]
    refine Nat.le_trans (Ck.seqsL_length _ _) (Nat.le_trans (List.length_filterMap_le _ _) ?_)
    unfold Dk.D.names
    rw [if_neg (by simp [HUP.out]), List.length_map]
    exact HF.out.few2
  have c3' := (b13.cell (p := ⟨W.heap.size, 0, none⟩) (by show W.heap.size < _; omega)).trans c3
  have c4' := (b13.cell (p := ⟨W.heap.size + 1, 0, none⟩) (by show W.heap.size + 1 < _; omega)).trans c4
  obtain ⟨x0, x1⟩ := hs3.cells
  have HW3 := Lib.hid hw3
  have HBW3 := Lib.hid bW3
  have HB13 := Lib.hid b13
  have R7 := Lib.hid r7
  have HO3 := Lib.hid (own_keep HO2.out (fun g' hg' => b3.block g' (HO2.out.lt g' hg').2))
  have hw13 : W1.heap.size ≤ w2.heap.size := b2.size
  have hmf : ∀ (fn : Fn) (first cap : Array Value) (w : World), (Instr.makeFunc fn first cap).run Tryz.prog w = .ok (.func fn first cap) w := fun _ _ _ _ => rfl
  clear n1 c3 c4 b2 o2 HO2 b3 r7 b13 bW3 hd3 hs3 hw3
  rw [← HW3.out]
  go_upto_region 10 with (first
    | (go_at_call 53; refine nD.mono ?_; rintro e w4 ⟨rfl, rfl⟩)
    | (go_at_call 21; refine nS.mono ?_; rintro e w4 ⟨sv, rfl, o4, b4⟩; have nC := ck_anyGe w4 sv (Ck.seqs D nm) _ (W.heap.size + 1) n o4 ((b4.cell (p := ⟨W.heap.size + 1, 0, none⟩) (World.block_lt_of_cell? _ _ c4')).trans c4') hsl; rw [HSEQ.out] at nC; obtain ⟨sa, sk, rfl⟩ := own_slice o4)
    | (go_at_call 56; refine nC.mono ?_; rintro e w5 ⟨rfl, rfl⟩))
  have hb4 := b4
  have HBW4 := Lib.hid (HBW3.out.trans (b4.mono HBW3.out.size))
  have HB4 := Lib.hid b4
  have q3 := (b4.cell (p := ⟨W.heap.size, 0, none⟩) (World.block_lt_of_cell? _ _ c3')).trans c3'
  have q4 := (b4.cell (p := ⟨W.heap.size + 1, 0, none⟩) (World.block_lt_of_cell? _ _ c4')).trans c4'
  have q0 := (b4.cell (p := ⟨s, 0, none⟩) (World.block_lt_of_cell? _ _ x0)).trans x0
  have q1 := (b4.cell (p := ⟨s, 1, none⟩) (World.block_lt_of_cell? _ _ x1)).trans x1
  clear nD nS o4 hb4 c3' c4' x0 x1 hsl hnm9 b4
  obtain ⟨N, hN⟩ : ∃ N : ByteArray, N = ⟨nm.toArray⟩ := ⟨_, rfl⟩
  obtain ⟨FN, hFN⟩ : ∃ FN : ByteArray, FN = ⟨(Ck.fileName nm n).toArray⟩ := ⟨_, rfl⟩
  have nF : Hid (∀ o, Calls Tryz.prog 11 #[.string N, .int .i64 n] o fun e W' => e = .returned (.tuple #[.string FN, .int .i64 0]) ∧ Below o.heap.size o W') := Lib.hid (fun o => by
    have h := ck_FileName o N n HN.out (by rw [hN]; have := HNL.out; show nm.toArray.size ≤ _; simp; omega) (by rw [hN]; exact HV.out)
    rw [hFN]
    rw [hN] at h ⊢
    exact h)
  rw [← hN] at q1
  have HFN := Lib.hid hFN
  have HNN := Lib.hid hN
  clear hN hFN
  go_cut [9, 10] from 38 to 48 (fun v9 v10 wx => ∃ b9 : Nat, v9 = .pointer (some ⟨b9, 0, none⟩) ∧ v10 = .int .i64 0 ∧ Hid (w4.heap.size ≤ b9 ∧ wx.heap[b9]? = some (.cells #[.string FN] 9 (0, 0))) ∧ Hid (Below w4.heap.size w4 wx))
  case first =>
    have hS0 : Below w4.heap.size w4 w4 ∧ w4.cell? ⟨W.heap.size, 0, none⟩ = some (.pointer (some ⟨s, 0, none⟩)) ∧ w4.cell? ⟨W.heap.size + 1, 0, none⟩ = some (.int .i64 n) ∧ w4.cell? ⟨s, 0, none⟩ = some (.pointer (some ⟨g, 0, none⟩)) ∧ w4.cell? ⟨s, 1, none⟩ = some (.string N) := ⟨Below.refl _ _, q3, q4, q0, q1⟩
    have hPB := And.intro (World.block_lt_of_cell? _ _ q3) (And.intro (World.block_lt_of_cell? _ _ q4) (And.intro (World.block_lt_of_cell? _ _ q0) (World.block_lt_of_cell? _ _ q1)))
    go_region_held3 (fun w' => Below w4.heap.size w4 w' ∧ w'.cell? ⟨W.heap.size, 0, none⟩ = some (.pointer (some ⟨s, 0, none⟩)) ∧ w'.cell? ⟨W.heap.size + 1, 0, none⟩ = some (.int .i64 n) ∧ w'.cell? ⟨s, 0, none⟩ = some (.pointer (some ⟨g, 0, none⟩)) ∧ w'.cell? ⟨s, 1, none⟩ = some (.string N))
      (first | assumption | exact Below.drew (by assumption) | exact sv_S_step (by assumption) ((Below.refl _ _).alloc (Nat.le_refl _) _) | exact sv_S_step (by assumption) (Below.refl _ _).drew | exact sv_S_store (by assumption) hPB (by first | exact Nat.le_refl _ | exact (And.left (by assumption)).size | omega) | (refine ⟨?_, ?_, ?_, ?_, ?_⟩ <;> first | assumption | exact Below.drew (by assumption) | go_keep) | go_keep)
      (first | (go_at_call 11; refine (nF.out _).mono ?_; rintro e w6 ⟨rfl, b6⟩; have hS6 := sv_S_step (by assumption) b6; (first | (have hbox := sv_box b6) | (have hbox := sv_box_d b6) | skip); (try (have zc := sv_box_cell hbox; have zf := dk_frozen _ _ 0 _ _ hbox))))
    · go_wp2_with fail
      go_meet
      case rel => exact ⟨w6.heap.size, rfl, rfl, Lib.hid ⟨hS6.1.size, heap_alloc_new _ _⟩, Lib.hid (hS6.1.alloc hS6.1.size _)⟩
    · go_wp2_with fail
      go_meet
      case rel => exact ⟨w4.heap.size, rfl, rfl, Lib.hid ⟨Nat.le_refl _, (show Boxed w6 w4.heap.size 9 _ from hbox).set _⟩, Lib.hid (hS6.1.setCell (p := ⟨w4.heap.size, 0, none⟩) (Nat.le_refl _) _)⟩
  case rest =>
    obtain ⟨b9, rfl, rfl, H9, HB9⟩ := hcut
    have bWc : Below W.heap.size W wc := HBW4.out.trans (HB9.out.mono HBW4.out.size)
    have hnm1 : nm.length ≤ 1000 := by have := HNL.out; omega
    have nT := ck_temporary (HS.out.below bWc) hnm1
    obtain ⟨T, hT⟩ : ∃ T : ByteArray, T = ⟨(Ck.tmpName nm).toArray⟩ := ⟨_, rfl⟩
    rw [← hT] at nT
    have HTN := Lib.hid hT
    have k3 := (HB9.out.cell (p := ⟨W.heap.size, 0, none⟩) (World.block_lt_of_cell? _ _ q3)).trans q3
    obtain ⟨w7, hw7⟩ : ∃ w7, w7 = wc.alloc (.cells #[.string T] 9) := ⟨_, rfl⟩
    have b7 : Below wc.heap.size wc w7 := by rw [hw7]; exact (Below.refl _ _).alloc (Nat.le_refl _) _
    have r11 : w7.heap[wc.heap.size]? = some (.cells #[.string T] 9 (0, 0)) := by rw [hw7]; exact heap_alloc_new _ _
    obtain ⟨w8, hw8⟩ : ∃ w8, w8 = w7.alloc (.cells #[
        .func (.func 58) #[] #[.pointer (some ⟨W.heap.size, 0, none⟩), .pointer (some ⟨wc.heap.size, 0, none⟩)],
        .func (.func 59) #[] #[.pointer (some ⟨W.heap.size, 0, none⟩), .pointer (some ⟨wc.heap.size, 0, none⟩)],
        .func (.func 61) #[] #[.pointer (some ⟨W.heap.size, 0, none⟩), .pointer (some ⟨wc.heap.size, 0, none⟩), .pointer (some ⟨w2.heap.size, 0, none⟩)],
        .func (.func 63) #[] #[.pointer (some ⟨W.heap.size, 0, none⟩), .pointer (some ⟨wc.heap.size, 0, none⟩)],
        .func (.func 65) #[] #[.pointer (some ⟨W.heap.size, 0, none⟩), .pointer (some ⟨wc.heap.size, 0, none⟩), .pointer (some ⟨b9, 0, none⟩)],
        .func (.func 67) #[] #[.pointer (some ⟨W.heap.size, 0, none⟩), .pointer (some ⟨W.heap.size + 1, 0, none⟩)]] 61) := ⟨_, rfl⟩
    have b8 : Below w7.heap.size w7 w8 := by rw [hw8]; exact (Below.refl _ _).alloc (Nat.le_refl _) _
    have rfn : w8.heap[w7.heap.size]? = some (.cells #[
        .func (.func 58) #[] #[.pointer (some ⟨W.heap.size, 0, none⟩), .pointer (some ⟨wc.heap.size, 0, none⟩)],
        .func (.func 59) #[] #[.pointer (some ⟨W.heap.size, 0, none⟩), .pointer (some ⟨wc.heap.size, 0, none⟩)],
        .func (.func 61) #[] #[.pointer (some ⟨W.heap.size, 0, none⟩), .pointer (some ⟨wc.heap.size, 0, none⟩), .pointer (some ⟨w2.heap.size, 0, none⟩)],
        .func (.func 63) #[] #[.pointer (some ⟨W.heap.size, 0, none⟩), .pointer (some ⟨wc.heap.size, 0, none⟩)],
        .func (.func 65) #[] #[.pointer (some ⟨W.heap.size, 0, none⟩), .pointer (some ⟨wc.heap.size, 0, none⟩), .pointer (some ⟨b9, 0, none⟩)],
        .func (.func 67) #[] #[.pointer (some ⟨W.heap.size, 0, none⟩), .pointer (some ⟨W.heap.size + 1, 0, none⟩)]] 61 (0, 0)) := by rw [hw8]; exact heap_alloc_new _ _
    have hw7s : w7.heap.size = wc.heap.size + 1 := by rw [hw7]; simp
    have bc8 : Below wc.heap.size wc w8 := b7.trans (b8.mono b7.size)
    have bW8 : Below W.heap.size W w8 := bWc.trans (bc8.mono bWc.size)
    have b48 : Below w4.heap.size w4 w8 := HB9.out.trans (bc8.mono HB9.out.size)
    have b38 : Below w3.heap.size w3 w8 := HB4.out.trans (b48.mono HB4.out.size)
    have b18 : Below W1.heap.size W1 w8 := HB13.out.trans (b38.mono HB13.out.size)
    have hs9 := (Array.getElem?_eq_some_iff.1 H9.out.2).1
    have hw3s : w2.heap.size < w3.heap.size := (Array.getElem?_eq_some_iff.1 R7.out).1
    have hw4s := HB4.out.size
    have hwcs := HB9.out.size
    have h9le := H9.out.1
    have SV : SvIs (pnt c W.heap.size 0) w8 s g nm n E (.slice ea E.length ek) W.heap.size (W.heap.size + 1) w2.heap.size b9 wc.heap.size :=
      { st := HS.out.chg (Chg.of_below (i := i + 1) bW8 0) (by omega)
        r3 := ⟨(b18.block _ (by omega)).trans R3.out, pnt_new (Nat.le_refl _)⟩
        r4 := ⟨(b18.block _ (by omega)).trans R4.out, pnt_new (by omega)⟩
        r7 := ⟨(b38.block _ (by omega)).trans R7.out, pnt_new (by omega)⟩
        r9 := ⟨by rw [← HFN.out]; exact (bc8.block _ hs9).trans H9.out.2, pnt_new (by omega)⟩
        r11 := ⟨by rw [← HTN.out]; exact (b8.block _ (by omega)).trans r11, pnt_new (by omega)⟩
        dat := RdC.of_own (own_keep HO3.out (fun g' hg' => b38.block g' (HO3.out.lt g' hg').2)) (fun b hb _ => pnt_new (by omega))
        nml := HNL.out
        num := by have := HN.out; omega }
    have hcf : pnt c W.heap.size 0 w7.heap.size = 0 := pnt_new (by omega)
    have HC0 : Hid (Chg i c (pnt c W.heap.size 0) W w8) := Lib.hid (Chg.of_below bW8 0)
    have HD8 : Hid (DiskAt i (pnt c W.heap.size 0) w8 g D) := Lib.hid (HD.out.chg (Chg.of_below (i := i + 1) bW8 0) (by omega) (by omega))
    have HSV8 := Lib.hid SV
    have HRF : Hid (w8.heap[w7.heap.size]? = some (.cells #[
        .func (.func 58) #[] #[.pointer (some ⟨W.heap.size, 0, none⟩), .pointer (some ⟨wc.heap.size, 0, none⟩)],
        .func (.func 59) #[] #[.pointer (some ⟨W.heap.size, 0, none⟩), .pointer (some ⟨wc.heap.size, 0, none⟩)],
        .func (.func 61) #[] #[.pointer (some ⟨W.heap.size, 0, none⟩), .pointer (some ⟨wc.heap.size, 0, none⟩), .pointer (some ⟨w2.heap.size, 0, none⟩)],
        .func (.func 63) #[] #[.pointer (some ⟨W.heap.size, 0, none⟩), .pointer (some ⟨wc.heap.size, 0, none⟩)],
        .func (.func 65) #[] #[.pointer (some ⟨W.heap.size, 0, none⟩), .pointer (some ⟨wc.heap.size, 0, none⟩), .pointer (some ⟨b9, 0, none⟩)],
        .func (.func 67) #[] #[.pointer (some ⟨W.heap.size, 0, none⟩), .pointer (some ⟨W.heap.size + 1, 0, none⟩)]] 61 (0, 0)) ∧ pnt c W.heap.size 0 w7.heap.size = 0) := Lib.hid ⟨rfn, hcf⟩
    generalize pnt c W.heap.size 0 = c0 at *
    have HW7 := Lib.hid hw7
    have HW8 := Lib.hid hw8
    have HSVE : Hid (Ck.save D nm n data = Ck.stepsL nm n E ([0, 1, 2, 3, 4, 5].drop 0) D) := HSV
    have HGE : Hid (Ck.Good nm n E ([0, 1, 2, 3, 4, 5].drop 0) D) := HG
    have HELb : Hid (E.length ≤ 1073741824) := Lib.hid (by have := HEL.out.2; omega)
    clear hT b7 r11 b8 rfn bc8 bW8 b48 b38 b18 SV hcf hw7 hw8 bWc hnm1 q0 q1 q3 q4 hw7s hw3s hw4s hwcs h9le hs9
    go_upto_region 12 with (go_at_call 55; refine nT.mono ?_; rintro e w9 ⟨rfl, rfl⟩)
    rw [← HW7.out]
    clear nT k3
    go_wp2_with fail
    rw [← HW8.out]
    obtain ⟨bf, hbf⟩ : ∃ bf, bf = w7.heap.size := ⟨_, rfl⟩
    rw [← hbf] at HRF ⊢
    clear hbf
    go_loopw [57] (fun kv wr => ∃ (k : Nat) (c' : Nat → Nat) (d : Dk.D), kv = .int .i64 k ∧ k ≤ 6 ∧ Hid (DiskAt i c' wr g d) ∧ Hid (SvIs c' wr s g nm n E (.slice ea E.length ek) W.heap.size (W.heap.size + 1) w2.heap.size b9 wc.heap.size) ∧ Hid (Chg i c0 c' w8 wr) ∧
      Hid (wr.heap[bf]? = some (.cells #[
        .func (.func 58) #[] #[.pointer (some ⟨W.heap.size, 0, none⟩), .pointer (some ⟨wc.heap.size, 0, none⟩)],
        .func (.func 59) #[] #[.pointer (some ⟨W.heap.size, 0, none⟩), .pointer (some ⟨wc.heap.size, 0, none⟩)],
        .func (.func 61) #[] #[.pointer (some ⟨W.heap.size, 0, none⟩), .pointer (some ⟨wc.heap.size, 0, none⟩), .pointer (some ⟨w2.heap.size, 0, none⟩)],
        .func (.func 63) #[] #[.pointer (some ⟨W.heap.size, 0, none⟩), .pointer (some ⟨wc.heap.size, 0, none⟩)],
        .func (.func 65) #[] #[.pointer (some ⟨W.heap.size, 0, none⟩), .pointer (some ⟨wc.heap.size, 0, none⟩), .pointer (some ⟨b9, 0, none⟩)],
        .func (.func 67) #[] #[.pointer (some ⟨W.heap.size, 0, none⟩), .pointer (some ⟨W.heap.size + 1, 0, none⟩)]] 61 (0, 0)) ∧ c' bf = 0) ∧ Hid (Ck.save D nm n data = Ck.stepsL nm n E ([0, 1, 2, 3, 4, 5].drop k) d) ∧ Hid (Ck.Good nm n E ([0, 1, 2, 3, 4, 5].drop k) d)) (fun kv _ => 6 - (RowKit.intOf kv).toNat)
    case atStart => exact ⟨0, c0, D, rfl, Nat.zero_le _, HD8, HSV8, Lib.hid (Chg.refl _ _ _), HRF, HSVE, HGE⟩
    case round =>
      obtain ⟨k, c', d, rfl, hk, HDd, HSd, HCd, HRd, HTd, HGd⟩ := hrel
      by_cases hlt : k < 6
      · have hk6 : k = 0 ∨ k = 1 ∨ k = 2 ∨ k = 3 ∨ k = 4 ∨ k = 5 := by omega
        rcases hk6 with rfl | rfl | rfl | rfl | rfl | rfl
        · have nX := sv_step0 HSd.out HDd.out hi HGd.out.1 HELb.out HGd.out.2.1
          have HT2 : Hid (Ck.save D nm n data = if (Ck.step nm n E 0 d).2 ≠ 0 then Ck.step nm n E 0 d else Ck.stepsL nm n E [1, 2, 3, 4, 5] (Ck.step nm n E 0 d).1) := HTd
          have HG2 : Hid ((Ck.step nm n E 0 d).2 = 0 → Ck.Good nm n E [1, 2, 3, 4, 5] (Ck.step nm n E 0 d).1) := Lib.hid HGd.out.2.2
          have eg : ∀ args w, (callFunc 58 args).run Tryz.prog w = .ok (.enter 58 args) w := enters_of Tryz.func58 (by kernel_rfl) rfl
          have y0 : wr.cell? ⟨bf, 0, none⟩ = some (.func (.func 58) #[] #[.pointer (some ⟨W.heap.size, 0, none⟩), .pointer (some ⟨wc.heap.size, 0, none⟩)]) := by rw [cell_of_row _ _ _ _ _ _ HRd.out.1]; rfl
          generalize Ck.step nm n E 0 d = r at *
          go_upto_region 16 with (go_at_fn 58; refine nX.mono ?_; rintro e w9 ⟨c9, rfl, d9, h9⟩)
          have HD9 := Lib.hid d9
          have HC9 : Hid (Chg i c0 c9 w8 w9) := Lib.hid (HCd.out.trans h9)
          have HS9 := Lib.hid (HSd.out.chg h9 hi)
          have hbl := (Array.getElem?_eq_some_iff.1 HRd.out.1).1
          have HR9 : Hid (w9.heap[bf]? = some (.cells #[
        .func (.func 58) #[] #[.pointer (some ⟨W.heap.size, 0, none⟩), .pointer (some ⟨wc.heap.size, 0, none⟩)],
        .func (.func 59) #[] #[.pointer (some ⟨W.heap.size, 0, none⟩), .pointer (some ⟨wc.heap.size, 0, none⟩)],
        .func (.func 61) #[] #[.pointer (some ⟨W.heap.size, 0, none⟩), .pointer (some ⟨wc.heap.size, 0, none⟩), .pointer (some ⟨w2.heap.size, 0, none⟩)],
        .func (.func 63) #[] #[.pointer (some ⟨W.heap.size, 0, none⟩), .pointer (some ⟨wc.heap.size, 0, none⟩)],
        .func (.func 65) #[] #[.pointer (some ⟨W.heap.size, 0, none⟩), .pointer (some ⟨wc.heap.size, 0, none⟩), .pointer (some ⟨b9, 0, none⟩)],
        .func (.func 67) #[] #[.pointer (some ⟨W.heap.size, 0, none⟩), .pointer (some ⟨W.heap.size + 1, 0, none⟩)]] 61 (0, 0)) ∧ c9 bf = 0) := Lib.hid ⟨(h9.block bf hbl (by rw [HRd.out.2]; exact Ne.symm hi)).trans HRd.out.1, (h9.col bf hbl).trans HRd.out.2⟩
          clear nX d9 h9 y0 eg hbl
          obtain ⟨rD, re⟩ := r
          simp only [] at HT2 HG2 HD9
          by_cases h0 : re = 0
          · subst h0
            have HT3 : Hid (Ck.save D nm n data = Ck.stepsL nm n E ([0, 1, 2, 3, 4, 5].drop (0 + 1)) rD) := Lib.hid (by rw [HT2.out, if_neg (by simp)]; rfl)
            have HG3 : Hid (Ck.Good nm n E ([0, 1, 2, 3, 4, 5].drop (0 + 1)) rD) := Lib.hid (HG2.out rfl)
            go_wp2_with fail
            exact ⟨⟨0 + 1, c9, rD, rfl, by omega, HD9, HS9, HC9, HR9, HT3, HG3⟩, by decide⟩
          · have HT3 : Hid (Ck.save D nm n data = (rD, re)) := Lib.hid (by rw [HT2.out, if_pos h0])
            go_wp2_with fail
            go_ret
            rw [HT3.out]
            exact ⟨c9, rfl, HD9.out, HC0.out.trans HC9.out⟩
        · have nX := sv_step1 HSd.out HDd.out hi HGd.out.1 HELb.out HGd.out.2.1
          have HT2 : Hid (Ck.save D nm n data = if (Ck.step nm n E 1 d).2 ≠ 0 then Ck.step nm n E 1 d else Ck.stepsL nm n E [2, 3, 4, 5] (Ck.step nm n E 1 d).1) := HTd
          have HG2 : Hid ((Ck.step nm n E 1 d).2 = 0 → Ck.Good nm n E [2, 3, 4, 5] (Ck.step nm n E 1 d).1) := Lib.hid HGd.out.2.2
          have eg : ∀ args w, (callFunc 59 args).run Tryz.prog w = .ok (.enter 59 args) w := enters_of Tryz.func59 (by kernel_rfl) rfl
          have y0 : wr.cell? ⟨bf, 1, none⟩ = some (.func (.func 59) #[] #[.pointer (some ⟨W.heap.size, 0, none⟩), .pointer (some ⟨wc.heap.size, 0, none⟩)]) := by rw [cell_of_row _ _ _ _ _ _ HRd.out.1]; rfl
          generalize Ck.step nm n E 1 d = r at *
          go_upto_region 16 with (go_at_fn 59; refine nX.mono ?_; rintro e w9 ⟨c9, rfl, d9, h9⟩)
          have HD9 := Lib.hid d9
          have HC9 : Hid (Chg i c0 c9 w8 w9) := Lib.hid (HCd.out.trans h9)
          have HS9 := Lib.hid (HSd.out.chg h9 hi)
          have hbl := (Array.getElem?_eq_some_iff.1 HRd.out.1).1
          have HR9 : Hid (w9.heap[bf]? = some (.cells #[
        .func (.func 58) #[] #[.pointer (some ⟨W.heap.size, 0, none⟩), .pointer (some ⟨wc.heap.size, 0, none⟩)],
        .func (.func 59) #[] #[.pointer (some ⟨W.heap.size, 0, none⟩), .pointer (some ⟨wc.heap.size, 0, none⟩)],
        .func (.func 61) #[] #[.pointer (some ⟨W.heap.size, 0, none⟩), .pointer (some ⟨wc.heap.size, 0, none⟩), .pointer (some ⟨w2.heap.size, 0, none⟩)],
        .func (.func 63) #[] #[.pointer (some ⟨W.heap.size, 0, none⟩), .pointer (some ⟨wc.heap.size, 0, none⟩)],
        .func (.func 65) #[] #[.pointer (some ⟨W.heap.size, 0, none⟩), .pointer (some ⟨wc.heap.size, 0, none⟩), .pointer (some ⟨b9, 0, none⟩)],
        .func (.func 67) #[] #[.pointer (some ⟨W.heap.size, 0, none⟩), .pointer (some ⟨W.heap.size + 1, 0, none⟩)]] 61 (0, 0)) ∧ c9 bf = 0) := Lib.hid ⟨(h9.block bf hbl (by rw [HRd.out.2]; exact Ne.symm hi)).trans HRd.out.1, (h9.col bf hbl).trans HRd.out.2⟩
          clear nX d9 h9 y0 eg hbl
          obtain ⟨rD, re⟩ := r
          simp only [] at HT2 HG2 HD9
          by_cases h0 : re = 0
          · subst h0
            have HT3 : Hid (Ck.save D nm n data = Ck.stepsL nm n E ([0, 1, 2, 3, 4, 5].drop (1 + 1)) rD) := Lib.hid (by rw [HT2.out, if_neg (by simp)]; rfl)
            have HG3 : Hid (Ck.Good nm n E ([0, 1, 2, 3, 4, 5].drop (1 + 1)) rD) := Lib.hid (HG2.out rfl)
            go_wp2_with fail
            exact ⟨⟨1 + 1, c9, rD, rfl, by omega, HD9, HS9, HC9, HR9, HT3, HG3⟩, by decide⟩
          · have HT3 : Hid (Ck.save D nm n data = (rD, re)) := Lib.hid (by rw [HT2.out, if_pos h0])
            go_wp2_with fail
            go_ret
            rw [HT3.out]
            exact ⟨c9, rfl, HD9.out, HC0.out.trans HC9.out⟩
        · have nX := sv_step2 HSd.out HDd.out hi HGd.out.1 HELb.out HGd.out.2.1
          have HT2 : Hid (Ck.save D nm n data = if (Ck.step nm n E 2 d).2 ≠ 0 then Ck.step nm n E 2 d else Ck.stepsL nm n E [3, 4, 5] (Ck.step nm n E 2 d).1) := HTd
          have HG2 : Hid ((Ck.step nm n E 2 d).2 = 0 → Ck.Good nm n E [3, 4, 5] (Ck.step nm n E 2 d).1) := Lib.hid HGd.out.2.2
          have eg : ∀ args w, (callFunc 61 args).run Tryz.prog w = .ok (.enter 61 args) w := enters_of Tryz.func61 (by kernel_rfl) rfl
          have y0 : wr.cell? ⟨bf, 2, none⟩ = some (.func (.func 61) #[] #[.pointer (some ⟨W.heap.size, 0, none⟩), .pointer (some ⟨wc.heap.size, 0, none⟩), .pointer (some ⟨w2.heap.size, 0, none⟩)]) := by rw [cell_of_row _ _ _ _ _ _ HRd.out.1]; rfl
          generalize Ck.step nm n E 2 d = r at *
          go_upto_region 16 with (go_at_fn 61; refine nX.mono ?_; rintro e w9 ⟨c9, rfl, d9, h9⟩)
          have HD9 := Lib.hid d9
          have HC9 : Hid (Chg i c0 c9 w8 w9) := Lib.hid (HCd.out.trans h9)
          have HS9 := Lib.hid (HSd.out.chg h9 hi)
          have hbl := (Array.getElem?_eq_some_iff.1 HRd.out.1).1
          have HR9 : Hid (w9.heap[bf]? = some (.cells #[
        .func (.func 58) #[] #[.pointer (some ⟨W.heap.size, 0, none⟩), .pointer (some ⟨wc.heap.size, 0, none⟩)],
        .func (.func 59) #[] #[.pointer (some ⟨W.heap.size, 0, none⟩), .pointer (some ⟨wc.heap.size, 0, none⟩)],
        .func (.func 61) #[] #[.pointer (some ⟨W.heap.size, 0, none⟩), .pointer (some ⟨wc.heap.size, 0, none⟩), .pointer (some ⟨w2.heap.size, 0, none⟩)],
        .func (.func 63) #[] #[.pointer (some ⟨W.heap.size, 0, none⟩), .pointer (some ⟨wc.heap.size, 0, none⟩)],
        .func (.func 65) #[] #[.pointer (some ⟨W.heap.size, 0, none⟩), .pointer (some ⟨wc.heap.size, 0, none⟩), .pointer (some ⟨b9, 0, none⟩)],
        .func (.func 67) #[] #[.pointer (some ⟨W.heap.size, 0, none⟩), .pointer (some ⟨W.heap.size + 1, 0, none⟩)]] 61 (0, 0)) ∧ c9 bf = 0) := Lib.hid ⟨(h9.block bf hbl (by rw [HRd.out.2]; exact Ne.symm hi)).trans HRd.out.1, (h9.col bf hbl).trans HRd.out.2⟩
          clear nX d9 h9 y0 eg hbl
          obtain ⟨rD, re⟩ := r
          simp only [] at HT2 HG2 HD9
          by_cases h0 : re = 0
          · subst h0
            have HT3 : Hid (Ck.save D nm n data = Ck.stepsL nm n E ([0, 1, 2, 3, 4, 5].drop (2 + 1)) rD) := Lib.hid (by rw [HT2.out, if_neg (by simp)]; rfl)
            have HG3 : Hid (Ck.Good nm n E ([0, 1, 2, 3, 4, 5].drop (2 + 1)) rD) := Lib.hid (HG2.out rfl)
            go_wp2_with fail
            exact ⟨⟨2 + 1, c9, rD, rfl, by omega, HD9, HS9, HC9, HR9, HT3, HG3⟩, by decide⟩
          · have HT3 : Hid (Ck.save D nm n data = (rD, re)) := Lib.hid (by rw [HT2.out, if_pos h0])
            go_wp2_with fail
            go_ret
            rw [HT3.out]
            exact ⟨c9, rfl, HD9.out, HC0.out.trans HC9.out⟩
        · have nX := sv_step3 HSd.out HDd.out hi HGd.out.1 HELb.out HGd.out.2.1
          have HT2 : Hid (Ck.save D nm n data = if (Ck.step nm n E 3 d).2 ≠ 0 then Ck.step nm n E 3 d else Ck.stepsL nm n E [4, 5] (Ck.step nm n E 3 d).1) := HTd
          have HG2 : Hid ((Ck.step nm n E 3 d).2 = 0 → Ck.Good nm n E [4, 5] (Ck.step nm n E 3 d).1) := Lib.hid HGd.out.2.2
          have eg : ∀ args w, (callFunc 63 args).run Tryz.prog w = .ok (.enter 63 args) w := enters_of Tryz.func63 (by kernel_rfl) rfl
          have y0 : wr.cell? ⟨bf, 3, none⟩ = some (.func (.func 63) #[] #[.pointer (some ⟨W.heap.size, 0, none⟩), .pointer (some ⟨wc.heap.size, 0, none⟩)]) := by rw [cell_of_row _ _ _ _ _ _ HRd.out.1]; rfl
          generalize Ck.step nm n E 3 d = r at *
          go_upto_region 16 with (go_at_fn 63; refine nX.mono ?_; rintro e w9 ⟨c9, rfl, d9, h9⟩)
          have HD9 := Lib.hid d9
          have HC9 : Hid (Chg i c0 c9 w8 w9) := Lib.hid (HCd.out.trans h9)
          have HS9 := Lib.hid (HSd.out.chg h9 hi)
          have hbl := (Array.getElem?_eq_some_iff.1 HRd.out.1).1
          have HR9 : Hid (w9.heap[bf]? = some (.cells #[
        .func (.func 58) #[] #[.pointer (some ⟨W.heap.size, 0, none⟩), .pointer (some ⟨wc.heap.size, 0, none⟩)],
        .func (.func 59) #[] #[.pointer (some ⟨W.heap.size, 0, none⟩), .pointer (some ⟨wc.heap.size, 0, none⟩)],
        .func (.func 61) #[] #[.pointer (some ⟨W.heap.size, 0, none⟩), .pointer (some ⟨wc.heap.size, 0, none⟩), .pointer (some ⟨w2.heap.size, 0, none⟩)],
        .func (.func 63) #[] #[.pointer (some ⟨W.heap.size, 0, none⟩), .pointer (some ⟨wc.heap.size, 0, none⟩)],
        .func (.func 65) #[] #[.pointer (some ⟨W.heap.size, 0, none⟩), .pointer (some ⟨wc.heap.size, 0, none⟩), .pointer (some ⟨b9, 0, none⟩)],
        .func (.func 67) #[] #[.pointer (some ⟨W.heap.size, 0, none⟩), .pointer (some ⟨W.heap.size + 1, 0, none⟩)]] 61 (0, 0)) ∧ c9 bf = 0) := Lib.hid ⟨(h9.block bf hbl (by rw [HRd.out.2]; exact Ne.symm hi)).trans HRd.out.1, (h9.col bf hbl).trans HRd.out.2⟩
          clear nX d9 h9 y0 eg hbl
          obtain ⟨rD, re⟩ := r
          simp only [] at HT2 HG2 HD9
          by_cases h0 : re = 0
          · subst h0
            have HT3 : Hid (Ck.save D nm n data = Ck.stepsL nm n E ([0, 1, 2, 3, 4, 5].drop (3 + 1)) rD) := Lib.hid (by rw [HT2.out, if_neg (by simp)]; rfl)
            have HG3 : Hid (Ck.Good nm n E ([0, 1, 2, 3, 4, 5].drop (3 + 1)) rD) := Lib.hid (HG2.out rfl)
            go_wp2_with fail
            exact ⟨⟨3 + 1, c9, rD, rfl, by omega, HD9, HS9, HC9, HR9, HT3, HG3⟩, by decide⟩
          · have HT3 : Hid (Ck.save D nm n data = (rD, re)) := Lib.hid (by rw [HT2.out, if_pos h0])
            go_wp2_with fail
            go_ret
            rw [HT3.out]
            exact ⟨c9, rfl, HD9.out, HC0.out.trans HC9.out⟩
        · have nX := sv_step4 HSd.out HDd.out hi HGd.out.1 HELb.out HGd.out.2.1
          have HT2 : Hid (Ck.save D nm n data = if (Ck.step nm n E 4 d).2 ≠ 0 then Ck.step nm n E 4 d else Ck.stepsL nm n E [5] (Ck.step nm n E 4 d).1) := HTd
          have HG2 : Hid ((Ck.step nm n E 4 d).2 = 0 → Ck.Good nm n E [5] (Ck.step nm n E 4 d).1) := Lib.hid HGd.out.2.2
          have eg : ∀ args w, (callFunc 65 args).run Tryz.prog w = .ok (.enter 65 args) w := enters_of Tryz.func65 (by kernel_rfl) rfl
          have y0 : wr.cell? ⟨bf, 4, none⟩ = some (.func (.func 65) #[] #[.pointer (some ⟨W.heap.size, 0, none⟩), .pointer (some ⟨wc.heap.size, 0, none⟩), .pointer (some ⟨b9, 0, none⟩)]) := by rw [cell_of_row _ _ _ _ _ _ HRd.out.1]; rfl
          generalize Ck.step nm n E 4 d = r at *
          go_upto_region 16 with (go_at_fn 65; refine nX.mono ?_; rintro e w9 ⟨c9, rfl, d9, h9⟩)
          have HD9 := Lib.hid d9
          have HC9 : Hid (Chg i c0 c9 w8 w9) := Lib.hid (HCd.out.trans h9)
          have HS9 := Lib.hid (HSd.out.chg h9 hi)
          have hbl := (Array.getElem?_eq_some_iff.1 HRd.out.1).1
          have HR9 : Hid (w9.heap[bf]? = some (.cells #[
        .func (.func 58) #[] #[.pointer (some ⟨W.heap.size, 0, none⟩), .pointer (some ⟨wc.heap.size, 0, none⟩)],
        .func (.func 59) #[] #[.pointer (some ⟨W.heap.size, 0, none⟩), .pointer (some ⟨wc.heap.size, 0, none⟩)],
        .func (.func 61) #[] #[.pointer (some ⟨W.heap.size, 0, none⟩), .pointer (some ⟨wc.heap.size, 0, none⟩), .pointer (some ⟨w2.heap.size, 0, none⟩)],
        .func (.func 63) #[] #[.pointer (some ⟨W.heap.size, 0, none⟩), .pointer (some ⟨wc.heap.size, 0, none⟩)],
        .func (.func 65) #[] #[.pointer (some ⟨W.heap.size, 0, none⟩), .pointer (some ⟨wc.heap.size, 0, none⟩), .pointer (some ⟨b9, 0, none⟩)],
        .func (.func 67) #[] #[.pointer (some ⟨W.heap.size, 0, none⟩), .pointer (some ⟨W.heap.size + 1, 0, none⟩)]] 61 (0, 0)) ∧ c9 bf = 0) := Lib.hid ⟨(h9.block bf hbl (by rw [HRd.out.2]; exact Ne.symm hi)).trans HRd.out.1, (h9.col bf hbl).trans HRd.out.2⟩
          clear nX d9 h9 y0 eg hbl
          obtain ⟨rD, re⟩ := r
          simp only [] at HT2 HG2 HD9
          by_cases h0 : re = 0
          · subst h0
            have HT3 : Hid (Ck.save D nm n data = Ck.stepsL nm n E ([0, 1, 2, 3, 4, 5].drop (4 + 1)) rD) := Lib.hid (by rw [HT2.out, if_neg (by simp)]; rfl)
            have HG3 : Hid (Ck.Good nm n E ([0, 1, 2, 3, 4, 5].drop (4 + 1)) rD) := Lib.hid (HG2.out rfl)
            go_wp2_with fail
            exact ⟨⟨4 + 1, c9, rD, rfl, by omega, HD9, HS9, HC9, HR9, HT3, HG3⟩, by decide⟩
          · have HT3 : Hid (Ck.save D nm n data = (rD, re)) := Lib.hid (by rw [HT2.out, if_pos h0])
            go_wp2_with fail
            go_ret
            rw [HT3.out]
            exact ⟨c9, rfl, HD9.out, HC0.out.trans HC9.out⟩
        · have nX := sv_step5 HSd.out HDd.out hi HGd.out.1 HELb.out HGd.out.2.1
          have HT2 : Hid (Ck.save D nm n data = if (Ck.step nm n E 5 d).2 ≠ 0 then Ck.step nm n E 5 d else Ck.stepsL nm n E [] (Ck.step nm n E 5 d).1) := HTd
          have HG2 : Hid ((Ck.step nm n E 5 d).2 = 0 → Ck.Good nm n E [] (Ck.step nm n E 5 d).1) := Lib.hid HGd.out.2.2
          have eg : ∀ args w, (callFunc 67 args).run Tryz.prog w = .ok (.enter 67 args) w := enters_of Tryz.func67 (by kernel_rfl) rfl
          have y0 : wr.cell? ⟨bf, 5, none⟩ = some (.func (.func 67) #[] #[.pointer (some ⟨W.heap.size, 0, none⟩), .pointer (some ⟨W.heap.size + 1, 0, none⟩)]) := by rw [cell_of_row _ _ _ _ _ _ HRd.out.1]; rfl
          generalize Ck.step nm n E 5 d = r at *
          go_upto_region 16 with (go_at_fn 67; refine nX.mono ?_; rintro e w9 ⟨c9, rfl, d9, h9⟩)
          have HD9 := Lib.hid d9
          have HC9 : Hid (Chg i c0 c9 w8 w9) := Lib.hid (HCd.out.trans h9)
          have HS9 := Lib.hid (HSd.out.chg h9 hi)
          have hbl := (Array.getElem?_eq_some_iff.1 HRd.out.1).1
          have HR9 : Hid (w9.heap[bf]? = some (.cells #[
        .func (.func 58) #[] #[.pointer (some ⟨W.heap.size, 0, none⟩), .pointer (some ⟨wc.heap.size, 0, none⟩)],
        .func (.func 59) #[] #[.pointer (some ⟨W.heap.size, 0, none⟩), .pointer (some ⟨wc.heap.size, 0, none⟩)],
        .func (.func 61) #[] #[.pointer (some ⟨W.heap.size, 0, none⟩), .pointer (some ⟨wc.heap.size, 0, none⟩), .pointer (some ⟨w2.heap.size, 0, none⟩)],
        .func (.func 63) #[] #[.pointer (some ⟨W.heap.size, 0, none⟩), .pointer (some ⟨wc.heap.size, 0, none⟩)],
        .func (.func 65) #[] #[.pointer (some ⟨W.heap.size, 0, none⟩), .pointer (some ⟨wc.heap.size, 0, none⟩), .pointer (some ⟨b9, 0, none⟩)],
        .func (.func 67) #[] #[.pointer (some ⟨W.heap.size, 0, none⟩), .pointer (some ⟨W.heap.size + 1, 0, none⟩)]] 61 (0, 0)) ∧ c9 bf = 0) := Lib.hid ⟨(h9.block bf hbl (by rw [HRd.out.2]; exact Ne.symm hi)).trans HRd.out.1, (h9.col bf hbl).trans HRd.out.2⟩
          clear nX d9 h9 y0 eg hbl
          obtain ⟨rD, re⟩ := r
          simp only [] at HT2 HG2 HD9
          by_cases h0 : re = 0
          · subst h0
            have HT3 : Hid (Ck.save D nm n data = Ck.stepsL nm n E ([0, 1, 2, 3, 4, 5].drop (5 + 1)) rD) := Lib.hid (by rw [HT2.out, if_neg (by simp)]; rfl)
            have HG3 : Hid (Ck.Good nm n E ([0, 1, 2, 3, 4, 5].drop (5 + 1)) rD) := Lib.hid (HG2.out rfl)
            go_wp2_with fail
            exact ⟨⟨5 + 1, c9, rD, rfl, by omega, HD9, HS9, HC9, HR9, HT3, HG3⟩, by decide⟩
          · have HT3 : Hid (Ck.save D nm n data = (rD, re)) := Lib.hid (by rw [HT2.out, if_pos h0])
            go_wp2_with fail
            go_ret
            rw [HT3.out]
            exact ⟨c9, rfl, HD9.out, HC0.out.trans HC9.out⟩
      · obtain rfl : k = 6 := by omega
        have HT2 : Hid (Ck.save D nm n data = (d, 0)) := HTd
        go_wp2_with fail
        go_ret
        rw [HT2.out]
        exact ⟨c', rfl, HDd.out, HC0.out.trans HCd.out⟩

end Go.Proofs.YtamencnachmhoaaGreatDoor
