/-
  Append: an entry is written into the last segment; behind a full one a new segment is begun.
-/
import Derived.Test.YtcbnbhlgikjbeaaGreatDoorWlMem
namespace Go.Proofs.YtcbnbhlgikjbeaaGreatDoor
open Go.RowKit

theorem ap_S_step {w w3 : World} {h sg m : Nat} {x0 x1 y0 : Value} (H : w.cell? ⟨h, 0, none⟩ = some x0 ∧ w.cell? ⟨h, 1, none⟩ = some x1 ∧ w.cell? ⟨sg, m, none⟩ = some y0) (hb : Below w.heap.size w w3) :
    w3.cell? ⟨h, 0, none⟩ = some x0 ∧ w3.cell? ⟨h, 1, none⟩ = some x1 ∧ w3.cell? ⟨sg, m, none⟩ = some y0 := by
  obtain ⟨a0, a1, b0⟩ := H
  exact ⟨(hb.cell (World.block_lt_of_cell? w _ a0)).trans a0, (hb.cell (World.block_lt_of_cell? w _ a1)).trans a1, (hb.cell (World.block_lt_of_cell? w _ b0)).trans b0⟩
theorem ap_cell_chg {i : Nat} {c c' : Nat → Nat} {w w3 : World} {h o : Nat} {x : Value} (H : w.cell? ⟨h, o, none⟩ = some x) (hc : Chg i c c' w w3) (hh : c h ≠ i) : w3.cell? ⟨h, o, none⟩ = some x :=
  (World.cell?_of_block (a := ⟨h, o, none⟩) (hc.block h (World.block_lt_of_cell? w _ H) hh)).trans H
theorem ap_S_chg {i : Nat} {c c' : Nat → Nat} {w w3 : World} {h sg m : Nat} {x0 x1 y0 : Value} (H : w.cell? ⟨h, 0, none⟩ = some x0 ∧ w.cell? ⟨h, 1, none⟩ = some x1 ∧ w.cell? ⟨sg, m, none⟩ = some y0) (hc : Chg i c c' w w3) (hh : c h ≠ i) (hs : c sg ≠ i) :
    w3.cell? ⟨h, 0, none⟩ = some x0 ∧ w3.cell? ⟨h, 1, none⟩ = some x1 ∧ w3.cell? ⟨sg, m, none⟩ = some y0 :=
  ⟨ap_cell_chg H.1 hc hh, ap_cell_chg H.2.1 hc hh, ap_cell_chg H.2.2 hc hs⟩
theorem LogIs.below {j : Nat} {c : Nat → Nat} {W W' : World} {h g : Nat} {L : Wl.L} {sv : Value} (H : LogIs j c W h g L sv) (hb : Below W.heap.size W W') : LogIs j c W' h g L sv :=
  H.keep hb.size (fun k hk hc => ⟨hb.block k hk, hc⟩)
theorem LogIs.lastAt {j : Nat} {c : Nat → Nat} {W : World} {h g sg n cap : Nat} {L : Wl.L} (H : LogIs j c W h g L (.slice (some ⟨sg, 0, none⟩) n cap)) (hn : n = L.segs.length) (hne : L.segs ≠ []) :
    W.cell? ⟨sg, (n - 1) * 2, none⟩ = some (.int .i64 L.last.1) ∧ W.cell? ⟨sg, (n - 1) * 2 + 1, none⟩ = some (.int .i64 L.last.2) := by
  subst hn
  have := H.seg_at (getLastD_at L.segs hne)
  exact this
theorem LogIs.segFrozen {j : Nat} {c : Nat → Nat} {W : World} {h g sg n cap : Nat} {L : Wl.L} (H : LogIs j c W h g L (.slice (some ⟨sg, 0, none⟩) n cap)) (o : Nat) : W.frozen? ⟨sg, o, none⟩ = false := by
  obtain ⟨_, ⟨h1, _⟩ | ⟨g', cap', cur, hv, _, hh, _⟩⟩ := H.seg
  · cases h1
  · cases hv
    exact dk_frozen _ _ _ _ _ hh

theorem chg_same {i : Nat} {c : Nat → Nat} {W W' : World} (hb : Below W.heap.size W W') : Chg i c c W W' := ⟨hb.os, hb.tape, hb.output, hb.size, fun b h _ => hb.block b h, fun _ _ => rfl⟩
theorem DiskAt.keepW {i : Nat} {c : Nat → Nat} {W W' : World} {g : Nat} {D : Dk.D} (h : DiskAt i c W g D) (hb : Below W.heap.size W W') : DiskAt i c W' g D := h.chg (chg_same (i := i + 1) hb) (by omega) (by omega)

theorem ap_last {j : Nat} {c : Nat → Nat} {o : World} {h g sg n cap : Nat} {L : Wl.L} (hn : n = L.segs.length) (H : LogIs j c o h g L (.slice (some ⟨sg, 0, none⟩) n cap)) (h1 : 0 < n) (h2 : n ≤ 1000000) :
    Calls Tryz.prog 60 #[.pointer (some ⟨h, 0, none⟩)] o fun e W' => e = .returned (.pointer (some ⟨sg, (n - 1) * 2, none⟩)) ∧ Below o.heap.size o W' := by
  subst hn
  exact wl_last H h1 h2

theorem ap_wrap (m : Nat) (h : m ≤ 1000000) : IntKind.i64.wrap ((m : Int) + 1) = (m : Int) + 1 ∧ wrap64 ((m : Int) + 1) = (m : Int) + 1 ∧ IntKind.i64.wrap (m : Int) = (m : Int) ∧ wrap64 (m : Int) = (m : Int) := by
  exact ⟨IntWalk.i64_in _ (by omega), by unfold wrap64; omega, IntWalk.i64_in _ (by omega), by unfold wrap64; omega⟩

/-- what Append leaves -/
def ApPost (i j : Nat) (c : Nat → Nat) (W : World) (h g : Nat) (r : Dk.D × Wl.L × Nat × Int) (e : Ending) (W' : World) : Prop :=
  ∃ c', e = .returned (.tuple #[.int .i64 r.2.2.1, .int .i64 r.2.2.2]) ∧ DiskAt i c' W' g r.1 ∧ LogAt j c' W' h g r.2.1 ∧ Chg2 i j c c' W W'


set_option maxRecDepth 100000 in
set_option maxHeartbeats 4000000 in
theorem wl_Append_stay {i j : Nat} {c : Nat → Nat} {W : World} {h g : Nat} {D : Dk.D} {L : Wl.L} (hd : DiskAt i c W g D) (hl : LogAt j c W h g L) (hij : i ≠ j) (hj0 : j ≠ 0) (hup : D.down = false) (hbud2 : D.bud ≤ 9223372036854775807)
    {f : Dk.Fl} (hf : Dk.find (Wl.name L.pre L.last.1) D.fs = some f) (hmany : f.pend.length < 65536) (hcl : f.contents.length ≤ 1000000000) (hnel : L.segs ≠ []) (hmax : L.segs.length ≤ 1000000) (hl100 : L.last.1 < 100) (hcnt : L.last.2 ≤ 1000000) (hnx : L.next ≤ 1000000) (hp : L.pre.length ≤ 100) (hsz : L.size ≤ 1000000000)
    {bv : Value} {b : Wl.Bs} (hb : RdC c W bv b) (hbl : b.length ≤ 65536) (hstay : ¬ (0 < L.last.2 ∧ L.size ≤ f.contents.length)) :
    Calls Tryz.prog 19 #[.pointer (some ⟨h, 0, none⟩), bv] W (ApPost i j c W h g (Wl.append D L b)) := by
  have hi0 : i ≠ 0 := by obtain ⟨_, _, hh⟩ := hd; exact hh.ne
  obtain ⟨ba, bc, rfl⟩ := hb.1.form
  obtain ⟨sv, hl⟩ := hl
  obtain ⟨sg, cap, cur, rfl, hrow, hcn, _⟩ := hl.form hnel
  have hsize : D.size (Wl.name L.pre L.last.1) = (f.contents.length, 0) := by unfold Dk.D.size; rw [if_neg (by simp [hup])]; simp [hf]
  have HAP : Hid (Wl.append D L b = Wl.append2 D L b) := Lib.hid (by
    unfold Wl.append
    rw [if_neg (by omega), if_neg (by simp [hup]), hsize]
    simp only []
    rw [if_neg (by simp), if_neg hstay])
  obtain ⟨n, hn2⟩ : ∃ n, n = L.segs.length := ⟨_, rfl⟩
  rw [← hn2] at hl hcn
  have hnpos : 0 < n := by have := List.length_pos_iff.2 hnel; omega
  have hnm2 : n ≤ 1000000 := by omega
  have HN2 := Lib.hid hn2
  have HL := Lib.hid hl
  have HD := Lib.hid hd
  have HB := Lib.hid hb
  obtain ⟨x0, x1, x2, x3, x4, x5⟩ := row_cells6 hl.row
  obtain ⟨y0, y1⟩ := hl.lastAt hn2 hnel
  have hhl := (Array.getElem?_eq_some_iff.1 hl.row).1
  have hsl := (hl.seg.lt sg rfl).2
  have nDn := dk_Down hd
  rw [hup] at nDn
  have nL : Hid (∀ o, Below W.heap.size W o → Calls Tryz.prog 60 #[.pointer (some ⟨h, 0, none⟩)] o fun e W' => e = .returned (.pointer (some ⟨sg, (n - 1) * 2, none⟩)) ∧ Below o.heap.size o W') :=
    Lib.hid (fun o ho => ap_last HN2.out (HL.out.below ho) hnpos hnm2)
  have nN : Hid (∀ o, Calls Tryz.prog 58 #[.string ⟨L.pre.toArray⟩, .int .i64 L.last.1] o fun e W' => e = .returned (.string ⟨(Wl.name L.pre L.last.1).toArray⟩) ∧ Below o.heap.size o W') :=
    Lib.hid (fun o => wl_name o ⟨L.pre.toArray⟩ L.last.1 hl100 (by show L.pre.toArray.size ≤ 1000; simp; omega))
  have hns : (⟨(Wl.name L.pre L.last.1).toArray⟩ : ByteArray).size ≤ 9223372036854775807 := by
    have := Wl.name_length (p := L.pre) (n := L.last.1) (by omega)
    show (Wl.name L.pre L.last.1).toArray.size ≤ _
    simp; omega
  have nS : Hid (∀ o, Below W.heap.size W o → Calls Tryz.prog 59 #[.pointer (some ⟨g, 0, none⟩), .string ⟨(Wl.name L.pre L.last.1).toArray⟩] o fun e W' => e = .returned (.tuple #[.int .i64 (f.contents.length : Nat), .int .i64 0]) ∧ Below o.heap.size o W') :=
    Lib.hid (fun o ho => by have := dk_Size (HD.out.keepW ho) ⟨(Wl.name L.pre L.last.1).toArray⟩ hns; rw [show (⟨(Wl.name L.pre L.last.1).toArray⟩ : ByteArray).data.toList = Wl.name L.pre L.last.1 from rfl, hsize] at this; exact this)
  have hmany2 : ∀ f', Dk.find (Wl.name L.pre L.last.1) D.fs = some f' → f'.pend.length < 65536 := fun f' h' => by rw [hf] at h'; cases h'; exact hmany
  obtain ⟨nm, hnm⟩ : ∃ nm, nm = Wl.name L.pre L.last.1 := ⟨_, rfl⟩
  obtain ⟨fl, hfl⟩ : ∃ fl, fl = f.contents.length := ⟨_, rfl⟩
  rw [← hnm] at nN nS hmany2
  rw [← hfl] at nS hcl hstay
  have HNM := Lib.hid hnm
  clear hn2
  have hbi : ¬ (65536 : Int) < (b.length : Int) := by omega
  have hpos : 0 < L.last.2 → ¬ ((L.size : Int) ≤ (fl : Int)) := fun h1 h2 => hstay ⟨h1, by omega⟩
  clear hl hd hb hrow hsize hstay hns x2 x3 x4 x5 hf hnm hfl
  go_enter Tryz.func19, Tryz.ntmps19
  go_wp2_with fail
  refine nDn.mono ?_
  rintro e w0 ⟨rfl, rfl⟩
  clear nDn
  go_wp2_with fail
  go_region_held3 (fun w' => w'.cell? ⟨h, 0, none⟩ = some (.pointer (some ⟨g, 0, none⟩)) ∧ w'.cell? ⟨h, 1, none⟩ = some (.string ⟨L.pre.toArray⟩) ∧ w'.cell? ⟨sg, (n - 1) * 2, none⟩ = some (.int .i64 L.last.1))
    (first | assumption | (refine ⟨?_, ?_, ?_⟩ <;> first | assumption | go_keep) | go_keep)
    (first
      | (go_at_call 60; refine (nL.out _ (by first | exact Below.refl _ _ | exact (Below.refl _ _).drew)).mono ?_; rintro e w4 ⟨rfl, hb4⟩; have hB4 : Below W.heap.size W w4 := (Below.drew (Below.refl _ _)).trans hb4; have hS4 := ap_S_step (by assumption) hb4)
      | (go_at_call 58; refine (nN.out _).mono ?_; rintro e w5 ⟨rfl, hb5⟩; have hB5 := hB4.trans (hb5.mono hB4.size); have hS5 := ap_S_step hS4 hb5)
      | (go_at_call 59; refine (nS.out _ hB5).mono ?_; rintro e w1 ⟨rfl, hb6⟩; have hB6 := hB5.trans (hb6.mono hB5.size); have hS6 := ap_S_step hS5 hb6))
  have n8 := nL.out _ hB6
  have z2 := (hB6.cell (p := ⟨h, 2, none⟩) hhl).trans (row_cells6 HL.out.row).2.2.1
  have z1 := (hB6.cell (p := ⟨sg, (n - 1) * 2 + 1, none⟩) hsl).trans y1
  clear hS4 hS5 hS6 hb4 hB4 hb5 hB5 hb6 x0 x1 y0 y1
  go_wp2_with fail
  refine n8.mono ?_
  rintro e w2 ⟨rfl, b8⟩
  have hB2 := hB6.trans (b8.mono hB6.size)
  have z1 := (b8.cell (p := ⟨sg, (n - 1) * 2 + 1, none⟩) (by have := hB6.size; show sg < _; omega)).trans z1
  have z2 := (b8.cell (p := ⟨h, 2, none⟩) (by have := hB6.size; show h < _; omega)).trans z2
  have HL2 := Lib.hid (HL.out.below hB2)
  have HD2 := Lib.hid (HD.out.keepW hB2)
  have HB2 := Lib.hid (HB.out.below hB2)
  have HC2 : Hid (Chg2 i j c c W w2) := Lib.hid (chg_same (i := i) hB2).left2
  clear n8 b8 hB6 hB2 HL HD HB nL nN nS
  by_cases hcz : L.last.2 = 0
  · have hcz2 : ¬ ((0 : Int) < (L.last.2 : Int)) := by omega
    clear hcz
    -- THE TAIL: HD2, HL2, HC2, HB2 at w2; n, sg, cap; hpre; HAP
    obtain ⟨x0, x1, x2, x3, x4, x5⟩ := row_cells6 HL2.out.row
    have n3 := wl_pack w2 L.next (by omega) (.slice ba b.length bc) b HB2.out.1 (by omega)
    clear x0 x1 x2 x3 x5
    go_wp2_with fail
    refine n3.mono ?_
    rintro e w3 ⟨v3, rfl, o3, b3⟩
    clear n3 x4 hcz2 hpos z1 z2
    have hC23 : Chg i c (pnt c w2.heap.size 0) w2 w3 := Chg.of_below' b3 (fun k hk => pnt_old hk)
    have HC3 : Hid (Chg2 i j c (pnt c w2.heap.size 0) W w3) := Lib.hid (HC2.out.trans hC23.left2)
    have HD3 := Lib.hid (HD2.out.below b3 0)
    have HL3 : Hid (LogIs j (pnt c w2.heap.size 0) w3 h g L (.slice (some ⟨sg, 0, none⟩) n cap)) := Lib.hid (HL2.out.keep b3.size (fun k hk hc => ⟨b3.block k hk, by rw [pnt_old hk]; exact hc⟩))
    have hrd3 : RdC (pnt c w2.heap.size 0) w3 v3 (Wl.pack L.next b) := RdC.of_own o3 (fun k hk _ => pnt_new hk)
    have HR3 := Lib.hid hrd3
    obtain ⟨va, vc, rfl⟩ := hrd3.1.form
    generalize pnt c w2.heap.size 0 = c3 at *
    clear hC23 o3 b3 hrd3
    obtain ⟨x0, x1, x2, x3, x4, x5⟩ := row_cells6 HL3.out.row
    obtain ⟨y0, y1⟩ := HL3.out.lastAt HN2.out hnel
    have hhl := (Array.getElem?_eq_some_iff.1 HL3.out.row).1
    have hsl := (HL3.out.seg.lt sg rfl).2
    have hcs := (HL3.out.cols sg rfl).1
    have hch := HL3.out.colh
    have nL : Hid (∀ o, Below w3.heap.size w3 o → Calls Tryz.prog 60 #[.pointer (some ⟨h, 0, none⟩)] o fun e W' => e = .returned (.pointer (some ⟨sg, (n - 1) * 2, none⟩)) ∧ Below o.heap.size o W') :=
      Lib.hid (fun o ho => ap_last HN2.out (HL3.out.below ho) hnpos hnm2)
    have nN : Hid (∀ o, Calls Tryz.prog 58 #[.string ⟨L.pre.toArray⟩, .int .i64 L.last.1] o fun e W' => e = .returned (.string ⟨nm.toArray⟩) ∧ Below o.heap.size o W') :=
      Lib.hid (fun o => by rw [HNM.out]; exact wl_name o ⟨L.pre.toArray⟩ L.last.1 hl100 (by show L.pre.toArray.size ≤ 1000; simp; omega))
    have hns : (⟨nm.toArray⟩ : ByteArray).size ≤ 9223372036854775807 := by
      have := Wl.name_length (p := L.pre) (n := L.last.1) (by omega)
      rw [← HNM.out] at this
      show nm.toArray.size ≤ _
      simp; omega
    have hpl := Wl.pack_length L.next b
    obtain ⟨pk, hpk⟩ : ∃ pk, pk = Wl.pack L.next b := ⟨_, rfl⟩
    rw [← hpk] at hpl HR3 ⊢
    obtain ⟨r, hr⟩ : ∃ r, r = D.write nm (fun n => n) pk := ⟨_, rfl⟩
    have nA : Hid (∀ o, Below w3.heap.size w3 o → Calls Tryz.prog 62 #[.pointer (some ⟨g, 0, none⟩), .string ⟨nm.toArray⟩, .slice va pk.length vc] o (DkPost i c3 o g r)) := Lib.hid (fun o ho => by
      rw [hr]
      exact dk_AppendN (HD3.out.keepW ho) ⟨nm.toArray⟩ hns hbud2 pk _ ((HR3.out.below ho).toN hi0) (by omega) hmany2)
    have HR := Lib.hid hr
    have HPK := Lib.hid hpk
    have HPL := Lib.hid hpl
    clear x2 x3 x4 x5 hns hr hpl hpk
    --@1
    go_wp2_with fail
    --@2
    go_region_held3 (fun w' => w'.cell? ⟨h, 0, none⟩ = some (.pointer (some ⟨g, 0, none⟩)) ∧ w'.cell? ⟨h, 1, none⟩ = some (.string ⟨L.pre.toArray⟩) ∧ w'.cell? ⟨sg, (n - 1) * 2, none⟩ = some (.int .i64 L.last.1))
      (first | assumption | (refine ⟨?_, ?_, ?_⟩ <;> first | assumption | go_keep) | go_keep)
      (first
        | (go_at_call 60; refine (nL.out _ (by first | exact Below.refl _ _ | exact (Below.refl _ _).drew)).mono ?_; rintro e w4 ⟨rfl, hb4⟩; have hB4 : Below w3.heap.size w3 w4 := (Below.drew (Below.refl _ _)).trans hb4; have hS4 := ap_S_step (by assumption) hb4)
        | (go_at_call 58; refine (nN.out _).mono ?_; rintro e w5 ⟨rfl, hb5⟩; have hB5 := hB4.trans (hb5.mono hB4.size); have hS5 := ap_S_step hS4 hb5)
        | (go_at_call 62; refine (nA.out _ hB5).mono ?_; rintro e w6 ⟨c6, rfl, hd6, hc6⟩; have hS6 := ap_S_chg hS5 hc6 (by rw [hch]; exact Ne.symm hij) (by rw [hcs]; exact Ne.symm hij)))
    --@3
    have HC6 : Hid (Chg2 i j c c6 W w6) := Lib.hid (HC3.out.trans ((chg_same hB5).left2.trans hc6.left2))
    have HL6 : Hid (LogIs j c6 w6 h g L (.slice (some ⟨sg, 0, none⟩) n cap)) := Lib.hid ((HL3.out.below hB5).keep hc6.size (fun k hk hc => ⟨hc6.block k hk (by rw [hc]; exact Ne.symm hij), by rw [hc6.col k hk]; exact hc⟩))
    have HD6 := Lib.hid hd6
    clear x0 x1 y0 y1 nL nN nA hd6 hc6 hS4 hS5 hS6 hB4 hb4 hb5 hB5 HC3 HD3 HL3 HR3 hcs hch
    --@4
    obtain ⟨rd, re⟩ := r
    simp only [] at HD6 ⊢
    by_cases h0 : re = 0
    · have n7 := ap_last HN2.out HL6.out hnpos hnm2
      subst h0
      --@6
      go_wp2_with fail
      --@7
      refine n7.mono ?_
      rintro e w7 ⟨rfl, b7⟩
      have HL7 := Lib.hid (HL6.out.below b7)
      have HC7 : Hid (Chg2 i j c c6 W w7) := Lib.hid (HC6.out.trans (chg_same (i := i) b7).left2)
      have HD7 := Lib.hid (HD6.out.keepW b7)
      clear n7 b7 HL6 HC6 HD6
      --@8
      obtain ⟨x0, x1, x2, x3, x4, x5⟩ := row_cells6 HL7.out.row
      obtain ⟨y0, y1⟩ := HL7.out.lastAt HN2.out hnel
      have hhs := (HL7.out.cols sg rfl).2
      have z1 : w7.frozen? ⟨sg, (n - 1) * 2 + 1, none⟩ = false := HL7.out.segFrozen _
      have z2 : w7.frozen? ⟨h, 4, none⟩ = false := dk_frozen _ _ _ _ _ HL7.out.row
      --@9
      obtain ⟨hl8, hc8⟩ := HL7.out.bumped hnel HN2.out
      obtain ⟨w9, hw9⟩ : ∃ w9, w9 = (w7.setCell ⟨sg, (n - 1) * 2 + 1, none⟩ (.int .i64 ((L.last.2 : Int) + 1))).setCell ⟨h, 4, none⟩ (.int .i64 ((L.next : Int) + 1)) := ⟨_, rfl⟩
      rw [← hw9] at hl8 hc8
      have x9 : w9.cell? ⟨h, 4, none⟩ = some (.int .i64 ((L.next : Int) + 1)) := (row_cells6 hl8.row).2.2.2.2.1
      have HW9 := Lib.hid hw9
      clear hw9
      have HL8 := Lib.hid hl8
      have HC8 := Lib.hid hc8
      have hhs2 : ¬ h = sg := fun e => hhs e.symm
      --@a
      obtain ⟨hw1, hw3, -, -⟩ := ap_wrap L.last.2 hcnt
      obtain ⟨hw2, hw4, hw5, hw6⟩ := ap_wrap L.next hnx
      clear hl8 hc8 x0 x1 x2 x3 x5 y0
      --@5
      go_upto_region 26 with fail
      --@e
      go_upto_region 27 with fail
      rw [← HW9.out]
      clear hw1 hw2 hw3 hw4 y1 x4 z1 z2 hhs hhs2 hcnt hnx
      --@f
      go_wp2_with fail
      --@b
      go_ret2
      --@c
      have hq : Wl.append D L b = (rd, { L with segs := Wl.bump L.segs, next := L.next + 1 }, L.next, 0) := by rw [HAP.out]; unfold Wl.append2; simp only []; rw [← HPK.out, ← HNM.out, ← HR.out, if_neg (by simp)]
      --@d
      rw [hq]
      refine ⟨c6, ?_, HD7.out.chg HC8.out (Ne.symm hij) hj0, ⟨_, HL8.out⟩, HC7.out.trans HC8.out.right2⟩
      rfl
    · go_wp2_with fail
      go_ret2
      have hq : Wl.append D L b = (rd, L, 0, re) := by rw [HAP.out]; unfold Wl.append2; simp only []; rw [← HPK.out, ← HNM.out, ← HR.out, if_pos h0]
      rw [hq]
      exact ⟨c6, rfl, HD6.out, ⟨_, HL6.out⟩, HC6.out⟩
  · have hcz2 : (0 : Int) < (L.last.2 : Int) := by omega
    have hcz3 := hpos (by omega)
    clear hcz
    -- THE TAIL: HD2, HL2, HC2, HB2 at w2; n, sg, cap; hpre; HAP
    obtain ⟨x0, x1, x2, x3, x4, x5⟩ := row_cells6 HL2.out.row
    have n3 := wl_pack w2 L.next (by omega) (.slice ba b.length bc) b HB2.out.1 (by omega)
    clear x0 x1 x2 x3 x5
    go_wp2_with fail
    refine n3.mono ?_
    rintro e w3 ⟨v3, rfl, o3, b3⟩
    clear n3 x4 hcz2 hpos z1 z2
    have hC23 : Chg i c (pnt c w2.heap.size 0) w2 w3 := Chg.of_below' b3 (fun k hk => pnt_old hk)
    have HC3 : Hid (Chg2 i j c (pnt c w2.heap.size 0) W w3) := Lib.hid (HC2.out.trans hC23.left2)
    have HD3 := Lib.hid (HD2.out.below b3 0)
    have HL3 : Hid (LogIs j (pnt c w2.heap.size 0) w3 h g L (.slice (some ⟨sg, 0, none⟩) n cap)) := Lib.hid (HL2.out.keep b3.size (fun k hk hc => ⟨b3.block k hk, by rw [pnt_old hk]; exact hc⟩))
    have hrd3 : RdC (pnt c w2.heap.size 0) w3 v3 (Wl.pack L.next b) := RdC.of_own o3 (fun k hk _ => pnt_new hk)
    have HR3 := Lib.hid hrd3
    obtain ⟨va, vc, rfl⟩ := hrd3.1.form
    generalize pnt c w2.heap.size 0 = c3 at *
    clear hC23 o3 b3 hrd3
    obtain ⟨x0, x1, x2, x3, x4, x5⟩ := row_cells6 HL3.out.row
    obtain ⟨y0, y1⟩ := HL3.out.lastAt HN2.out hnel
    have hhl := (Array.getElem?_eq_some_iff.1 HL3.out.row).1
    have hsl := (HL3.out.seg.lt sg rfl).2
    have hcs := (HL3.out.cols sg rfl).1
    have hch := HL3.out.colh
    have nL : Hid (∀ o, Below w3.heap.size w3 o → Calls Tryz.prog 60 #[.pointer (some ⟨h, 0, none⟩)] o fun e W' => e = .returned (.pointer (some ⟨sg, (n - 1) * 2, none⟩)) ∧ Below o.heap.size o W') :=
      Lib.hid (fun o ho => ap_last HN2.out (HL3.out.below ho) hnpos hnm2)
    have nN : Hid (∀ o, Calls Tryz.prog 58 #[.string ⟨L.pre.toArray⟩, .int .i64 L.last.1] o fun e W' => e = .returned (.string ⟨nm.toArray⟩) ∧ Below o.heap.size o W') :=
      Lib.hid (fun o => by rw [HNM.out]; exact wl_name o ⟨L.pre.toArray⟩ L.last.1 hl100 (by show L.pre.toArray.size ≤ 1000; simp; omega))
    have hns : (⟨nm.toArray⟩ : ByteArray).size ≤ 9223372036854775807 := by
      have := Wl.name_length (p := L.pre) (n := L.last.1) (by omega)
      rw [← HNM.out] at this
      show nm.toArray.size ≤ _
      simp; omega
    have hpl := Wl.pack_length L.next b
    obtain ⟨pk, hpk⟩ : ∃ pk, pk = Wl.pack L.next b := ⟨_, rfl⟩
    rw [← hpk] at hpl HR3 ⊢
    obtain ⟨r, hr⟩ : ∃ r, r = D.write nm (fun n => n) pk := ⟨_, rfl⟩
    have nA : Hid (∀ o, Below w3.heap.size w3 o → Calls Tryz.prog 62 #[.pointer (some ⟨g, 0, none⟩), .string ⟨nm.toArray⟩, .slice va pk.length vc] o (DkPost i c3 o g r)) := Lib.hid (fun o ho => by
      rw [hr]
      exact dk_AppendN (HD3.out.keepW ho) ⟨nm.toArray⟩ hns hbud2 pk _ ((HR3.out.below ho).toN hi0) (by omega) hmany2)
    have HR := Lib.hid hr
    have HPK := Lib.hid hpk
    have HPL := Lib.hid hpl
    clear x2 x3 x4 x5 hns hr hpl hpk
    --@1
    go_wp2_with fail
    --@2
    go_region_held3 (fun w' => w'.cell? ⟨h, 0, none⟩ = some (.pointer (some ⟨g, 0, none⟩)) ∧ w'.cell? ⟨h, 1, none⟩ = some (.string ⟨L.pre.toArray⟩) ∧ w'.cell? ⟨sg, (n - 1) * 2, none⟩ = some (.int .i64 L.last.1))
      (first | assumption | (refine ⟨?_, ?_, ?_⟩ <;> first | assumption | go_keep) | go_keep)
      (first
        | (go_at_call 60; refine (nL.out _ (by first | exact Below.refl _ _ | exact (Below.refl _ _).drew)).mono ?_; rintro e w4 ⟨rfl, hb4⟩; have hB4 : Below w3.heap.size w3 w4 := (Below.drew (Below.refl _ _)).trans hb4; have hS4 := ap_S_step (by assumption) hb4)
        | (go_at_call 58; refine (nN.out _).mono ?_; rintro e w5 ⟨rfl, hb5⟩; have hB5 := hB4.trans (hb5.mono hB4.size); have hS5 := ap_S_step hS4 hb5)
        | (go_at_call 62; refine (nA.out _ hB5).mono ?_; rintro e w6 ⟨c6, rfl, hd6, hc6⟩; have hS6 := ap_S_chg hS5 hc6 (by rw [hch]; exact Ne.symm hij) (by rw [hcs]; exact Ne.symm hij)))
    --@3
    have HC6 : Hid (Chg2 i j c c6 W w6) := Lib.hid (HC3.out.trans ((chg_same hB5).left2.trans hc6.left2))
    have HL6 : Hid (LogIs j c6 w6 h g L (.slice (some ⟨sg, 0, none⟩) n cap)) := Lib.hid ((HL3.out.below hB5).keep hc6.size (fun k hk hc => ⟨hc6.block k hk (by rw [hc]; exact Ne.symm hij), by rw [hc6.col k hk]; exact hc⟩))
    have HD6 := Lib.hid hd6
    clear x0 x1 y0 y1 nL nN nA hd6 hc6 hS4 hS5 hS6 hB4 hb4 hb5 hB5 HC3 HD3 HL3 HR3 hcs hch
    --@4
    obtain ⟨rd, re⟩ := r
    simp only [] at HD6 ⊢
    by_cases h0 : re = 0
    · have n7 := ap_last HN2.out HL6.out hnpos hnm2
      subst h0
      --@6
      go_wp2_with fail
      --@7
      refine n7.mono ?_
      rintro e w7 ⟨rfl, b7⟩
      have HL7 := Lib.hid (HL6.out.below b7)
      have HC7 : Hid (Chg2 i j c c6 W w7) := Lib.hid (HC6.out.trans (chg_same (i := i) b7).left2)
      have HD7 := Lib.hid (HD6.out.keepW b7)
      clear n7 b7 HL6 HC6 HD6
      --@8
      obtain ⟨x0, x1, x2, x3, x4, x5⟩ := row_cells6 HL7.out.row
      obtain ⟨y0, y1⟩ := HL7.out.lastAt HN2.out hnel
      have hhs := (HL7.out.cols sg rfl).2
      have z1 : w7.frozen? ⟨sg, (n - 1) * 2 + 1, none⟩ = false := HL7.out.segFrozen _
      have z2 : w7.frozen? ⟨h, 4, none⟩ = false := dk_frozen _ _ _ _ _ HL7.out.row
      --@9
      obtain ⟨hl8, hc8⟩ := HL7.out.bumped hnel HN2.out
      obtain ⟨w9, hw9⟩ : ∃ w9, w9 = (w7.setCell ⟨sg, (n - 1) * 2 + 1, none⟩ (.int .i64 ((L.last.2 : Int) + 1))).setCell ⟨h, 4, none⟩ (.int .i64 ((L.next : Int) + 1)) := ⟨_, rfl⟩
      rw [← hw9] at hl8 hc8
      have x9 : w9.cell? ⟨h, 4, none⟩ = some (.int .i64 ((L.next : Int) + 1)) := (row_cells6 hl8.row).2.2.2.2.1
      have HW9 := Lib.hid hw9
      clear hw9
      have HL8 := Lib.hid hl8
      have HC8 := Lib.hid hc8
      have hhs2 : ¬ h = sg := fun e => hhs e.symm
      --@a
      obtain ⟨hw1, hw3, -, -⟩ := ap_wrap L.last.2 hcnt
      obtain ⟨hw2, hw4, hw5, hw6⟩ := ap_wrap L.next hnx
      clear hl8 hc8 x0 x1 x2 x3 x5 y0
      --@5
      go_upto_region 26 with fail
      --@e
      go_upto_region 27 with fail
      rw [← HW9.out]
      clear hw1 hw2 hw3 hw4 y1 x4 z1 z2 hhs hhs2 hcnt hnx
      --@f
      go_wp2_with fail
      --@b
      go_ret2
      --@c
      have hq : Wl.append D L b = (rd, { L with segs := Wl.bump L.segs, next := L.next + 1 }, L.next, 0) := by rw [HAP.out]; unfold Wl.append2; simp only []; rw [← HPK.out, ← HNM.out, ← HR.out, if_neg (by simp)]
      --@d
      rw [hq]
      refine ⟨c6, ?_, HD7.out.chg HC8.out (Ne.symm hij) hj0, ⟨_, HL8.out⟩, HC7.out.trans HC8.out.right2⟩
      rfl
    · go_wp2_with fail
      go_ret2
      have hq : Wl.append D L b = (rd, L, 0, re) := by rw [HAP.out]; unfold Wl.append2; simp only []; rw [← HPK.out, ← HNM.out, ← HR.out, if_pos h0]
      rw [hq]
      exact ⟨c6, rfl, HD6.out, ⟨_, HL6.out⟩, HC6.out⟩

end Go.Proofs.YtcbnbhlgikjbeaaGreatDoor
