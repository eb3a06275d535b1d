/-
  Log.Sync on a log that is as the entries say.
-/
import Derived.Test.YtcbnbhlgikjbeaaGreatDoorWlKnow
namespace Go.Proofs.YtcbnbhlgikjbeaaGreatDoor
open Go.RowKit

set_option maxRecDepth 100000 in
set_option maxHeartbeats 1000000 in
theorem wl_Sync {i j : Nat} {c : Nat → Nat} {W : World} {h g : Nat} {D : Dk.D} {L : Wl.L} {p : Wl.Bs} {sz : Nat} {ps : List Wl.Bs} {a : Nat} {os : List (Nat × Nat)} {fo : List (Wl.Bs × Dk.Fl)} {f k : Nat} {gf : Dk.Fl}
    (hd : DiskAt i c W g D) (hl : LogAt j c W h g L) (hij : i ≠ j) (hj0 : j ≠ 0) (hup : D.down = false) (hbud : D.bud ≤ 9223372036854775807) (I : Wl.Inv p sz ps D L a os fo f k gf) (hn : ps.length < 100) :
    Calls Tryz.prog 28 #[.pointer (some ⟨h, 0, none⟩)] W fun e W' => ∃ c', e = .returned (.int .i64 (Wl.sync D L).2.2) ∧ DiskAt i c' W' g (Wl.sync D L).1 ∧ LogAt j c' W' h g (Wl.sync D L).2.1 ∧ Chg2 i j c c' W W' := by
  obtain ⟨sv, hl⟩ := hl
  have hlen := I.len
  have hla := I.last
  have hpl : L.pre.length ≤ 1000 := by
    have := I.vp
    unfold Wl.validP at this
    simp only [Bool.and_eq_true, decide_eq_true_eq] at this
    rw [I.pre]; omega
  have hl1 : L.last.1 < 100 := by rw [hla]; show f < 100; omega
  have hnel : L.segs ≠ [] := by rw [I.segs]; simp
  have hsegs : L.segs.length ≤ 101 := by
    rw [I.segs, List.length_append]
    have := I.chain.len I.pos
    simp; omega
  obtain ⟨sg, cap, cur, rfl, hrow, hcn, hcap, -⟩ := hl.form hnel
  obtain ⟨n, hn2⟩ : ∃ n, n = L.segs.length := ⟨_, rfl⟩
  rw [← hn2] at hl hcn
  have hnpos : 0 < n := by have := List.length_pos_iff.2 hnel; omega
  have hnm2 : n ≤ 1000000 := by omega
  have nDn := dk_Down hd
  rw [hup] at nDn
  have nL := ap_last hn2 hl hnpos hnm2
  obtain ⟨r, hr⟩ : ∃ r, r = Wl.settle D L.pre L.last.1 := ⟨_, rfl⟩
  have hq : Wl.sync D L = if r.2 ≠ 0 then (r.1, L, r.2) else (r.1, { L with synced := L.next }, 0) := by
    unfold Wl.sync
    rw [if_neg (by simp [hup]), hr]
  obtain ⟨x0, x1, x2, x3, x4, x5⟩ := row_cells6 hl.row
  obtain ⟨y0, y1⟩ := hl.lastAt hn2 hnel
  have hsl := (hl.seg.lt sg rfl).2
  have HD := Lib.hid hd
  have HL := Lib.hid hl
  have HQ := Lib.hid hq
  have HR := Lib.hid hr
  clear hd hl hq hr hrow hla I hn2 x1 x2 x3 x4 x5 hlen
  go_enter Tryz.func28, Tryz.ntmps28
  go_wp2_with fail
  refine nDn.mono ?_
  rintro e w0 ⟨rfl, rfl⟩
  clear nDn
  go_wp2_with fail
  refine nL.mono ?_
  rintro e w1 ⟨rfl, b1⟩
  have z0 := (b1.cell (p := ⟨sg, (n - 1) * 2, none⟩) hsl).trans y0
  have z1 := (b1.cell (p := ⟨sg, (n - 1) * 2 + 1, none⟩) hsl).trans y1
  have HD1 := Lib.hid (HD.out.keepW b1)
  have HL1 := Lib.hid (HL.out.below b1)
  have HC1 : Hid (Chg2 i j c c W w1) := Lib.hid (chg_same (i := i) b1).left2
  have n2 := wl_settle HD1.out ⟨_, HL1.out⟩ hij L.last hl1 hpl hbud
  rw [← HR.out] at n2
  clear nL y0 y1 x0 b1 HD HL
  go_wp2_with fail
  refine n2.mono ?_
  rintro e w2 ⟨c2, rfl, d2, h2⟩
  have HL2 : Hid (LogIs j c2 w2 h g L (.slice (some ⟨sg, 0, none⟩) n cap)) := Lib.hid (HL1.out.keep h2.size (fun k hk hc => ⟨h2.block k hk (by rw [hc]; exact Ne.symm hij), by rw [h2.col k hk]; exact hc⟩))
  have HD2 := Lib.hid d2
  have HC2 : Hid (Chg2 i j c c2 W w2) := Lib.hid (HC1.out.trans h2.left2)
  clear n2 d2 h2 HC1 HL1 HD1 z0 z1
  obtain ⟨rd, re⟩ := r
  by_cases h0 : re = 0
  · subst h0
    obtain ⟨x0, x1, x2, x3, x4, x5⟩ := row_cells6 HL2.out.row
    have z5 : w2.frozen? ⟨h, 5, none⟩ = false := dk_frozen _ _ _ _ _ HL2.out.row
    obtain ⟨hl3, hc3⟩ := HL2.out.syncedAt
    have HL3 := Lib.hid hl3
    have HC3 := Lib.hid hc3
    clear x0 x1 x2 x3 hl3 hc3
    go_wp2_with fail
    go_ret
    rw [HQ.out]
    exact ⟨c2, rfl, HD2.out.chg HC3.out (Ne.symm hij) hj0, ⟨_, HL3.out⟩, HC2.out.trans HC3.out.right2⟩
  · go_wp2_with fail
    go_ret
    rw [HQ.out, if_pos h0]
    exact ⟨c2, rfl, HD2.out, ⟨_, HL2.out⟩, HC2.out⟩

end Go.Proofs.YtcbnbhlgikjbeaaGreatDoor
