/-
  Append where a new segment is begun.
-/
import Derived.Test.YtcbnbhlgikjbeaaGreatDoorWlAppend
import Derived.Test.YtcbnbhlgikjbeaaGreatDoorWlSink
import Derived.Maps.AppendAt
namespace Go.Proofs.YtcbnbhlgikjbeaaGreatDoor
open Go.RowKit

/-- rf_append, and where the new slice lies -/
theorem wl_append_at {w : World} (t ty e : TypeId) (i : TypeInfo) (z : Value) (size bytes : Nat) (ht : Tryz.prog.underlying t = some (.slice e)) (hi : Tryz.prog.info? e = some i) (hz : i.zero = some z)
    (hsize : i.size = size) (hby : i.bytes = bytes) (hzs : z.cells.size = size) (hsz : 0 < size) (base : Nat) (v : Value) (n : Nat) (xs : List Value) (hown : w.ownsRow base e size v n xs)
    (a2 : Option Addr) (m c : Nat) (news : List Value) (hl : news.length = m * size) (hnews : ∀ ad, a2 = some ad → ∀ j u, news[j]? = some u → w.cell? (ad.add j) = some u) (h0 : a2 = none → m = 0) (h1 : ∀ u ∈ news, u.oneCell' = true)
    (h63 : n + m ≤ maxLen) (hbytes : (n + m) * bytes ≤ 140737488355328) (hbase : base ≤ w.heap.size) :
    ∃ v' w', (Builtin.append_ #[t, t] ty #[v, .slice a2 m c]).run Tryz.prog w = .ok v' w' ∧ w'.ownsRow base e size v' (n + m) (xs ++ news) ∧ w.grownBy w' v.ownBlock ∧ (v'.ownBlock = v.ownBlock ∨ v'.ownBlock = some w.heap.size) := by
  cases a2 with
  | none =>
    obtain rfl := h0 rfl
    obtain rfl : news = [] := List.eq_nil_of_length_eq_zero (by omega)
    refine ⟨v, w, ?_, by simpa using hown, ⟨rfl, rfl, rfl, Nat.le_refl _, fun _ _ _ => rfl⟩, .inl rfl⟩
    rcases hown.2 with ⟨rfl, rfl⟩ | ⟨g, cap, cur, rfl, _, _, hnc, _⟩
    · simp [Builtin.append_, run_underlying ht, sizeOf, typeInfo, hi, Builtin.lenOf, Builtin.firstCells]
    · simp [Builtin.append_, run_underlying ht, sizeOf, typeInfo, hi, Builtin.lenOf, Builtin.firstCells, hnc, storeCells]
  | some ad =>
    obtain ⟨v', w', hr, ho, hg, _, hat⟩ := run_append_own_at (P := Tryz.prog) w base t ty e i z size bytes ht hi hz hsize hby hzs hsz v n xs hown ad m c news hl (hnews ad rfl) h1 h63 hbytes hbase
    exact ⟨v', w', hr, ho, hg, hat⟩

namespace Dk
theorem modify_bud (d : D) (fs : List (Bs × Fl)) {M : Int} (h : d.bud ≤ M) : (d.modify fs).1.bud ≤ M := by
  unfold D.modify
  split
  · exact h
  · show (if 0 < d.bud then d.bud - 1 else d.bud) ≤ M
    split <;> omega
theorem modify_len (d : D) (fs : List (Bs × Fl)) {M : Nat} (h : d.fs.length ≤ M) (h2 : fs.length ≤ M) : (d.modify fs).1.fs.length ≤ M := by
  unfold D.modify
  split
  · exact h
  · exact h2
theorem find_ins_self0 (n : Bs) (f : Fl) : ∀ (fs : List (Bs × Fl)), find n fs = none → find n (ins n f fs) = some f
  | [], _ => by simp [find, ins, insBy]
  | y :: r, h => by
    have hy : (y.1 == n) = false := by
      cases hb : (y.1 == n) with
      | false => rfl
      | true => unfold find at h; rw [List.find?_cons, hb] at h; simp at h
    have hr : find n r = none := by unfold find at h ⊢; rw [List.find?_cons, hy] at h; exact h
    have ih := find_ins_self0 n f r hr
    unfold ins insBy
    split
    · unfold find; simp
    · unfold ins find at ih
      unfold find
      rw [List.find?_cons, hy]
      exact ih
theorem create_ok {d : D} {n : Bs} (h : (d.create n).2 = 0) : find n (d.create n).1.fs = some ⟨[], []⟩ := by
  unfold D.create at h ⊢
  split
  · rename_i hd; rw [if_pos hd] at h; cases h
  · rename_i hd
    rw [if_neg hd] at h
    split
    · rename_i hc; rw [if_pos hc] at h; exact absurd h hc
    · rename_i hc
      rw [if_neg hc] at h
      have hf : find n d.fs = none := by
        have h0 : createCheck d n = 0 := by omega
        unfold createCheck at h0
        split at h0
        · cases h0
        · split at h0
          · cases h0
          · rename_i h1; simpa using h1
      unfold D.modify at h ⊢
      split
      · rename_i hb; rw [if_pos hb] at h; cases h
      · exact find_ins_self0 n _ _ hf
theorem create_bud (d : D) (n : Bs) {M : Int} (h : d.bud ≤ M) : (d.create n).1.bud ≤ M := by
  unfold D.create
  split
  · exact h
  · split
    · exact h
    · exact modify_bud _ _ h
end Dk
theorem settle_bud (d : Dk.D) (p : Dk.Bs) (s : Nat) {M : Int} (h : d.bud ≤ M) : (Wl.settle d p s).1.bud ≤ M := by
  unfold Wl.settle
  split
  · exact h
  · unfold Dk.D.sync
    split
    · exact h
    · split
      · exact h
      · exact Dk.modify_bud _ _ h
theorem settle_len (d : Dk.D) (p : Dk.Bs) (s : Nat) {M : Nat} (h : d.fs.length ≤ M) : (Wl.settle d p s).1.fs.length ≤ M := by
  unfold Wl.settle
  split
  · exact h
  · unfold Dk.D.sync
    split
    · exact h
    · split
      · exact h
      · exact Dk.modify_len _ _ h (by unfold Dk.upd; simpa using h)
theorem ap_Create_S {w w3 : World} {h : Nat} {x0 x1 x4 : Value} (H : w.cell? ⟨h, 0, none⟩ = some x0 ∧ w.cell? ⟨h, 1, none⟩ = some x1 ∧ w.cell? ⟨h, 4, none⟩ = some x4) (hb : Below w.heap.size w w3) :
    w3.cell? ⟨h, 0, none⟩ = some x0 ∧ w3.cell? ⟨h, 1, none⟩ = some x1 ∧ w3.cell? ⟨h, 4, none⟩ = some x4 :=
  ⟨(hb.cell (World.block_lt_of_cell? w _ H.1)).trans H.1, (hb.cell (World.block_lt_of_cell? w _ H.2.1)).trans H.2.1, (hb.cell (World.block_lt_of_cell? w _ H.2.2)).trans H.2.2⟩
theorem ap_Create_C {i : Nat} {c c' : Nat → Nat} {w w3 : World} {h : Nat} {x0 x1 x4 : Value} (H : w.cell? ⟨h, 0, none⟩ = some x0 ∧ w.cell? ⟨h, 1, none⟩ = some x1 ∧ w.cell? ⟨h, 4, none⟩ = some x4) (hc : Chg i c c' w w3) (hh : c h ≠ i) :
    w3.cell? ⟨h, 0, none⟩ = some x0 ∧ w3.cell? ⟨h, 1, none⟩ = some x1 ∧ w3.cell? ⟨h, 4, none⟩ = some x4 :=
  ⟨ap_cell_chg H.1 hc hh, ap_cell_chg H.2.1 hc hh, ap_cell_chg H.2.2 hc hh⟩
theorem LogIs.chgD {i j : Nat} {c c' : Nat → Nat} {W W' : World} {h g : Nat} {L : Wl.L} {sv : Value} (H : LogIs j c W h g L sv) (hc : Chg i c c' W W') (hij : i ≠ j) : LogIs j c' W' h g L sv :=
  H.keep hc.size (fun b hb hcb => ⟨hc.block b hb (by rw [hcb]; exact Ne.symm hij), (hc.col b hb).trans hcb⟩)

set_option maxRecDepth 100000 in
set_option maxHeartbeats 4000000 in
theorem wl_Append_roll {i j : Nat} {c : Nat → Nat} {W : World} {h g : Nat} {D : Dk.D} {L : Wl.L} (hd : DiskAt i c W g D) (hl : LogAt j c W h g L) (hij : i ≠ j) (hj0 : j ≠ 0) (hup : D.down = false) (hbud : D.bud ≤ 9223372036854775807) (hlenD : D.fs.length ≤ 1073741824)
    {f : Dk.Fl} (hf : Dk.find (Wl.name L.pre L.last.1) D.fs = some f) (hcl : f.contents.length ≤ 1000000000) (hnel : L.segs ≠ []) (hmax : L.segs.length < 1000000) (hl100 : L.last.1 < 100) (hn100 : L.next < 100) (hcnt : L.last.2 ≤ 1000000) (hp : L.pre.length ≤ 100) (hsz : L.size ≤ 1000000000)
    {bv : Value} {b : Wl.Bs} (hb : RdC c W bv b) (hbl : b.length ≤ 65536) (hroll : 0 < L.last.2 ∧ L.size ≤ f.contents.length) :
    Calls Tryz.prog 19 #[.pointer (some ⟨h, 0, none⟩), bv] W (ApPost i j c W h g (Wl.append D L b)) := by
  have hi0 : i ≠ 0 := by obtain ⟨_, _, hh⟩ := hd; exact hh.ne
  obtain ⟨ba, bc, rfl⟩ := hb.1.form
  obtain ⟨sv, hl⟩ := hl
  obtain ⟨sg, cap, cur, rfl, hrow, hcn, _⟩ := hl.form hnel
  have hsize : D.size (Wl.name L.pre L.last.1) = (f.contents.length, 0) := by unfold Dk.D.size; rw [if_neg (by simp [hup])]; simp [hf]
  obtain ⟨r1, hr1⟩ : ∃ r1, r1 = Wl.settle D L.pre L.last.1 := ⟨_, rfl⟩
  have HAP0 : Hid (Wl.append D L b = if r1.2 ≠ 0 then (r1.1, L, 0, r1.2) else if (r1.1.create (Wl.name L.pre L.next)).2 ≠ 0 then ((r1.1.create (Wl.name L.pre L.next)).1, { L with synced := L.next }, 0, (r1.1.create (Wl.name L.pre L.next)).2) else Wl.append2 (r1.1.create (Wl.name L.pre L.next)).1 { L with synced := L.next, segs := L.segs ++ [(L.next, 0)] } b) := Lib.hid (by
    unfold Wl.append
    rw [if_neg (by omega), if_neg (by simp [hup]), hsize]
    simp only []
    rw [if_neg (by simp), if_pos hroll, ← hr1])
  have hb1 : r1.1.bud ≤ 9223372036854775807 := by rw [hr1]; exact settle_bud _ _ _ hbud
  have hlen1 : r1.1.fs.length ≤ 1073741824 := by rw [hr1]; exact settle_len _ _ _ hlenD
  have HR1 := Lib.hid hr1
  obtain ⟨n, hn2⟩ : ∃ n, n = L.segs.length := ⟨_, rfl⟩
  rw [← hn2] at hl hcn
  have hnpos : 0 < n := by have := List.length_pos_iff.2 hnel; omega
  have hnm2 : n ≤ 1000000 := by omega
  have HN2 := Lib.hid hn2
  have HL := Lib.hid hl
  have HD := Lib.hid hd
  have HB := Lib.hid hb
  obtain ⟨x0, x1, x2, x3, x4, x5⟩ := row_cells6 hl.row
  obtain ⟨y0, y1⟩ := hl.lastAt hn2 hnel
  have hhl := (Array.getElem?_eq_some_iff.1 hl.row).1
  have hsl := (hl.seg.lt sg rfl).2
  have nDn := dk_Down hd
  rw [hup] at nDn
  have nL : Hid (∀ o, Below W.heap.size W o → Calls Tryz.prog 60 #[.pointer (some ⟨h, 0, none⟩)] o fun e W' => e = .returned (.pointer (some ⟨sg, (n - 1) * 2, none⟩)) ∧ Below o.heap.size o W') :=
    Lib.hid (fun o ho => ap_last HN2.out (HL.out.below ho) hnpos hnm2)
  have nN : Hid (∀ o, Calls Tryz.prog 58 #[.string ⟨L.pre.toArray⟩, .int .i64 L.last.1] o fun e W' => e = .returned (.string ⟨(Wl.name L.pre L.last.1).toArray⟩) ∧ Below o.heap.size o W') :=
    Lib.hid (fun o => wl_name o ⟨L.pre.toArray⟩ L.last.1 hl100 (by show L.pre.toArray.size ≤ 1000; simp; omega))
  have hns : (⟨(Wl.name L.pre L.last.1).toArray⟩ : ByteArray).size ≤ 9223372036854775807 := by
    have := Wl.name_length (p := L.pre) (n := L.last.1) (by omega)
    show (Wl.name L.pre L.last.1).toArray.size ≤ _
    simp; omega
  have nS : Hid (∀ o, Below W.heap.size W o → Calls Tryz.prog 59 #[.pointer (some ⟨g, 0, none⟩), .string ⟨(Wl.name L.pre L.last.1).toArray⟩] o fun e W' => e = .returned (.tuple #[.int .i64 (f.contents.length : Nat), .int .i64 0]) ∧ Below o.heap.size o W') :=
    Lib.hid (fun o ho => by have := dk_Size (HD.out.keepW ho) ⟨(Wl.name L.pre L.last.1).toArray⟩ hns; rw [show (⟨(Wl.name L.pre L.last.1).toArray⟩ : ByteArray).data.toList = Wl.name L.pre L.last.1 from rfl, hsize] at this; exact this)
  obtain ⟨nm, hnm⟩ : ∃ nm, nm = Wl.name L.pre L.last.1 := ⟨_, rfl⟩
  obtain ⟨fl, hfl⟩ : ∃ fl, fl = f.contents.length := ⟨_, rfl⟩
  rw [← hnm] at nN nS
  rw [← hfl] at nS hcl hroll
  have HNM := Lib.hid hnm
  clear hn2
  have hbi : ¬ (65536 : Int) < (b.length : Int) := by omega
  have hcz2 : (0 : Int) < (L.last.2 : Int) := by omega
  have hcz3 : (L.size : Int) ≤ (fl : Int) := by omega
  clear hl hd hb hrow hsize hroll hns hr1 x2 x3 x4 x5 hf hnm hfl
  go_enter Tryz.func19, Tryz.ntmps19
  go_wp2_with fail
  refine nDn.mono ?_
  rintro e w0 ⟨rfl, rfl⟩
  clear nDn
  go_wp2_with fail
  go_region_held3 (fun w' => w'.cell? ⟨h, 0, none⟩ = some (.pointer (some ⟨g, 0, none⟩)) ∧ w'.cell? ⟨h, 1, none⟩ = some (.string ⟨L.pre.toArray⟩) ∧ w'.cell? ⟨sg, (n - 1) * 2, none⟩ = some (.int .i64 L.last.1))
    (first | assumption | (refine ⟨?_, ?_, ?_⟩ <;> first | assumption | go_keep) | go_keep)
    (first
      | (go_at_call 60; refine (nL.out _ (by first | exact Below.refl _ _ | exact (Below.refl _ _).drew)).mono ?_; rintro e w4 ⟨rfl, hb4⟩; have hB4 : Below W.heap.size W w4 := (Below.drew (Below.refl _ _)).trans hb4; have hS4 := ap_S_step (by assumption) hb4)
      | (go_at_call 58; refine (nN.out _).mono ?_; rintro e w5 ⟨rfl, hb5⟩; have hB5 := hB4.trans (hb5.mono hB4.size); have hS5 := ap_S_step hS4 hb5)
      | (go_at_call 59; refine (nS.out _ hB5).mono ?_; rintro e w1 ⟨rfl, hb6⟩; have hB6 := hB5.trans (hb6.mono hB5.size); have hS6 := ap_S_step hS5 hb6))
  have n8 := nL.out _ hB6
  have z2 := (hB6.cell (p := ⟨h, 2, none⟩) hhl).trans (row_cells6 HL.out.row).2.2.1
  have z1 := (hB6.cell (p := ⟨sg, (n - 1) * 2 + 1, none⟩) hsl).trans y1
  clear hS4 hS5 hS6 hb4 hB4 hb5 hB5 hb6 x0 x1 y0 y1
  go_wp2_with fail
  refine n8.mono ?_
  rintro e w2 ⟨rfl, b8⟩
  have hB2 := hB6.trans (b8.mono hB6.size)
  have z1 := (b8.cell (p := ⟨sg, (n - 1) * 2 + 1, none⟩) (by have := hB6.size; show sg < _; omega)).trans z1
  have z2 := (b8.cell (p := ⟨h, 2, none⟩) (by have := hB6.size; show h < _; omega)).trans z2
  have HL2 := Lib.hid (HL.out.below hB2)
  have HD2 := Lib.hid (HD.out.keepW hB2)
  have HB2 := Lib.hid (HB.out.below hB2)
  have HC2 : Hid (Chg2 i j c c W w2) := Lib.hid (chg_same (i := i) hB2).left2
  have y0 := (b8.cell (p := ⟨sg, (n - 1) * 2, none⟩) (by have := hB6.size; show sg < _; omega)).trans ((hB6.cell (p := ⟨sg, (n - 1) * 2, none⟩) hsl).trans (HL.out.lastAt HN2.out hnel).1)
  have n9 := ap_last HN2.out HL2.out hnpos hnm2
  clear n8 b8 hB6 hB2 HL HD HB nL nN nS
  --@1
  go_wp2_with fail
  refine n9.mono ?_
  rintro e w3 ⟨rfl, b9⟩
  have y0 := (b9.cell (p := ⟨sg, (n - 1) * 2, none⟩) (World.block_lt_of_cell? _ _ y0)).trans y0
  have y1 := (b9.cell (p := ⟨sg, (n - 1) * 2 + 1, none⟩) (World.block_lt_of_cell? _ _ z1)).trans z1
  have HL3 := Lib.hid (HL2.out.below b9)
  have HD3 := Lib.hid (HD2.out.keepW b9)
  have HB3 := Lib.hid (HB2.out.below b9)
  have HC3 : Hid (Chg2 i j c c W w3) := Lib.hid (HC2.out.trans (chg_same (i := i) b9).left2)
  have n10 := wl_settle HD3.out ⟨_, HL3.out⟩ hij L.last hl100 (by omega) hbud
  rw [← HR1.out] at n10
  clear n9 b9 z1 z2 hcz2 hcz3 HL2 HD2 HB2 HC2
  --@2
  go_wp2_with fail
  refine n10.mono ?_
  rintro e w4 ⟨c4, rfl, hd4, hc4⟩
  have HC4 : Hid (Chg2 i j c c4 W w4) := Lib.hid (HC3.out.trans hc4.left2)
  have HL4 := Lib.hid (HL3.out.chgD hc4 hij)
  have HD4 := Lib.hid hd4
  have HB4 := Lib.hid (HB3.out.chg hc4 hi0)
  clear n10 hd4 hc4 y0 y1 HL3 HD3 HB3 HC3
  obtain ⟨D4, e4⟩ := r1
  simp only [] at HAP0 HD4 hb1 hlen1 ⊢
  by_cases h4 : e4 = 0
  · subst h4
    obtain ⟨x0, x1, x2, x3, x4, x5⟩ := row_cells6 HL4.out.row
    obtain ⟨hl5, hc5⟩ := HL4.out.syncedAt
    obtain ⟨w5, hw5⟩ : ∃ w5, w5 = w4.setCell ⟨h, 5, none⟩ (.int .i64 L.next) := ⟨_, rfl⟩
    rw [← hw5] at hl5 hc5
    have z5 : w4.frozen? ⟨h, 5, none⟩ = false := dk_frozen _ _ _ _ _ HL4.out.row
    have HC5 : Hid (Chg2 i j c c4 W w5) := Lib.hid (HC4.out.trans hc5.right2)
    have HD5 := Lib.hid (HD4.out.chg hc5 (Ne.symm hij) hj0)
    have HB5 := Lib.hid (HB4.out.chg hc5 hj0)
    have HL5 := Lib.hid hl5
    have HW5 := Lib.hid hw5
    clear hl5 hc5 hw5 HC4 HD4 HB4 HL4 x0 x1 x2 x3
    --@3
    go_upto_region 15 with fail
    rw [← HW5.out]
    clear x4 x5 z5 HW5
    obtain ⟨x0, x1, x2, x3, x4, x5⟩ := row_cells6 HL5.out.row
    simp only [] at x0 x1 x2 x3 x4 x5
    obtain ⟨nm2, hnm2n⟩ : ∃ nm2, nm2 = Wl.name L.pre L.next := ⟨_, rfl⟩
    have HNM2 := Lib.hid hnm2n
    obtain ⟨q, hq⟩ : ∃ q, q = D4.create nm2 := ⟨_, rfl⟩
    have HQ := Lib.hid hq
    have nN : Hid (∀ o, Calls Tryz.prog 58 #[.string ⟨L.pre.toArray⟩, .int .i64 L.next] o fun e W' => e = .returned (.string ⟨nm2.toArray⟩) ∧ Below o.heap.size o W') :=
      Lib.hid (fun o => by rw [HNM2.out]; exact wl_name o ⟨L.pre.toArray⟩ L.next hn100 (by show L.pre.toArray.size ≤ 1000; simp; omega))
    have hns : (⟨nm2.toArray⟩ : ByteArray).size ≤ 9223372036854775807 := by
      have := Wl.name_length (p := L.pre) (n := L.next) (by omega)
      rw [← HNM2.out] at this
      show nm2.toArray.size ≤ _
      simp; omega
    have nC : Hid (∀ o, Below w5.heap.size w5 o → Calls Tryz.prog 11 #[.pointer (some ⟨g, 0, none⟩), .string ⟨nm2.toArray⟩] o (DkPost i c4 o g q)) := Lib.hid (fun o ho => by rw [hq]; exact dk_create (HD5.out.keepW ho) ⟨nm2.toArray⟩ hns hb1 hlen1)
    have hch := HL5.out.colh
    clear x2 x3 x5 hnm2n hq hns
    --@4
    go_region_held3 (fun w' => w'.cell? ⟨h, 0, none⟩ = some (.pointer (some ⟨g, 0, none⟩)) ∧ w'.cell? ⟨h, 1, none⟩ = some (.string ⟨L.pre.toArray⟩) ∧ w'.cell? ⟨h, 4, none⟩ = some (.int .i64 L.next))
      (first | assumption | (refine ⟨?_, ?_, ?_⟩ <;> first | assumption | go_keep) | go_keep)
      (first
        | (go_at_call 58; refine (nN.out _).mono ?_; rintro e w6 ⟨rfl, hb6⟩; have hB6 : Below w5.heap.size w5 w6 := (Below.drew (Below.refl _ _)).trans hb6; have hS6 := ap_Create_S (by assumption) hb6)
        | (go_at_call 11; refine (nC.out _ hB6).mono ?_; rintro e w7 ⟨c7, rfl, hd7, hc7⟩; have hS7 := ap_Create_C hS6 hc7 (by rw [hch]; exact Ne.symm hij)))
    have HC7 : Hid (Chg2 i j c c7 W w7) := Lib.hid (HC5.out.trans ((chg_same hB6).left2.trans hc7.left2))
    have HL7 := Lib.hid ((HL5.out.below hB6).chgD hc7 hij)
    have HD7 := Lib.hid hd7
    have HB7 := Lib.hid ((HB5.out.below hB6).chg hc7 hi0)
    clear hS6 hS7 hB6 hb6 hd7 hc7 nN nC HC5 HL5 HD5 HB5 x0 x1 x4 hch
    have hq2 : D4.create (Wl.name L.pre L.next) = q := by rw [HQ.out, HNM2.out]
    rw [hq2] at HAP0
    obtain ⟨D7, e7⟩ := q
    simp only [] at HAP0 HD7 ⊢
    by_cases h7 : e7 = 0
    · subst h7
      have hmany2 : ∀ f', Dk.find nm2 D7.fs = some f' → f'.pend.length < 65536 := fun f' h' => by
        have h1 := Dk.create_ok (d := D4) (n := nm2) (by rw [← HQ.out])
        rw [← HQ.out] at h1
        simp only [] at h1
        rw [h1] at h'; cases h'; simp
      have hbud2 : D7.bud ≤ 9223372036854775807 := by
        have h1 := Dk.create_bud D4 nm2 hb1
        rw [← HQ.out] at h1; exact h1
      obtain ⟨x0, x1, x2, x3, x4, x5⟩ := row_cells6 HL7.out.row
      simp only [] at x0 x1 x2 x3 x4 x5
      clear x0 x1 x2 x5 hq2
      --@5
      go_upto_region 18 with fail
      obtain ⟨i0, hi, hz0, hz1, hz2⟩ := info_parts infoSeg
      have HS7 : Hid (w7.ownsRow 0 101 2 (.slice (some ⟨sg, 0, none⟩) n cap) L.segs.length (segCells L.segs)) := Lib.hid HL7.out.seg
      have hhl7 : h < w7.heap.size := (Array.getElem?_eq_some_iff.1 HL7.out.row).1
      have hsg7 : sg < w7.heap.size ∧ sg ≠ h := ⟨(HL7.out.seg.lt sg rfl).2, (HL7.out.cols sg rfl).2⟩
      refine wp_region_sinkC' (fun w' => w'.cell? ⟨h, 3, none⟩ = some (.slice (some ⟨sg, 0, none⟩) n cap) ∧ w'.cell? ⟨h, 4, none⟩ = some (.int .i64 L.next)) _ rfl (by kernel_rfl) (by kernel_rfl) ⟨x3, x4⟩ (fun hHeld => ?_)
      simp only [List.pop_toArray, List.dropLast_cons_cons, List.dropLast_singleton]
      (refine wpAnyH_take (i := 0) (v := ?_) rfl (by kernel_rfl) (by kernel_rfl) (by kernel_rfl) (fun _ _ _ h => h) (Or.inl ⟨by rfl, ?_⟩) (by assumption) ?_; rotate_left; focus ((intro w hSw; (try dsimp only at hSw); go_simp); try (with_reducible rfl); done); try simp only [Act.put, List.setIfInBounds_toArray, List.set_cons_zero, List.set_cons_succ])
      (refine wpAnyH_take (i := 1) (v := ?_) rfl (by kernel_rfl) (by kernel_rfl) (by kernel_rfl) (fun _ _ _ h => h) (Or.inl ⟨by rfl, ?_⟩) (by assumption) ?_; rotate_left; focus ((intro w hSw; (try dsimp only at hSw); go_simp); try (with_reducible rfl); done); try simp only [Act.put, List.setIfInBounds_toArray, List.set_cons_zero, List.set_cons_succ])
      (refine wpAnyH_take (i := 2) (v := ?_) rfl (by kernel_rfl) (by kernel_rfl) (by kernel_rfl) (fun _ _ _ h => h) (Or.inl ⟨by rfl, ?_⟩) (by assumption) ?_; rotate_left; focus ((intro w hSw; (try dsimp only at hSw); go_simp); try (with_reducible rfl); done); try simp only [Act.put, List.setIfInBounds_toArray, List.set_cons_zero, List.set_cons_succ])
      (refine wpAnyH_take (i := 3) (v := ?_) rfl (by kernel_rfl) (by kernel_rfl) (by kernel_rfl) (fun _ _ _ h => h) (Or.inl ⟨by rfl, ?_⟩) (by assumption) ?_; rotate_left; focus ((intro w hSw; (try dsimp only at hSw); go_simp); try (with_reducible rfl); done); try simp only [Act.put, List.setIfInBounds_toArray, List.set_cons_zero, List.set_cons_succ])
      (refine wpAnyH_take (i := 4) (v := ?_) rfl (by kernel_rfl) (by kernel_rfl) (by kernel_rfl) (fun _ _ _ h => h) (Or.inl ⟨by rfl, ?_⟩) (by assumption) ?_; rotate_left; focus ((intro w hSw; (try dsimp only at hSw); go_simp); try (with_reducible rfl); done); try simp only [Act.put, List.setIfInBounds_toArray, List.set_cons_zero, List.set_cons_succ])
      (refine wpAnyH_take (i := 5) (v := ?_) rfl (by kernel_rfl) (by kernel_rfl) (by kernel_rfl) (fun _ _ _ h => h) (Or.inl ⟨by rfl, ?_⟩) (by assumption) ?_; rotate_left; focus ((intro w hSw; (try dsimp only at hSw); go_simp); try (with_reducible rfl); done); try simp only [Act.put, List.setIfInBounds_toArray, List.set_cons_zero, List.set_cons_succ])
      (refine wpAnyH_take (i := 6) (v := ?_) rfl (by kernel_rfl) (by kernel_rfl) (by kernel_rfl) (fun _ _ _ h => h) (Or.inl ⟨by rfl, ?_⟩) (by assumption) ?_; rotate_left; focus ((intro w hSw; (try dsimp only at hSw); go_simp); try (with_reducible rfl); done); try simp only [Act.put, List.setIfInBounds_toArray, List.set_cons_zero, List.set_cons_succ])
      (refine wpAnyH_take (i := 7) (v := ?_) rfl (by kernel_rfl) (by kernel_rfl) (by kernel_rfl) (fun _ _ _ h => h) (Or.inl ⟨by rfl, ?_⟩) (by assumption) ?_; rotate_left; focus ((intro w hSw; (try dsimp only at hSw); go_simp); try (with_reducible rfl); done); try simp only [Act.put, List.setIfInBounds_toArray, List.set_cons_zero, List.set_cons_succ])
      (refine wpAnyH_take (i := 8) (v := ?_) rfl (by kernel_rfl) (by kernel_rfl) (by kernel_rfl) (fun _ _ _ h => h) (Or.inl ⟨by rfl, ?_⟩) (by assumption) ?_; rotate_left; focus ((intro w hSw; (try dsimp only at hSw); go_simp); try (with_reducible rfl); done); try simp only [Act.put, List.setIfInBounds_toArray, List.set_cons_zero, List.set_cons_succ])
      (refine wpAnyH_take (i := 9) (v := ?_) rfl (by kernel_rfl) (by kernel_rfl) (by kernel_rfl) (fun _ _ _ h => h) (Or.inl ⟨by rfl, ?_⟩) (by assumption) ?_; rotate_left; focus ((intro w hSw; (try dsimp only at hSw); go_simp); try (with_reducible rfl); done); try simp only [Act.put, List.setIfInBounds_toArray, List.set_cons_zero, List.set_cons_succ])
      --@6
      refine wpAnyH_ready (rs := [10]) (by kernel_rfl) (by simp) ?_
      refine AllReadyH.cons rfl (fun K hK => ?_) AllReadyH.nil
      go_simp
      obtain ⟨w8, hw8⟩ : ∃ w8, w8 = (w7.alloc (.cells #[.int .i64 L.next, .int .i64 0] 101)).drew := ⟨_, rfl⟩
      have hb8 : Below w7.heap.size w7 w8 := by rw [hw8]; exact ((Below.refl _ _).alloc (Nat.le_refl _) _).drew
      have hrow8 : w8.heap[w7.heap.size]? = some (.cells #[.int .i64 L.next, .int .i64 0] 101 (0, 0)) := by rw [hw8]; exact heap_alloc_new w7 _
      have hs8 : w7.heap.size ≤ w8.heap.size := hb8.size
      have y3 := (hb8.cell (p := ⟨h, 3, none⟩) hhl7).trans x3
      have y4 := (hb8.cell (p := ⟨h, 4, none⟩) hhl7).trans x4
      have HW8 := Lib.hid hw8
      refine hK.out _ _ (by rw [← HW8.out]; exact ⟨y3, y4⟩) (fun hHeld2 => ?_)
      rw [← HW8.out] at hHeld2 ⊢
      clear hK K hHeld hw8
      try simp only [Act.put, List.setIfInBounds_toArray, List.set_cons_zero, List.set_cons_succ]
      --@7
      refine wpAnyH_ready (rs := [11]) (by kernel_rfl) (by simp) ?_
      refine AllReadyH.cons rfl (fun K hK => ?_) AllReadyH.nil
      obtain ⟨v9, w9, hr9, ho9, hg9, hat9⟩ := wl_append_at (w := w8) 91 91 101 i0 (.agg #[.int .i64 0, .int .i64 0]) 2 16 Tryz.underlying91 hi hz0 hz1 hz2 rfl (by decide) 0 (.slice (some ⟨sg, 0, none⟩) n cap) L.segs.length (segCells L.segs)
        (own_keep HS7.out (fun k hk => hb8.block k (HS7.out.lt k hk).2)) (some ⟨w7.heap.size, 0, none⟩) 1 1 [.int .i64 L.next, .int .i64 0] rfl (fun ad ha => by cases ha; exact World.news_of_block hrow8) (fun e => by cases e) (by intro u hu; simp at hu; rcases hu with rfl | rfl <;> rfl) (by unfold maxLen; omega) (by omega) (Nat.zero_le _)
      refine step_append_eq rfl _ _ _ rfl _ _ _ _ rfl rfl hr9 ?_
      have hne9 : some h ≠ (Value.slice (some ⟨sg, 0, none⟩) n cap).ownBlock := fun e => hsg7.2 (by cases e; rfl)
      have hrow9 : w9.heap[h]? = _ := (hg9.block h (by omega) hne9).trans ((hb8.block h hhl7).trans HL7.out.row)
      have z3 : w9.frozen? ⟨h, 3, none⟩ = false := dk_frozen _ _ _ _ _ hrow9
      have u3 : w9.cell? ⟨h, 3, none⟩ = some (.slice (some ⟨sg, 0, none⟩) n cap) := (row_cells6 hrow9).2.2.2.1
      have u4 : w9.cell? ⟨h, 4, none⟩ = some (.int .i64 L.next) := (row_cells6 hrow9).2.2.2.2.1
      refine hK.out _ _ ⟨u3, u4⟩ (fun hHeld => ?_)
      obtain ⟨hl10, hc10⟩ := HL7.out.more (s := (L.next, 0)) hb8 hs8 ho9 hg9 hat9
      clear hK K hHeld2 hr9 hrow9 hne9
      simp only [List.getElem_toArray, List.getElem_cons_succ, List.getElem_cons_zero, Act.put, List.setIfInBounds_toArray, List.set_cons_zero, List.set_cons_succ]
      (refine wpAnyH_take (i := 12) (v := ?_) rfl (by kernel_rfl) (by kernel_rfl) (by kernel_rfl) (fun _ _ _ h => h) (Or.inl ⟨by rfl, ?_⟩) (by assumption) ?_; rotate_left; focus ((intro w hSw; (try dsimp only at hSw); go_simp); try (with_reducible rfl); done); try simp only [Act.put, List.setIfInBounds_toArray, List.set_cons_zero, List.set_cons_succ])
      (refine wpAnyH_take (i := 13) (v := ?_) rfl (by kernel_rfl) (by kernel_rfl) (by kernel_rfl) (fun _ _ _ h => h) (Or.inl ⟨by rfl, ?_⟩) (by assumption) ?_; rotate_left; focus ((intro w hSw; (try dsimp only at hSw); go_simp); try (with_reducible rfl); done); try simp only [Act.put, List.setIfInBounds_toArray, List.set_cons_zero, List.set_cons_succ])
      refine wpAnyH_done (by kernel_rfl) ?_ _
      --@8
      obtain ⟨w10, hw10⟩ : ∃ w10, w10 = w9.setCell ⟨h, 3, none⟩ v9 := ⟨_, rfl⟩
      rw [← hw10] at hl10 hc10
      generalize pnt c7 w7.heap.size j = c10 at hl10 hc10
      obtain ⟨L2, hL2⟩ : ∃ L2 : Wl.L, L2 = { L with synced := L.next, segs := L.segs ++ [(L.next, 0)] } := ⟨_, rfl⟩
      have hl11 : LogIs j c10 w10 h g L2 v9 := by rw [hL2]; exact hl10
      have hnel : L2.segs ≠ [] := by rw [hL2]; simp
      obtain ⟨sg, cap, cur9, rfl, -, hcn9, -⟩ := hl11.form hnel
      have HL2 := Lib.hid hl11
      have HC2 : Hid (Chg2 i j c c10 W w10) := Lib.hid (HC7.out.trans hc10.right2)
      have HD2 := Lib.hid (HD7.out.chg hc10 (Ne.symm hij) hj0)
      have HB2 := Lib.hid (HB7.out.chg hc10 hj0)
      have e1 : L2.pre = L.pre := by rw [hL2]
      have e2 : L2.next = L.next := by rw [hL2]
      have e3 : L2.last = (L.next, 0) := by rw [hL2]; simp [Wl.L.last]
      have e4 : L2.segs.length = L.segs.length + 1 := by rw [hL2]; simp
      have HNM : Hid (nm2 = Wl.name L2.pre L2.last.1) := Lib.hid (by rw [HNM2.out, e1, e3])
      have hl100 : L2.last.1 < 100 := by rw [e3]; exact hn100
      have hcnt : L2.last.2 ≤ 1000000 := by rw [e3]; simp
      have hnx : L2.next ≤ 1000000 := by omega
      have hp : L2.pre.length ≤ 100 := by rw [e1]; exact hp
      have HAP : Hid (Wl.append D L b = Wl.append2 D7 L2 b) := Lib.hid (by rw [HAP0.out, if_neg (by simp), if_neg (by simp), hL2])
      obtain ⟨n, hn2⟩ : ∃ n, n = L2.segs.length := ⟨_, rfl⟩
      have hnpos : 0 < n := by omega
      have hnm2 : n ≤ 1000000 := by omega
      rw [← hn2] at HL2 hw10
      have HW10 := Lib.hid hw10
      have HN2 := Lib.hid hn2
      rw [← hn2]
      clear hn2 hl10 hl11 hc10 hw10 hL2 e1 e2 e3 e4 HAP0 HL7 HC7 HD7 HB7 HS7 hat9 hg9 ho9 hs8 hb8 y3 y4 HW8 hrow8 u4 hHeld
      unfold sinkPost
      simp only []
      go_simp
      go_upto_region 19 with fail
      rw [← HW10.out]
      clear u3 z3 HW10 x3 x4
      --@9
      -- THE TAIL: HD2, HL2, HC2, HB2 at w10; n, sg, cap; hpre; HAP
      obtain ⟨x0, x1, x2, x3, x4, x5⟩ := row_cells6 HL2.out.row
      have n3 := wl_pack w10 L2.next (by omega) (.slice ba b.length bc) b HB2.out.1 (by omega)
      clear x0 x1 x2 x3 x5
      go_wp2_with fail
      refine n3.mono ?_
      rintro e w3 ⟨v3, rfl, o3, b3⟩
      clear n3 x4 
      have hC23 : Chg i c10 (pnt c10 w10.heap.size 0) w10 w3 := Chg.of_below' b3 (fun k hk => pnt_old hk)
      have HC3 : Hid (Chg2 i j c (pnt c10 w10.heap.size 0) W w3) := Lib.hid (HC2.out.trans hC23.left2)
      have HD3 := Lib.hid (HD2.out.below b3 0)
      have HL3 : Hid (LogIs j (pnt c10 w10.heap.size 0) w3 h g L2 (.slice (some ⟨sg, 0, none⟩) n cap)) := Lib.hid (HL2.out.keep b3.size (fun k hk hc => ⟨b3.block k hk, by rw [pnt_old hk]; exact hc⟩))
      have hrd3 : RdC (pnt c10 w10.heap.size 0) w3 v3 (Wl.pack L2.next b) := RdC.of_own o3 (fun k hk _ => pnt_new hk)
      have HR3 := Lib.hid hrd3
      obtain ⟨va, vc, rfl⟩ := hrd3.1.form
      generalize pnt c10 w10.heap.size 0 = c3 at *
      clear hC23 o3 b3 hrd3
      obtain ⟨x0, x1, x2, x3, x4, x5⟩ := row_cells6 HL3.out.row
      obtain ⟨y0, y1⟩ := HL3.out.lastAt HN2.out hnel
      have hhl := (Array.getElem?_eq_some_iff.1 HL3.out.row).1
      have hsl := (HL3.out.seg.lt sg rfl).2
      have hcs := (HL3.out.cols sg rfl).1
      have hch := HL3.out.colh
      have nL : Hid (∀ o, Below w3.heap.size w3 o → Calls Tryz.prog 60 #[.pointer (some ⟨h, 0, none⟩)] o fun e W' => e = .returned (.pointer (some ⟨sg, (n - 1) * 2, none⟩)) ∧ Below o.heap.size o W') :=
        Lib.hid (fun o ho => ap_last HN2.out (HL3.out.below ho) hnpos hnm2)
      have nN : Hid (∀ o, Calls Tryz.prog 58 #[.string ⟨L2.pre.toArray⟩, .int .i64 L2.last.1] o fun e W' => e = .returned (.string ⟨nm2.toArray⟩) ∧ Below o.heap.size o W') :=
        Lib.hid (fun o => by rw [HNM.out]; exact wl_name o ⟨L2.pre.toArray⟩ L2.last.1 hl100 (by show L2.pre.toArray.size ≤ 1000; simp; omega))
      have hns : (⟨nm2.toArray⟩ : ByteArray).size ≤ 9223372036854775807 := by
        have := Wl.name_length (p := L2.pre) (n := L2.last.1) (by omega)
        rw [← HNM.out] at this
        show nm2.toArray.size ≤ _
        simp; omega
      have hpl := Wl.pack_length L2.next b
      obtain ⟨pk, hpk⟩ : ∃ pk, pk = Wl.pack L2.next b := ⟨_, rfl⟩
      rw [← hpk] at hpl HR3 ⊢
      obtain ⟨r, hr⟩ : ∃ r, r = D7.write nm2 (fun n => n) pk := ⟨_, rfl⟩
      have nA : Hid (∀ o, Below w3.heap.size w3 o → Calls Tryz.prog 62 #[.pointer (some ⟨g, 0, none⟩), .string ⟨nm2.toArray⟩, .slice va pk.length vc] o (DkPost i c3 o g r)) := Lib.hid (fun o ho => by
        rw [hr]
        exact dk_AppendN (HD3.out.keepW ho) ⟨nm2.toArray⟩ hns hbud2 pk _ ((HR3.out.below ho).toN hi0) (by omega) hmany2)
      have HR := Lib.hid hr
      have HPK := Lib.hid hpk
      have HPL := Lib.hid hpl
      clear x2 x3 x4 x5 hns hr hpl hpk
      --@t1
      go_wp2_with fail
      --@t2
      go_region_held3 (fun w' => w'.cell? ⟨h, 0, none⟩ = some (.pointer (some ⟨g, 0, none⟩)) ∧ w'.cell? ⟨h, 1, none⟩ = some (.string ⟨L2.pre.toArray⟩) ∧ w'.cell? ⟨sg, (n - 1) * 2, none⟩ = some (.int .i64 L2.last.1))
        (first | assumption | (refine ⟨?_, ?_, ?_⟩ <;> first | assumption | go_keep) | go_keep)
        (first
          | (go_at_call 60; refine (nL.out _ (by first | exact Below.refl _ _ | exact (Below.refl _ _).drew)).mono ?_; rintro e w4 ⟨rfl, hb4⟩; have hB4 : Below w3.heap.size w3 w4 := (Below.drew (Below.refl _ _)).trans hb4; have hS4 := ap_S_step (by assumption) hb4)
          | (go_at_call 58; refine (nN.out _).mono ?_; rintro e w5 ⟨rfl, hb5⟩; have hB5 := hB4.trans (hb5.mono hB4.size); have hS5 := ap_S_step hS4 hb5)
          | (go_at_call 62; refine (nA.out _ hB5).mono ?_; rintro e w6 ⟨c6, rfl, hd6, hc6⟩; have hS6 := ap_S_chg hS5 hc6 (by rw [hch]; exact Ne.symm hij) (by rw [hcs]; exact Ne.symm hij)))
      --@t3
      have HC6 : Hid (Chg2 i j c c6 W w6) := Lib.hid (HC3.out.trans ((chg_same hB5).left2.trans hc6.left2))
      have HL6 : Hid (LogIs j c6 w6 h g L2 (.slice (some ⟨sg, 0, none⟩) n cap)) := Lib.hid ((HL3.out.below hB5).keep hc6.size (fun k hk hc => ⟨hc6.block k hk (by rw [hc]; exact Ne.symm hij), by rw [hc6.col k hk]; exact hc⟩))
      have HD6 := Lib.hid hd6
      clear x0 x1 y0 y1 nL nN nA hd6 hc6 hS4 hS5 hS6 hB4 hb4 hb5 hB5 HC3 HD3 HL3 HR3 hcs hch
      --@t4
      obtain ⟨rd, re⟩ := r
      simp only [] at HD6 ⊢
      by_cases h0 : re = 0
      · have n7 := ap_last HN2.out HL6.out hnpos hnm2
        subst h0
        --@t6
        go_wp2_with fail
        --@t7
        refine n7.mono ?_
        rintro e w7 ⟨rfl, b7⟩
        have HL7 := Lib.hid (HL6.out.below b7)
        have HC7 : Hid (Chg2 i j c c6 W w7) := Lib.hid (HC6.out.trans (chg_same (i := i) b7).left2)
        have HD7 := Lib.hid (HD6.out.keepW b7)
        clear n7 b7 HL6 HC6 HD6
        --@t8
        obtain ⟨x0, x1, x2, x3, x4, x5⟩ := row_cells6 HL7.out.row
        obtain ⟨y0, y1⟩ := HL7.out.lastAt HN2.out hnel
        have hhs := (HL7.out.cols sg rfl).2
        have z1 : w7.frozen? ⟨sg, (n - 1) * 2 + 1, none⟩ = false := HL7.out.segFrozen _
        have z2 : w7.frozen? ⟨h, 4, none⟩ = false := dk_frozen _ _ _ _ _ HL7.out.row
        --@t9
        obtain ⟨hl8, hc8⟩ := HL7.out.bumped hnel HN2.out
        obtain ⟨w9, hw9⟩ : ∃ w9, w9 = (w7.setCell ⟨sg, (n - 1) * 2 + 1, none⟩ (.int .i64 ((L2.last.2 : Int) + 1))).setCell ⟨h, 4, none⟩ (.int .i64 ((L2.next : Int) + 1)) := ⟨_, rfl⟩
        rw [← hw9] at hl8 hc8
        have x9 : w9.cell? ⟨h, 4, none⟩ = some (.int .i64 ((L2.next : Int) + 1)) := (row_cells6 hl8.row).2.2.2.2.1
        have HW9 := Lib.hid hw9
        clear hw9
        have HL8 := Lib.hid hl8
        have HC8 := Lib.hid hc8
        have hhs2 : ¬ h = sg := fun e => hhs e.symm
        --@ta
        obtain ⟨hw1, hw3, -, -⟩ := ap_wrap L2.last.2 hcnt
        obtain ⟨hw2, hw4, hw5, hw6⟩ := ap_wrap L2.next hnx
        clear hl8 hc8 x0 x1 x2 x3 x5 y0
        --@t5
        go_upto_region 26 with fail
        --@te
        go_upto_region 27 with fail
        rw [← HW9.out]
        clear hw1 hw2 hw3 hw4 y1 x4 z1 z2 hhs hhs2 hcnt hnx
        --@tf
        go_wp2_with fail
        --@tb
        go_ret2
        --@tc
        have hq : Wl.append D L b = (rd, { L2 with segs := Wl.bump L2.segs, next := L2.next + 1 }, L2.next, 0) := by rw [HAP.out]; unfold Wl.append2; simp only []; rw [← HPK.out, ← HNM.out, ← HR.out, if_neg (by simp)]
        --@td
        rw [hq]
        refine ⟨c6, ?_, HD7.out.chg HC8.out (Ne.symm hij) hj0, ⟨_, HL8.out⟩, HC7.out.trans HC8.out.right2⟩
        rfl
      · go_wp2_with fail
        go_ret2
        have hq : Wl.append D L b = (rd, L2, 0, re) := by rw [HAP.out]; unfold Wl.append2; simp only []; rw [← HPK.out, ← HNM.out, ← HR.out, if_pos h0]
        rw [hq]
        exact ⟨c6, rfl, HD6.out, ⟨_, HL6.out⟩, HC6.out⟩
    · have hq3 : Wl.append D L b = (D7, { L with synced := L.next }, 0, e7) := by rw [HAP0.out, if_neg (by simp), if_pos h7]
      go_wp2_with fail
      go_ret2
      rw [hq3]
      exact ⟨c7, rfl, HD7.out, ⟨_, HL7.out⟩, HC7.out⟩
  · have hq4 : Wl.append D L b = (D4, L, 0, e4) := by rw [HAP0.out, if_pos h4]
    go_wp2_with fail
    go_ret2
    rw [hq4]
    exact ⟨c4, rfl, HD4.out, ⟨_, HL4.out⟩, HC4.out⟩

end Go.Proofs.YtcbnbhlgikjbeaaGreatDoor
