/-
  Restart: the walk.
-/
import Derived.Test.YtegahpgnmeobhaaDoorDkRestart2
namespace Go.Proofs.YtegahpgnmeobhaaDoor
open Go.RowKit

theorem Dk.restartFs_cons (n : Dk.Bs) (f : Dk.Fl) (r : List (Dk.Bs × Dk.Fl)) (ch : Dk.Bs) : Dk.restartFs ((n, f) :: r) ch = if f.pend = [] then ((n, f) :: (Dk.restartFs r ch).1, (Dk.restartFs r ch).2)
    else ((n, ⟨Dk.contents f.dur (Dk.surv f.pend ch).1, []⟩) :: (Dk.restartFs r (Dk.surv f.pend ch).2).1, (Dk.restartFs r (Dk.surv f.pend ch).2).2) := rfl

theorem dk_dur_le {c : Nat → Nat} {W : World} {x : Fe} (h : FeAt c W x) : x.f.dur.length ≤ 16777216 := by
  have := h.size
  unfold Dk.Fl.contents at this
  rw [Dk.sizeOf_contents] at this
  have h2 := Dk.sizeOf_le x.f.dur.length x.f.pend 0
  rw [List.take_zero] at h2
  have : Dk.sizeOf' x.f.dur.length [] = x.f.dur.length := rfl
  omega

set_option maxRecDepth 100000 in
set_option maxHeartbeats 4000000 in
theorem dk_Restart {i : Nat} {c : Nat → Nat} {W : World} {g : Nat} {D : Dk.D} (h : DiskAt i c W g D) (v : Value) (ch : Dk.Bs) (hrd : RdC c W v ch) (hchl : ch.length ≤ 1125899906842624) (hmany : D.fs.length ≤ 1073741824) (hnm : ∀ p ∈ D.fs, p.1.length ≤ maxLen) :
    Calls Tryd.prog 11 #[.pointer (some ⟨g, 0, none⟩), v] W (DkPost i c W g (D.restart ch)) := by
  obtain ⟨m, xs, h⟩ := h
  have cells := h.cells
  cases hdn : D.down with
  | false =>
    have HR : Hid (D.restart ch = (D, 10)) := by show _ = _; unfold Dk.D.restart; rw [if_neg (by simp [hdn])]
    have hc := cells.2.2.1
    rw [hdn] at hc
    have H := Lib.hid h
    clear h hdn cells hrd hnm
    go_enter Tryd.func11, Tryd.ntmps11
    go_wp2_with fail
    go_ret
    rw [HR.out]
    exact ⟨c, rfl, ⟨m, xs, H.out⟩, Chg.refl _ _ _⟩
  | true =>
    have HR : Hid (D.restart ch = (⟨(Dk.restartFs D.fs ch).1, -1, false⟩, 0)) := by show _ = _; unfold Dk.D.restart; rw [if_pos hdn]
    have hxs : xs.length ≤ 1073741824 := by rw [h.fs] at hmany; simpa using hmany
    have hnx : ∀ x ∈ xs, x.nm.length ≤ maxLen := fun x hx => hnm (x.ent) (by rw [h.fs]; exact List.mem_map.2 ⟨x, hx, rfl⟩)
    have hgl := (h.col g (by simp)).2
    obtain ⟨va, vc, rfl⟩ := hrd.1.form
    obtain ⟨v, hv⟩ : ∃ v, v = Value.slice va ch.length vc := ⟨_, rfl⟩
    rw [← hv] at hrd
    obtain ⟨W0, hW0⟩ : ∃ W0, W0 = W.alloc (.cells #[v] 49) := ⟨_, rfl⟩
    have hb0 : Below W.heap.size W W0 := by rw [hW0]; exact (Below.refl _ _).alloc (Nat.le_refl _) _
    have hs0 : W0.heap.size = W.heap.size + 1 := by rw [hW0]; simp
    have h0 : DiskIs i (pnt c W.heap.size (i + 1)) W0 g D m xs := h.chg (Chg.of_below (i := i + 1) hb0 (i + 1)) (by omega) (by omega)
    have hrow0 : W0.heap[W.heap.size]? = some (.cells #[v] 49 (0, 0)) := by rw [hW0]; exact heap_alloc_new _ _
    have hch0 : ChAt W.heap.size W0 W.heap.size ch := ⟨Nat.le_refl _, v, hrow0, hrd.1.below hb0⟩
    have hkeys := dk_keys W0 m
    have hsort := dk_sorted h0 hxs
    have g0 := h0.cells.1
    have hc := h0.cells.2.2.1
    rw [hdn] at hc
    have hcW : W.cell? ⟨g, 2, none⟩ = some (.bool true) := by rw [← hdn]; exact cells.2.2.1
    rw [hW0, hv] at hkeys hsort g0 hc
    simp only [World.size_alloc] at hsort
    have H := Lib.hid h
    have H0 := Lib.hid h0
    have HB0 := Lib.hid hb0
    have HC0 := Lib.hid hch0
    have HW0 := Lib.hid hW0
    have HKY := Lib.hid hkeys
    have HSO := Lib.hid hsort
    have HNX := Lib.hid hnx
    have HS0 := Lib.hid hs0
    clear h hdn cells hrd hnm h0 hb0 hch0 hW0 hkeys hsort hnx hrow0
    go_enter Tryd.func11, Tryd.ntmps11
    go_wp2_with fail
    refine HKY.out.mono ?_
    rintro e w1 ⟨rfl, rfl⟩
    go_wp2_with fail
    refine HSO.out.mono ?_
    rintro e W1 ⟨nv, rfl, hownN, hbN⟩
    rw [← hv, ← HW0.out, ← HS0.out] at hbN
    have hng0 : W.heap.size + 1 + 1 = W.heap.size + 2 := rfl
    rw [hng0] at hownN
    obtain ⟨na, nc, rfl⟩ := dk_own_form hownN
    have HON := Lib.hid hownN
    have HBN := Lib.hid hbN
    clear hownN hbN
    go_wp2_with fail
    go_loopw [28] (fun kv wr => ∃ (k : Nat) (cw : Nat → Nat) (chk : Dk.Bs) (zs : List Fe), kv = .int .i64 k ∧ k ≤ xs.length ∧ Hid (DiskIs i cw wr g { D with fs := (zs ++ xs.drop k).map Fe.ent } m (zs ++ xs.drop k)) ∧ Hid (ChAt W.heap.size wr W.heap.size chk) ∧ Hid (Chg i c cw W wr) ∧ cw W.heap.size = i + 1 ∧
      Hid (∀ b, W.heap.size < b → b < W1.heap.size → wr.heap[b]? = W1.heap[b]?) ∧ W1.heap.size ≤ wr.heap.size ∧ chk.length ≤ 1125899906842624 ∧ Hid (Dk.restartFs D.fs ch = (zs.map Fe.ent ++ (Dk.restartFs ((xs.drop k).map Fe.ent) chk).1, (Dk.restartFs ((xs.drop k).map Fe.ent) chk).2))) (fun kv _ => xs.length - (RowKit.intOf kv).toNat)
    case atStart =>
      have hs1 := HBN.out.size
      refine ⟨0, pnt (pnt c W.heap.size (i + 1)) W0.heap.size 0, ch, [], rfl, Nat.zero_le _, Lib.hid ?_, Lib.hid (HC0.out.below HBN.out), Lib.hid ((Chg.of_below HB0.out (i + 1)).trans (Chg.of_below HBN.out 0)), ?_, Lib.hid (fun _ _ _ => rfl), Nat.le_refl _, hchl, Lib.hid ?_⟩
      · have h1 := H0.out.chg (Chg.of_below (i := i + 1) HBN.out 0) (by omega) (by omega)
        have e : ({ D with fs := ([] ++ xs.drop 0).map Fe.ent } : Dk.D) = D := by
          have := H.out.fs
          simp only [List.nil_append, List.drop_zero]
          rw [← this]
        rw [e]
        simpa using h1
      · rw [pnt_old (by omega), pnt_new (Nat.le_refl _)]
      · have := H.out.fs
        simp only [List.map_nil, List.nil_append, List.drop_zero]
        rw [← this]
    case round =>
      obtain ⟨k, cw, chk, zs, rfl, hk, HD, HCH, HCG, hcol, HNB, hsz, hchk, HRF⟩ := hrel
      have hsW : W.heap.size < W1.heap.size := by have := HBN.out.size; have := HS0.out; omega
      by_cases hlt : k < xs.length
      · obtain ⟨x, hxd⟩ : ∃ x, x = xs[k] := ⟨_, rfl⟩
        have hxm : x ∈ xs := hxd ▸ List.getElem_mem hlt
        have hdr : xs.drop k = x :: xs.drop (k + 1) := by rw [hxd]; exact List.drop_eq_getElem_cons hlt
        obtain ⟨ng, ncap, hnv, hng, hnlt⟩ := HON.out.form (by omega)
        injection hnv with e1 e2 e3
        subst e1 e3
        have n0 : wr.cell? ⟨ng, k, none⟩ = some (.string ⟨x.nm.toArray⟩) := by
          have := HON.out.cells rfl k (.string ⟨x.nm.toArray⟩) (by unfold nmCells; rw [List.getElem?_map, List.getElem?_eq_getElem hlt, ← hxd]; rfl)
          rw [dk_add, Nat.zero_add] at this
          rw [World.cell?_of_block (w := W1) (w' := wr) (a := ⟨ng, k, none⟩) (HNB.out ng (by have := HS0.out; omega) hnlt)]
          exact this
        rw [hdr] at HD HRF
        have hxg : x.g < W.heap.size := (H.out.col x.g (mem_blks hxm (by simp [Fe.blks]) g m)).2
        have hxp : ∀ b, x.pv.ownBlock = some b → b < W.heap.size := fun b hb => (H.out.col b (mem_blks hxm (by simp [Fe.blks, hb]) g m)).2
        have hF := HD.out.file x (by simp)
        have m0 := HD.out.cells.1
        have hlk := HD.out.look_some ⟨x.nm.toArray⟩ (HNX.out x hxm) rfl wr rfl
        have p1 : wr.cell? ⟨x.g, 1, none⟩ = some x.pv := by rw [cell_of_row wr _ _ _ _ _ hF.row]; rfl
        obtain ⟨pa, pc, hpv, _⟩ := hF.is
        have HF := Lib.hid hF
        have hne : xs.length ≠ 0 := by omega
        clear hxd hdr hF
        rw [hpv] at p1
        by_cases hp : x.f.pend = []
        · have hp0 : x.f.pend.length = 0 := by rw [hp]; rfl
          rw [hp0] at p1 hpv
          go_wp2_with fail
          have e : zs ++ [x] ++ xs.drop (k + 1) = zs ++ x :: xs.drop (k + 1) := by simp
          refine ⟨⟨k + 1, cw, chk, zs ++ [x], by go_num, by omega, ?_, HCH, HCG, hcol, HNB, hsz, hchk, ?_⟩, by simp [RowKit.intOf]; omega⟩
          · rw [e]; exact HD
          · refine Lib.hid ?_
            have e2 := HRF.out
            rw [List.map_cons, show x.ent = (x.nm, x.f) from rfl, Dk.restartFs_cons, if_pos hp] at e2
            rw [e2]
            simp [Fe.ent]
        · have hp0 : 0 < x.f.pend.length := List.length_pos_iff.2 hp
          have HSV := Lib.hid (dk_survivors W.heap.size wr W.heap.size chk x.pv x.f.pend x.vs HCH.out (HF.out.is.sub hxp) (HF.out.wr.ok.sub (H.out.file x hxm).wr.ok) (by omega) hp0 HF.out.many hchk HF.out.wr.within)
          rw [hpv] at HSV
          go_wp2_with fail
          refine HSV.out.mono ?_
          rintro e W2 ⟨v2, vs2, rfl, hown2, hok2, hch2, hg2⟩
          have hrl := Dk.surv_rest_le x.f.pend chk
          have hsl := Dk.surv_len x.f.pend chk HF.out.wr.within (by omega)
          have hmn : x.f.pend.length * 16777216 ≤ 65536 * 16777216 := Nat.mul_le_mul_right _ HF.out.many
          obtain ⟨r1, r2, r3⟩ := dk_resync HD.out hxg (by omega) hcol (Dk.surv x.f.pend chk) v2 vs2 hown2 hok2 hch2 hg2 (by omega) (Dk.surv_within HF.out.wr.within chk) (dk_dur_le HF.out)
          obtain ⟨a2, c2, rfl⟩ := dk_own_form hown2
          have HSY := Lib.hid r3
          clear hown2 hok2 hch2 hg2 r3 n0 m0 hlk p1
          go_wp2_with fail
          refine HSY.out.mono ?_
          rintro e W4 ⟨c', x1, rfl, hx1n, hx1f, hD4, hC4, h4o, h4t, h4p, h4s, h4b, h4c⟩
          go_wp2_with fail
          have e : zs ++ [x1] ++ xs.drop (k + 1) = zs ++ x1 :: xs.drop (k + 1) := by simp
          refine ⟨⟨k + 1, c', (Dk.surv x.f.pend chk).2, zs ++ [x1], by go_num, by omega, ?_, Lib.hid hC4, ?_, ?_, ?_, by omega, by omega, ?_⟩, by simp [RowKit.intOf]; omega⟩
          · refine Lib.hid ?_
            rw [e]
            exact hD4
          · refine Lib.hid ⟨h4o.trans HCG.out.os, h4t.trans HCG.out.tape, h4p.trans HCG.out.output, by omega, fun b hb hne => (h4b b (by omega) ?_ (by omega)).trans (HCG.out.block b hb hne), fun b hb => (h4c b (by omega)).trans (HCG.out.col b hb)⟩
            intro e
            subst e
            exact hne (H.out.col x.g (mem_blks hxm (by simp [Fe.blks]) g m)).1
          · rw [h4c _ (by omega)]; exact hcol
          · exact Lib.hid fun b hb hb' => (h4b b (by omega) (by omega) (by omega)).trans (HNB.out b hb hb')
          · refine Lib.hid ?_
            have e2 := HRF.out
            rw [List.map_cons, show x.ent = (x.nm, x.f) from rfl, Dk.restartFs_cons, if_neg hp] at e2
            rw [e2]
            simp [Fe.ent, hx1n, hx1f]
      · obtain rfl : k = xs.length := by omega
        rw [List.drop_length, List.append_nil] at HD
        rw [List.drop_length] at HRF
        have q1 := HD.out.cells
        have q2 := (HD.out.fell false).1.cells
        have HFN := Lib.hid (HD.out.fell false)
        have HSP := Lib.hid ((HD.out.fell false).1.spent (-1))
        clear hcol
        go_wp2_with fail
        go_ret
        rw [HR.out, HRF.out]
        have e : zs.map Fe.ent ++ (Dk.restartFs ([].map Fe.ent) chk).1 = zs.map Fe.ent := by simp [Dk.restartFs]
        simp only []
        rw [e]
        exact ⟨cw, rfl, ⟨m, zs, HSP.out.1⟩, (HCG.out.trans HFN.out.2).trans HSP.out.2⟩

end Go.Proofs.YtegahpgnmeobhaaDoor
