/-
  pieces; survivors: the odd way.
  survivors: the odd way.
-/
import Derived.Test.YtamencnachmhoaaGreatDoorDkSurv2
namespace Go.Proofs.YtamencnachmhoaaGreatDoor
open Go.RowKit

/-- a slice cut in two -/
theorem RdB.cut {W : World} {B : Nat} {v : Value} {l : Dk.Bs} (h : RdB W B v l) (k : Nat) (hk : k ≤ l.length) (h0 : 0 < k) : ∃ g off cap, v = .slice (some ⟨g, off, none⟩) l.length cap ∧ l.length ≤ cap ∧ RdB W B (.slice (some ⟨g, off, none⟩) k cap) (l.take k) ∧
    RdB W B (.slice (if cap = k then some ⟨g, off, none⟩ else some ⟨g, off + k, none⟩) (l.length - k) (cap - k)) (l.drop k) := by
  rcases h with ⟨rfl, _⟩ | ⟨g, off, cap, hv, hc, hg, hgs, hx⟩
  · simp at hk; omega
  · refine ⟨g, off, cap, hv, hc, .inr ⟨g, off, cap, by rw [List.length_take, Nat.min_eq_left hk], by rw [List.length_take]; omega, hg, hgs, fun j c hj => hx j c ?_⟩, .inr ?_⟩
    · rw [List.getElem?_take] at hj
      split at hj
      · exact hj
      · cases hj
    · by_cases e : cap = k
      · refine ⟨g, off, cap - k, by rw [if_pos e, List.length_drop], by rw [List.length_drop]; omega, hg, hgs, fun j c hj => ?_⟩
        rw [List.getElem?_drop, List.getElem?_eq_none (by omega)] at hj
        cases hj
      · refine ⟨g, off + k, cap - k, by rw [if_neg e, List.length_drop], by rw [List.length_drop]; omega, hg, hgs, fun j c hj => ?_⟩
        rw [List.getElem?_drop] at hj
        have := hx (k + j) c hj
        rwa [show off + (k + j) = off + k + j by omega] at this

set_option maxRecDepth 100000 in
set_option maxHeartbeats 4000000 in
theorem dk_pieces (B : Nat) (W : World) (a0 : Nat) (b0 : Dk.Bs) (wb : Value) (hrd : RdB W B wb b0) (hbd : a0 + b0.length ≤ 16777216) (hBW : B ≤ W.heap.size) :
    Calls Tryz.prog 136 #[.agg #[.int .i64 a0, wb]] W fun e W' => ∃ v' vs', e = .returned v' ∧ W'.ownsRow W.heap.size 183 2 v' (Dk.pieces ⟨a0, b0⟩).length (wrCells (Dk.pieces ⟨a0, b0⟩) vs') ∧ WrOk W' B (Dk.pieces ⟨a0, b0⟩) vs' ∧ Below W.heap.size W W' := by
  obtain ⟨i0, hi, hz0, hz1, hz2⟩ := info_parts dk_infoWrite
  obtain ⟨pa, pc, rfl⟩ := hrd.form
  have HRD := Lib.hid hrd
  clear hrd
  go_enter Tryz.func136, Tryz.ntmps136
  go_wp2_with fail
  go_quiet (fail)
  go_wp2_with fail
  go_loopw [3, 4, 5] (fun v bv av wr => ∃ (a : Nat) (b : Dk.Bs) (done : List Dk.Wr) (vs : List Value), wr.ownsRow W.heap.size 183 2 v done.length (wrCells done vs) ∧ RdB wr B bv b ∧ av = .int .i64 a ∧ Hid (Dk.pieces ⟨a0, b0⟩ = done ++ Dk.piecesF b.length a b) ∧ WrOk wr B done vs ∧ Below W.heap.size W wr ∧ a + b.length ≤ 16777216 ∧ done.length + b.length ≤ b0.length) (fun _ bv _ _ => match bv with | .slice _ n _ => n | _ => 0)
  case atStart =>
    refine ⟨a0, b0, [], [], World.ownsRow_nil _ _ _ _, HRD.out.below ?_, rfl, rfl, ⟨rfl, fun k w v h1 _ => by simp at h1⟩, dk_below_drewN ((Below.refl _ _).alloc (Nat.le_refl _) _) nq, hbd, by simp⟩
    exact dk_below_drewN ((Below.refl B _).alloc hBW _) nq
  case round =>
    obtain ⟨a, b, done, vs, hown, hrd, rfl, hP, hok, hbel, hab, hdl⟩ := hrel
    by_cases hb0 : b = []
    · subst hb0
      obtain ⟨ba, bc, rfl⟩ := hrd.form
      have HO := Lib.hid hown
      have HK := Lib.hid hok
      clear hown hok hrd
      go_wp2_with fail
      go_ret
      have e := hP.out
      rw [Dk.piecesF_nil, List.append_nil] at e
      rw [e]
      exact ⟨_, vs, rfl, HO.out, HK.out, hbel⟩
    · have hbl : 0 < b.length := List.length_pos_iff.2 hb0
      obtain ⟨n, hn⟩ : ∃ n, n = min b.length (512 - a % 512) := ⟨_, rfl⟩
      have hn0 : 0 < n := by omega
      have hnl : n ≤ b.length := by omega
      obtain ⟨p, off, cap, rfl, hnc, hhead, htail⟩ := hrd.cut n hnl hn0
      have hminI : min (b.length : Int) (512 - (a : Int) % 512) = (n : Int) := by
        have h1 : (a : Int) % 512 = ((a % 512 : Nat) : Int) := by omega
        omega
      have hml : n ≤ 512 := by omega
      have HN := Lib.hid hn
      clear hn
      have HO := Lib.hid hown
      have HK := Lib.hid hok
      have HR := Lib.hid hrd
      have HH := Lib.hid hhead
      have HT := Lib.hid htail
      have HB := Lib.hid hbel
      clear hown hok hrd hhead htail hbel
      go_wp2_with (at_builtin; refine wpList_append_lies _ rfl _ _ 129 rfl W.heap.size 183 i0 _ 2 32 Tryz.underlying129 hi hz0 hz1 hz2 rfl (by decide) _ _ _ rfl (HO.out.alloc _) _ 1 1 [.int .i64 a, .slice (some ⟨p, off, none⟩) n cap] rfl rfl (World.news_of_block (heap_alloc_new _ _)) (by intro u hu; simp at hu; rcases hu with rfl | rfl <;> rfl) (by decide) (by unfold maxLen; omega) (by omega) (by have := HB.out.size; simp; omega) _ rfl ?_; intro g5 cap5 w5 hown5 hgrow5 hat5 hlt5)
      have hbb : Below W.heap.size W w5 := by
        refine Below.grown (HB.out.alloc HB.out.size _) hgrow5 (by have := HB.out.size; simp; omega) ?_
        intro j hj
        exact (HO.out.lt j hj).1
      have hB5 : ∀ k, k < B → w5.heap[k]? = wr.heap[k]? := fun k hk => (hbb.block k (by omega)).trans (HB.out.block k (by omega)).symm
      have hs5 : wr.heap.size ≤ w5.heap.size := by have := hgrow5.size; simp at this; omega
      refine ⟨⟨a + n, b.drop n, done ++ [⟨a, b.take n⟩], vs ++ [.slice (some ⟨p, off, none⟩) n cap], ?_, HT.out.same hB5 hs5, rfl, ?_, (HK.out.same hB5 hs5).snoc (HH.out.same hB5 hs5) (by simp only [List.length_take]; omega) (by simp only [List.length_take]; omega), hbb, by rw [List.length_drop]; omega, by rw [List.length_append, List.length_drop]; simp; omega⟩, by show b.length - n < b.length; omega⟩
      · rw [List.length_append, wrCells_append _ _ _ _ HK.out.1]
        exact hown5
      · refine Lib.hid ?_
        have e := hP.out
        obtain ⟨k, hk⟩ : ∃ k, b.length = k + 1 := ⟨b.length - 1, by omega⟩
        rw [hk, Dk.piecesF_step k a b hb0, ← HN.out] at e
        rw [e, List.append_assoc, Dk.piecesF_fuel k (b.drop n).length _ _ (by rw [List.length_drop]; omega) (Nat.le_refl _)]
        rfl

end Go.Proofs.YtamencnachmhoaaGreatDoor

namespace Go.Proofs.YtamencnachmhoaaGreatDoor
open Go.RowKit

set_option maxRecDepth 20000 in
theorem dk_and1 : ∀ n : Fin 256, bits .and .i64 ((n.val : Nat) : Int) 1 = ((n.val % 2 : Nat) : Int) := by decide
theorem dk_bit (a q : Nat) (ha : a < 256) : bits .and .i64 ((a : Int) / 2 ^ (q % 8)) 1 = (((a >>> (q % 8)) % 2 : Nat) : Int) := by
  have h1 : a >>> (q % 8) ≤ a := by rw [Nat.shiftRight_eq_div_pow]; exact Nat.div_le_self _ _
  have h2 : ((a : Int) / 2 ^ (q % 8)) = ((a >>> (q % 8) : Nat) : Int) := by rw [Nat.shiftRight_eq_div_pow]; simp
  rw [h2]
  exact dk_and1 ⟨a >>> (q % 8), by omega⟩
theorem Dk.pieces_pos {w : Dk.Wr} (h : 0 < w.b.length) : 0 < (Dk.pieces w).length := by
  obtain ⟨k, hk⟩ : ∃ k, w.b.length = k + 1 := ⟨w.b.length - 1, by omega⟩
  unfold Dk.pieces
  rw [hk, Dk.piecesF_step _ _ _ (by rintro e; rw [e] at hk; cases hk)]
  simp
theorem Dk.oddS_cons (w : Dk.Wr) (l : List Dk.Wr) (ch : Dk.Bs) : Dk.oddS (w :: l) ch = (Dk.keepBits (Dk.hd ch) 0 (Dk.pieces w) ++ (Dk.oddS l ch.tail).1, (Dk.oddS l ch.tail).2) := rfl

set_option maxRecDepth 100000 in
set_option maxHeartbeats 4000000 in
theorem dk_surv_odd (B : Nat) (W : World) (h : Nat) (ch : Dk.Bs) (pv : Value) (l : List Dk.Wr) (vs : List Value) (hc : ChAt B W h ch) (hp : PendIs W B pv l vs) (hw : WrOk W B l vs) (_hBW : B ≤ W.heap.size) (hl0 : 0 < l.length) (hl : l.length ≤ 65536)
    (hchl : ch.length ≤ 1125899906842624) (hwi : Dk.Within 16777216 l) (hev : Dk.hd ch % 2 = 1) :
    Calls Tryz.prog 79 #[pv, .func (.func 80) #[.pointer (some ⟨h, 0, none⟩)] #[]] W (SurvPost B W h (Dk.surv l ch)) := by
  have HS : Hid (Dk.surv l ch = Dk.oddS l ch.tail) := by show _ = _; unfold Dk.surv; rw [if_neg (by omega)]
  obtain ⟨i0, hi, hz0, hz1, hz2⟩ := info_parts dk_infoWrite
  obtain ⟨ao, cap, rfl, hcap, hx⟩ := hp
  obtain ⟨g, rfl, hgB, hcells⟩ := hx hl0
  have hhB := hc.1
  have hhs : h < W.heap.size := by obtain ⟨_, v, h2, _⟩ := hc; exact (Array.getElem?_eq_some_iff.1 h2).1
  have HN1 := Lib.hid (dk_next B W h ch hc hchl)
  have ht1 : ch.tail.length ≤ 1125899906842624 := by rw [List.length_tail]; omega
  have b0 := Dk.hd_lt ch
  generalize ch.tail = ch1 at *
  generalize Dk.hd ch = a0 at *
  have hb0 : ((a0 : Int) % 2 == 0) = false := by
    have : (a0 : Int) % 2 = 1 := by omega
    simp [this]
  have HC := Lib.hid hcells
  have HW := Lib.hid hw
  have HWI := Lib.hid hwi
  have keep := fun (W' : World) (hg : W.grownBy W' (some h)) => (show (∀ b, b < B → W'.heap[b]? = W.heap[b]?) from fun b hb => hg.block b (by omega) (fun e => by cases e; omega))
  have HKP := Lib.hid keep
  clear hc hx hcells hw hwi hev keep
  go_enter Tryz.func79, Tryz.ntmps79
  go_wp2_with fail
  refine HN1.out.mono ?_
  rintro e W1 ⟨rfl, hc1, hg1, hs1⟩
  have HC1 := Lib.hid hc1
  have HG1 := Lib.hid hg1
  clear hc1 hg1
  go_wp2_with fail
  go_loopw [10, 61] (fun ov kv wr => ∃ (k : Nat) (done : List Dk.Wr) (vs' : List Value) (chk : Dk.Bs), kv = .int .i64 k ∧ k ≤ l.length ∧ Hid (wr.ownsRow W.heap.size 183 2 ov done.length (wrCells done vs')) ∧ Hid (WrOk wr B done vs') ∧ Hid (ChAt B wr h chk) ∧ Hid (W.grownBy wr (some h)) ∧ chk.length ≤ 1125899906842624 ∧ Hid (Dk.oddS l ch1 = (done ++ (Dk.oddS (l.drop k) chk).1, (Dk.oddS (l.drop k) chk).2)) ∧ done.length ≤ k * 16777216) (fun _ kv _ => l.length - (RowKit.intOf kv).toNat)
  case atStart =>
    exact ⟨0, [], [], ch1, rfl, Nat.zero_le _, Lib.hid (World.ownsRow_nil _ _ _ _), Lib.hid ⟨rfl, fun k w v h1 _ => by simp at h1⟩, HC1, HG1, ht1, Lib.hid (by simp), by simp⟩
  case round =>
    obtain ⟨k, done, vs', chk, rfl, hk, HO, HK, HCK, HG, hchk, HE, hdl⟩ := hrel
    by_cases hlt : k < l.length
    · have hget : l[k]? = some l[k] := List.getElem?_eq_getElem hlt
      obtain ⟨w, hwd⟩ : ∃ w, w = l[k] := ⟨_, rfl⟩
      rw [← hwd] at hget
      have hvl : k < vs.length := by rw [HW.out.1]; exact hlt
      obtain ⟨v, hvd⟩ : ∃ v, v = vs[k] := ⟨_, rfl⟩
      have hgv : vs[k]? = some v := by rw [hvd]; exact List.getElem?_eq_getElem hvl
      obtain ⟨e0, e1⟩ := wrCells_at l vs k w v hget hgv
      obtain ⟨o1, o2, o3⟩ := HW.out.2 k w v hget hgv
      have hw24 : w.off + w.b.length ≤ 16777216 := (HWI.out w (List.mem_of_getElem? hget)).2
      have d0 := (World.cell?_of_block (w := W) (w' := wr) (a := ⟨g, k * 2, none⟩) (HKP.out wr HG.out g hgB)).trans (HC.out _ _ e0)
      have d1 := (World.cell?_of_block (w := W) (w' := wr) (a := ⟨g, k * 2 + 1, none⟩) (HKP.out wr HG.out g hgB)).trans (HC.out _ _ e1)
      have o1' := o1.same (HKP.out wr HG.out) HG.out.size
      have HGT := Lib.hid hget
      obtain ⟨p, pc, rfl⟩ := o1.form
      have HO1 := Lib.hid o1'
      have HNX := Lib.hid (dk_next B (wr.alloc (.cells #[.int .i64 w.off, .slice p w.b.length pc] 183)) h chk (HCK.out.below ((Below.refl _ wr).alloc (Nat.le_refl _) _)) hchk)
      have hch1 : chk.tail.length ≤ 1125899906842624 := by rw [List.length_tail]; omega
      have b1 := Dk.hd_lt chk
      have HOC : Hid (Dk.oddS (l.drop k) chk = (Dk.keepBits (Dk.hd chk) 0 (Dk.pieces w) ++ (Dk.oddS (l.drop (k + 1)) chk.tail).1, (Dk.oddS (l.drop (k + 1)) chk.tail).2)) := by
        show _ = _
        rw [List.drop_eq_getElem_cons hlt, Dk.oddS_cons, hwd]
      generalize Dk.hd chk = a1 at *
      generalize chk.tail = ch2 at *
      clear e0 e1 hwd hvd hget hvl hgv o1 o1'
      go_wp2_with fail
      refine HNX.out.mono ?_
      rintro e W2 ⟨rfl, hc2, hg2, hs2⟩
      have q0 : W2.cell? ⟨wr.heap.size, 0, none⟩ = some (.int .i64 w.off) := by
        rw [World.cell?_of_block (w := wr.alloc (.cells #[.int .i64 w.off, .slice p w.b.length pc] 183)) (hg2.block wr.heap.size (by simp) (fun e => by cases e; have := HG.out.size; omega))]
        rw [cell_of_row _ _ _ _ _ _ (heap_alloc_new wr _)]; rfl
      have q1 : W2.cell? ⟨wr.heap.size, 1, none⟩ = some (.slice p w.b.length pc) := by
        rw [World.cell?_of_block (w := wr.alloc (.cells #[.int .i64 w.off, .slice p w.b.length pc] 183)) (hg2.block wr.heap.size (by simp) (fun e => by cases e; have := HG.out.size; omega))]
        rw [cell_of_row _ _ _ _ _ _ (heap_alloc_new wr _)]; rfl
      have hBs : ∀ b, b < B → W2.heap[b]? = wr.heap[b]? := fun b hb => (hg2.block b (by have := HG.out.size; simp; omega) (fun e => by cases e; omega)).trans (Below.heap_alloc _ _ _ (by have := HG.out.size; omega))
      have hs2' : W2.heap.size = wr.heap.size + 1 := by rw [hs2]; simp
      have HPC := Lib.hid (dk_pieces B W2 w.off w.b (.slice p w.b.length pc) (HO1.out.same hBs (by omega)) hw24 (by have := HG.out.size; omega))
      have hPl : (Dk.pieces w).length ≤ 16777216 := Nat.le_trans (Dk.piecesF_le _ _ _) (by omega)
      have hPp := Dk.pieces_pos o2
      generalize Dk.pieces w = P at *
      clear d0 d1
      go_wp2_with fail
      refine HPC.out.mono ?_
      rintro e W3 ⟨v3, vs3, rfl, hownP, hokP, hb3⟩
      obtain ⟨pg, pcap, rfl, hpg, hplt⟩ := hownP.form hPp
      have HOP := Lib.hid hownP
      have HKP3 := Lib.hid hokP
      have HB3 := Lib.hid hb3
      have HBS := Lib.hid hBs
      obtain ⟨ov0, hov0⟩ : ∃ ov0, ov0 = u10 := ⟨_, rfl⟩
      have hpne : some pg ≠ ov0.ownBlock := fun e => by subst hov0; have := (HO.out.lt pg e.symm).2; omega
      have hhne : some h ≠ ov0.ownBlock := fun e => by subst hov0; have := (HO.out.lt h e.symm).1; omega
      have hs3 := HB3.out.size
      have hkB : ∀ b, b < B → some b ≠ ov0.ownBlock := fun b hb e => by subst hov0; have := (HO.out.lt b e.symm).1; omega
      have hovl : ∀ k, ov0.ownBlock = some k → W.heap.size ≤ k := fun k e => by subst hov0; exact (HO.out.lt k e).1
      have HKB := Lib.hid hkB
      have HOL := Lib.hid hovl
      clear hownP hokP hb3 hBs hkB hovl
      go_wp2_with fail
      go_loopw [10, 70] (fun ov kv wi => ∃ (q : Nat) (vs2 : List Value), kv = .int .i64 q ∧ q ≤ P.length ∧ Hid (wi.ownsRow W.heap.size 183 2 ov (done ++ Dk.keepBits a1 0 (P.take q)).length (wrCells (done ++ Dk.keepBits a1 0 (P.take q)) vs2)) ∧ Hid (WrOk wi B (done ++ Dk.keepBits a1 0 (P.take q)) vs2) ∧ Hid (W3.grownBy wi ov0.ownBlock) ∧ Hid (∀ k, ov.ownBlock = some k → ov0.ownBlock = some k ∨ W3.heap.size ≤ k)) (fun _ kv _ => P.length - (RowKit.intOf kv).toNat)
      case atStart =>
        have hsG := HG.out.size
        have hW : ∀ b, b < wr.heap.size → some b ≠ some h → W3.heap[b]? = wr.heap[b]? := fun b hb hne => (HB3.out.block b (by omega)).trans ((hg2.block b (by simp; omega) hne).trans (Below.heap_alloc _ _ _ hb))
        refine ⟨0, vs', rfl, Nat.zero_le _, ?_, ?_, Lib.hid ⟨rfl, rfl, rfl, Nat.le_refl _, fun _ _ _ => rfl⟩, Lib.hid fun j hj => .inl (hov0 ▸ hj)⟩
        · refine Lib.hid ?_
          simp only [List.take_zero, Dk.keepBits, List.append_nil]
          refine HO.out.kept ⟨HB3.out.os.trans hg2.os, HB3.out.tape.trans hg2.tape, HB3.out.output.trans hg2.output, by omega, hW⟩ ?_
          rw [← hov0]
          cases hv : ov0.ownBlock with
          | none => exact .inl rfl
          | some j => exact .inr (fun e => hhne (by rw [hv]; exact e.symm))
        · refine Lib.hid ?_
          simp only [List.take_zero, Dk.keepBits, List.append_nil]
          exact HK.out.same (fun b hb => hW b (by omega) (fun e => by cases e; omega)) (by omega)
      case round =>
        obtain ⟨q, vs2, rfl, hq, HOI, HKI, HGI, HBI⟩ := hrel
        by_cases hlq : q < P.length
        · obtain ⟨x, hxd⟩ : ∃ x, x = P[q] := ⟨_, rfl⟩
          have hgx : P[q]? = some x := by rw [hxd]; exact List.getElem?_eq_getElem hlq
          have hvl : q < vs3.length := by rw [HKP3.out.1]; exact hlq
          obtain ⟨v, hvd⟩ : ∃ v, v = vs3[q] := ⟨_, rfl⟩
          have hgv : vs3[q]? = some v := by rw [hvd]; exact List.getElem?_eq_getElem hvl
          obtain ⟨e0, e1⟩ := wrCells_at P vs3 q x v hgx hgv
          obtain ⟨o1, o2, o3⟩ := HKP3.out.2 q x v hgx hgv
          have hrow := HGI.out.block pg hplt hpne
          have t0 := HOP.out.cells rfl _ _ e0
          have t1 := HOP.out.cells rfl _ _ e1
          rw [dk_add, Nat.zero_add] at t0 t1
          have d0 := (World.cell?_of_block (w := W3) (w' := wr) (a := ⟨pg, q * 2, none⟩) hrow).trans t0
          have d1 := (World.cell?_of_block (w := W3) (w' := wr) (a := ⟨pg, q * 2 + 1, none⟩) hrow).trans t1
          obtain ⟨xp, xc, rfl⟩ := o1.form
          clear e0 e1 t0 t1 hrow hxd hvl hvd hgv
          have hlen : (done ++ Dk.keepBits a1 0 (P.take q)).length ≤ 4398046511103 := by
            have := Dk.keepBits_le a1 0 (P.take q)
            rw [List.length_take] at this
            rw [List.length_append]
            have : k * 16777216 ≤ 65536 * 16777216 := Nat.mul_le_mul_right _ (by omega)
            omega
          have hsn := Dk.keepBits_snoc a1 x 0 (P.take q)
          have htk : P.take (q + 1) = P.take q ++ [x] := by rw [List.take_add_one, hgx]; rfl
          rw [← htk, List.length_take, Nat.min_eq_left hq, Nat.zero_add] at hsn
          have hand := dk_bit a1 q b1
          have HSN := Lib.hid hsn
          have HO1' := Lib.hid o1
          have hsI := HGI.out.size
          have hsG := HG.out.size
          clear o1 hsn htk hgx
          by_cases hbit : (a1 >>> (q % 8)) % 2 = 1
          · rw [hbit] at hand
            have e2 : Dk.keepBits a1 0 (P.take (q + 1)) = Dk.keepBits a1 0 (P.take q) ++ [x] := by rw [HSN.out, if_pos hbit]
            have HE2 := Lib.hid e2
            clear e2
            generalize Dk.keepBits a1 0 (P.take q) = K0 at *
            have hnb : ((wr.alloc (.cells #[.int .i64 x.off, .slice xp x.b.length xc] 183)).alloc (.cells #[.int .i64 x.off, .slice xp x.b.length xc] 183)).heap[wr.heap.size + 1]? = some (.cells #[.int .i64 x.off, .slice xp x.b.length xc] 183 (0, 0)) := by
              have := heap_alloc_new (wr.alloc (.cells #[.int .i64 x.off, .slice xp x.b.length xc] 183)) (.cells #[.int .i64 x.off, .slice xp x.b.length xc] 183)
              simpa using this
            have HNB := Lib.hid hnb
            clear hnb
            go_wp2_with (at_builtin; refine wpList_append_lies _ rfl _ _ 129 rfl W.heap.size 183 i0 _ 2 32 Tryz.underlying129 hi hz0 hz1 hz2 rfl (by decide) u10 _ _ rfl ((HOI.out.alloc _).alloc _) _ 1 1 [.int .i64 x.off, .slice xp x.b.length xc] rfl rfl (World.news_of_block HNB.out) (by intro u hu; simp at hu; rcases hu with rfl | rfl <;> rfl) (by decide) (by unfold maxLen; omega) (by omega) (by simp; omega) _ rfl ?_; intro g5 cap5 w5 hown5 hgrow5 hat5 hlt5)
            have hB5 : ∀ b, b < B → w5.heap[b]? = wr.heap[b]? := fun b hb => (hgrow5.block b (by simp; omega) (fun e => by rcases HBI.out b e.symm with h1 | h1; exact HKB.out b hb h1.symm; omega)).trans ((Below.heap_alloc _ _ _ (by simp; omega)).trans (Below.heap_alloc _ _ _ (by omega)))
            have hs5 : wr.heap.size + 2 ≤ w5.heap.size := by have := hgrow5.size; simpa using this
            have hB3 : ∀ b, b < B → w5.heap[b]? = W3.heap[b]? := fun b hb => (hB5 b hb).trans (HGI.out.block b (by omega) (HKB.out b hb))
            have e3 : done ++ Dk.keepBits a1 0 (P.take (q + 1)) = (done ++ K0) ++ [x] := by rw [HE2.out, List.append_assoc]
            refine ⟨⟨q + 1, vs2 ++ [.slice xp x.b.length xc], by go_num, by omega, ?_, ?_, ?_, ?_⟩, by simp [RowKit.intOf]; omega⟩
            · refine Lib.hid ?_
              have h5 := hown5
              rw [e3, wrCells_append _ _ _ _ HKI.out.1]
              simp only [List.length_append] at h5 ⊢
              exact h5
            · refine Lib.hid ?_
              rw [e3]
              exact (HKI.out.same hB5 (by omega)).snoc (HO1'.out.same hB3 (by omega)) o2 o3
            · refine Lib.hid ⟨hgrow5.os.trans HGI.out.os, hgrow5.tape.trans HGI.out.tape, hgrow5.output.trans HGI.out.output, by omega, fun b hb hne => (hgrow5.block b (by simp; omega) (fun e => by rcases HBI.out b e.symm with h1 | h1; exact hne h1.symm; omega)).trans (((Below.heap_alloc _ _ _ (by simp; omega)).trans (Below.heap_alloc _ _ _ (by omega))).trans (HGI.out.block b hb hne))⟩
            · refine Lib.hid fun j hj => ?_
              simp only [Value.ownBlock, Option.some.injEq] at hj
              subst hj
              rcases hat5 with e | e
              · exact HBI.out _ e
              · right; simp at e; omega
          · have hand0 : bits .and .i64 ((a1 : Int) / 2 ^ (q % 8)) 1 = 0 := by rw [hand]; have : (a1 >>> (q % 8)) % 2 = 0 := by omega
                                                                               rw [this]; rfl
            clear hand
            go_wp2_with fail
            have e2 : Dk.keepBits a1 0 (P.take (q + 1)) = Dk.keepBits a1 0 (P.take q) := by rw [HSN.out, if_neg hbit, List.append_nil]
            refine ⟨⟨q + 1, vs2, by go_num, by omega, ?_, ?_, ?_, HBI⟩, by simp [RowKit.intOf]; omega⟩
            · refine Lib.hid ?_
              rw [e2]
              exact HOI.out.alloc _
            · refine Lib.hid ?_
              rw [e2]
              exact HKI.out.same (fun b hb => Below.heap_alloc _ _ _ (by omega)) (by simp)
            · exact Lib.hid ⟨HGI.out.os, HGI.out.tape, HGI.out.output, by simp; omega, fun b hb hne => (Below.heap_alloc _ _ _ (by omega)).trans (HGI.out.block b hb hne)⟩
        · obtain rfl : q = P.length := by omega
          rw [List.take_length] at HOI HKI
          go_wp2_with fail
          go_roundw
          case rel =>
            have hsI := HGI.out.size
            have hsG := HG.out.size
            refine ⟨k + 1, done ++ Dk.keepBits a1 0 P, vs2, ch2, by go_num, by omega, HOI, HKI, ?_, ?_, hch1, ?_, ?_⟩
            · obtain ⟨h1, v, h2, h3⟩ := hc2
              exact Lib.hid ⟨h1, v, (HGI.out.block h (by omega) hhne).trans ((HB3.out.block h (by omega)).trans h2), h3.same (fun b hb => (HGI.out.block b (by omega) (HKB.out b hb)).trans (HB3.out.block b (by omega))) (by omega)⟩
            · refine Lib.hid ⟨HGI.out.os.trans (HB3.out.os.trans (hg2.os.trans HG.out.os)), HGI.out.tape.trans (HB3.out.tape.trans (hg2.tape.trans HG.out.tape)), HGI.out.output.trans (HB3.out.output.trans (hg2.output.trans HG.out.output)), by omega, fun b hb hne => ?_⟩
              refine (HGI.out.block b (by omega) (fun e => by have := HOL.out b e.symm; omega)).trans ((HB3.out.block b (by omega)).trans ((hg2.block b (by simp; omega) hne).trans ((Below.heap_alloc _ _ _ (by omega)).trans (HG.out.block b hb hne))))
            · refine Lib.hid ?_
              rw [HE.out, HOC.out, List.append_assoc]
            · have := Dk.keepBits_le a1 0 P
              rw [List.length_append]
              omega
          case measure => simp [RowKit.intOf]; omega
    · obtain rfl : k = l.length := by omega
      rw [List.drop_length] at HE
      go_wp2_with fail
      go_ret
      rw [HS.out, HE.out]
      exact ⟨_, vs', rfl, by simpa [Dk.oddS] using HO.out, by simpa [Dk.oddS] using HK.out, HCK.out, HG.out⟩

end Go.Proofs.YtamencnachmhoaaGreatDoor
