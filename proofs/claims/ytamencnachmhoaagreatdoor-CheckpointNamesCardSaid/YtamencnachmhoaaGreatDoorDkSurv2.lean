/-
  chooser.next.
  survivors: the even way.
-/
import Derived.Test.YtamencnachmhoaaGreatDoorDkClone3
import Derived.Test.YtamencnachmhoaaGreatDoorDkPlain4
namespace Go.Proofs.YtamencnachmhoaaGreatDoor
open Go.RowKit

/-- a chooser in block h: the choices that are left -/
def ChAt (B : Nat) (W : World) (h : Nat) (l : Dk.Bs) : Prop := B ≤ h ∧ ∃ v, W.heap[h]? = some (.cells #[v] 128 (0, 0)) ∧ RdB W B v l

theorem ChAt.below {B : Nat} {W W' : World} {h : Nat} {l : Dk.Bs} (hc : ChAt B W h l) (hb : Below W.heap.size W W') : ChAt B W' h l := by
  obtain ⟨h1, v, h2, h3⟩ := hc
  have hlt := (Array.getElem?_eq_some_iff.1 h2).1
  exact ⟨h1, v, (hb.block h hlt).trans h2, h3.below (hb.mono (by omega))⟩

set_option maxRecDepth 100000 in
set_option maxHeartbeats 1000000 in
theorem dk_next (B : Nat) (W : World) (h : Nat) (l : Dk.Bs) (hc : ChAt B W h l) (hl : l.length ≤ 1125899906842624) :
    Calls Tryz.prog 80 #[.pointer (some ⟨h, 0, none⟩)] W fun e W' => e = .returned (.int .i64 (Dk.hd l)) ∧ ChAt B W' h l.tail ∧ W.grownBy W' (some h) ∧ W'.heap.size = W.heap.size := by
  obtain ⟨hB, v, hrow, hrd⟩ := hc
  have c0 : W.cell? ⟨h, 0, none⟩ = some v := by rw [cell_of_row W _ _ _ _ _ hrow]; rfl
  have f0 := dk_frozen W h 0 _ _ hrow
  cases l with
  | nil =>
    obtain ⟨a, n, rfl⟩ := hrd.form
    have HR := Lib.hid hrow
    have HD := Lib.hid hrd
    clear hrow hrd
    simp only [List.length_nil] at c0 HR HD
    go_enter Tryz.func80, Tryz.ntmps80
    go_wp2
    go_ret
    exact ⟨rfl, ⟨hB, _, HR.out, HD.out⟩, ⟨rfl, rfl, rfl, Nat.le_refl _, fun _ _ _ => rfl⟩, rfl⟩
  | cons x r =>
    obtain ⟨g, off, cap, rfl, hcap, hg, hgs, hx⟩ : ∃ g off cap, v = .slice (some ⟨g, off, none⟩) (x :: r).length cap ∧ (x :: r).length ≤ cap ∧ g < B ∧ g < W.heap.size ∧ ∀ j c, (x :: r)[j]? = some c → W.cell? ⟨g, off + j, none⟩ = some (.int .u8 c.toNat) := by
      rcases hrd with ⟨h0, _⟩ | h1
      · cases h0
      · exact h1
    have d0 : W.cell? ⟨g, off, none⟩ = some (.int .u8 x.toNat) := by have := hx 0 x rfl; simpa using this
    have hxl : (x.toNat : Int) < 256 := by have := x.toNat_lt; omega
    have HX := Lib.hid hx
    have HR := Lib.hid hrow
    clear hx hrow hrd
    simp only [List.length_cons] at c0 HR hcap hl
    have hone : ∀ (v' : Value), RdB (W.setCell ⟨h, 0, none⟩ v') B v' r → ChAt B (W.setCell ⟨h, 0, none⟩ v') h r ∧ W.grownBy (W.setCell ⟨h, 0, none⟩ v') (some h) ∧ (W.setCell ⟨h, 0, none⟩ v').heap.size = W.heap.size := fun v' hv =>
      ⟨⟨hB, v', dk_setCell W h 0 _ _ v' HR.out, hv⟩, dk_grown_setCell W W h 0 v' ⟨rfl, rfl, rfl, Nat.le_refl _, fun _ _ _ => rfl⟩, by simp [World.setCell]⟩
    have hrd' : ∀ v', r ≠ [] → RdB (W.setCell ⟨h, 0, none⟩ v') B (.slice (some ⟨g, off + 1, none⟩) r.length (cap - 1)) r := fun v' _ =>
      .inr ⟨g, off + 1, cap - 1, rfl, by omega, hg, by simp [World.setCell]; omega, fun j c hj => by
        rw [World.cell?_of_block (w := W) (a := ⟨g, off + 1 + j, none⟩) (Below.heap_setCell W _ _ g (by show g ≠ h; omega))]
        have := HX.out (j + 1) c (by simpa using hj)
        rw [show off + 1 + j = off + (j + 1) by omega]
        exact this⟩
    have HO := Lib.hid hone
    have HD := Lib.hid hrd'
    clear hone hrd'
    by_cases hr : r = []
    · subst hr
      simp only [List.length_nil] at c0 HR hcap hl
      by_cases hc1 : cap = 1
      · subst hc1
        go_enter Tryz.func80, Tryz.ntmps80
        go_wp2
        go_ret
        exact ⟨rfl, HO.out _ (.inl ⟨rfl, _, _, rfl⟩)⟩
      · go_enter Tryz.func80, Tryz.ntmps80
        go_wp2
        go_ret
        exact ⟨rfl, HO.out _ (.inl ⟨rfl, _, _, rfl⟩)⟩
    · have hrl : 0 < r.length := List.length_pos_iff.2 hr
      have hc1 : ¬ cap = 1 := by omega
      have HRR := Lib.hid hr
      clear hr
      go_enter Tryz.func80, Tryz.ntmps80
      go_wp2
      go_ret
      exact ⟨rfl, HO.out _ (HD.out _ HRR.out)⟩

end Go.Proofs.YtamencnachmhoaaGreatDoor

namespace Go.Proofs.YtamencnachmhoaaGreatDoor
open Go.RowKit

theorem dk_ent28 : ∀ args w, (callFunc 80 args).run Tryz.prog w = .ok (.enter 80 args) w := enters_of Tryz.func80 (by kernel_rfl) rfl

theorem PendIs.same {W W' : World} {B : Nat} {pv : Value} {l : List Dk.Wr} {vs : List Value} (h : PendIs W B pv l vs) (hh : ∀ b, b < B → W'.heap[b]? = W.heap[b]?) : PendIs W' B pv l vs := by
  obtain ⟨ao, cap, hv, hcp, hx⟩ := h
  refine ⟨ao, cap, hv, hcp, fun hp => ?_⟩
  obtain ⟨g, hg, hgB, hc⟩ := hx hp
  exact ⟨g, hg, hgB, fun j u hj => (World.cell?_of_block (w := W) (a := ⟨g, j, none⟩) (hh g hgB)).trans (hc j u hj)⟩
theorem RdB.same {W W' : World} {B : Nat} {v : Value} {l : Dk.Bs} (h : RdB W B v l) (hh : ∀ b, b < B → W'.heap[b]? = W.heap[b]?) (hs : W.heap.size ≤ W'.heap.size) : RdB W' B v l := by
  rcases h with h | ⟨g, off, cap, hv, hc, hg, hgs, hx⟩
  · exact .inl h
  · exact .inr ⟨g, off, cap, hv, hc, hg, by omega, fun j c hj => (World.cell?_of_block (w := W) (a := ⟨g, off + j, none⟩) (hh g hg)).trans (hx j c hj)⟩
theorem WrOk.same {W W' : World} {B : Nat} {l : List Dk.Wr} {vs : List Value} (h : WrOk W B l vs) (hh : ∀ b, b < B → W'.heap[b]? = W.heap[b]?) (hs : W.heap.size ≤ W'.heap.size) : WrOk W' B l vs :=
  ⟨h.1, fun k w v h1 h2 => ⟨(h.2 k w v h1 h2).1.same hh hs, (h.2 k w v h1 h2).2⟩⟩
theorem WrOk.mono {W : World} {B B' : Nat} {l : List Dk.Wr} {vs : List Value} (h : WrOk W B l vs) (hb : B ≤ B') : WrOk W B' l vs :=
  ⟨h.1, fun k w v h1 h2 => ⟨(h.2 k w v h1 h2).1.mono hb, (h.2 k w v h1 h2).2⟩⟩
theorem WrOk.snoc {W : World} {B : Nat} {l : List Dk.Wr} {vs : List Value} (h : WrOk W B l vs) {w : Dk.Wr} {v : Value} (h1 : RdB W B v w.b) (h2 : 0 < w.b.length) (h3 : w.off + w.b.length ≤ 1073741824) : WrOk W B (l ++ [w]) (vs ++ [v]) := by
  refine ⟨by simp [h.1], fun k w' v' e1 e2 => ?_⟩
  rcases Nat.lt_or_ge k l.length with hk | hk
  · rw [List.getElem?_append_left hk] at e1
    rw [List.getElem?_append_left (by rw [h.1]; exact hk)] at e2
    exact h.2 k w' v' e1 e2
  · rw [List.getElem?_append_right hk] at e1
    rw [List.getElem?_append_right (by rw [h.1]; exact hk)] at e2
    obtain ⟨j, hj⟩ : ∃ j, k = l.length + j := ⟨k - l.length, by omega⟩
    subst hj
    rw [h.1] at e2
    simp only [Nat.add_sub_cancel_left] at e1 e2
    match j, e1, e2 with
    | 0, e1, e2 =>
      simp at e1 e2
      subst e1 e2
      exact ⟨h1, h2, h3⟩
    | j + 1, e1, _ => simp at e1
theorem PendIs.take {W : World} {B : Nat} {g cap : Nat} {l : List Dk.Wr} {vs : List Value} (hl : vs.length = l.length) (hg : g < B) (hc : ∀ j u, (wrCells l vs)[j]? = some u → W.cell? ⟨g, j, none⟩ = some u) (n : Nat) (hn : n ≤ l.length) (hcap : n ≤ cap) : PendIs W B (.slice (some ⟨g, 0, none⟩) n cap) (l.take n) (vs.take n) := by
  refine ⟨_, cap, by rw [List.length_take, Nat.min_eq_left hn], by rw [List.length_take]; omega, fun _ => ⟨g, rfl, hg, fun j u hj => hc j u ?_⟩⟩
  rw [← wrCells_take l vs n hl, List.getElem?_take] at hj
  split at hj
  · exact hj
  · cases hj
/-- a slice's head -/
theorem RdB.head {W : World} {B : Nat} {v : Value} {l : Dk.Bs} (h : RdB W B v l) (k : Nat) (hk : k ≤ l.length) (h0 : 0 < k) : ∃ g off cap, v = .slice (some ⟨g, off, none⟩) l.length cap ∧ k ≤ cap ∧ RdB W B (.slice (some ⟨g, off, none⟩) k cap) (l.take k) := by
  rcases h with ⟨rfl, _⟩ | ⟨g, off, cap, hv, hc, hg, hgs, hx⟩
  · simp at hk; omega
  · refine ⟨g, off, cap, hv, by omega, .inr ⟨g, off, cap, by rw [List.length_take, Nat.min_eq_left hk], by rw [List.length_take]; omega, hg, hgs, fun j c hj => hx j c ?_⟩⟩
    rw [List.getElem?_take] at hj
    split at hj
    · exact hj
    · cases hj

/-- what survivors leaves -/
def SurvPost (B : Nat) (W : World) (h : Nat) (r : List Dk.Wr × Dk.Bs) (e : Ending) (W' : World) : Prop :=
  ∃ v' vs', e = .returned v' ∧ W'.ownsRow W.heap.size 183 2 v' r.1.length (wrCells r.1 vs') ∧ WrOk W' B r.1 vs' ∧ ChAt B W' h r.2 ∧ W.grownBy W' (some h)

theorem grown_step {W W1 W2 : World} {h : Nat} (h1 : W.grownBy W1 (some h)) (h2 : W1.grownBy W2 (some h)) : W.grownBy W2 (some h) := h1.trans h2

set_option maxRecDepth 100000 in
set_option maxHeartbeats 4000000 in
theorem dk_surv_even (B : Nat) (W : World) (h : Nat) (ch : Dk.Bs) (pv : Value) (l : List Dk.Wr) (vs : List Value) (hc : ChAt B W h ch) (hp : PendIs W B pv l vs) (hw : WrOk W B l vs) (hBW : B ≤ W.heap.size) (hl0 : 0 < l.length) (hl : l.length ≤ 65536)
    (hchl : ch.length ≤ 1125899906842624) (hev : Dk.hd ch % 2 = 0) :
    Calls Tryz.prog 79 #[pv, .func (.func 80) #[.pointer (some ⟨h, 0, none⟩)] #[]] W (SurvPost B W h (Dk.surv l ch)) := by
  have HS : Hid (Dk.surv l ch = Dk.evenS l ch.tail) := by show _ = _; unfold Dk.surv; rw [if_pos hev]
  obtain ⟨ao, cap, rfl, hcap, hx⟩ := hp
  obtain ⟨g, rfl, hgB, hcells⟩ := hx hl0
  have hhB := hc.1
  have n1 := dk_next B W h ch hc hchl
  have ht1 : ch.tail.length ≤ 1125899906842624 := by rw [List.length_tail]; omega
  have ht2 : ch.tail.tail.length ≤ 1125899906842624 := by rw [List.length_tail]; omega
  have nx := fun (W' : World) (h' : ChAt B W' h ch.tail) => dk_next B W' h ch.tail h' ht1
  have ny := fun (W' : World) (h' : ChAt B W' h ch.tail.tail) => dk_next B W' h ch.tail.tail h' ht2
  have b0 := Dk.hd_lt ch
  have b1 := Dk.hd_lt ch.tail
  have b2 := Dk.hd_lt ch.tail.tail
  have HE : Hid (Dk.evenS l ch.tail = (l.take (Dk.hd ch.tail % (l.length + 1)) ++ (match l[Dk.hd ch.tail % (l.length + 1)]? with
    | some w => if 0 < Dk.hd ch.tail.tail % (w.b.length + 1) then [⟨w.off, w.b.take (Dk.hd ch.tail.tail % (w.b.length + 1))⟩] else []
    | none => []), ch.tail.tail.tail)) := rfl
  generalize ch.tail.tail.tail = ch3 at *
  generalize Dk.hd ch = a0 at *
  generalize Dk.hd ch.tail.tail = a2 at *
  generalize ch.tail.tail = ch2 at *
  generalize Dk.hd ch.tail = a1 at *
  generalize ch.tail = ch1 at *
  obtain ⟨n, hn⟩ : ∃ n, n = a1 % (l.length + 1) := ⟨_, rfl⟩
  have hnl : n ≤ l.length := by have := Nat.mod_lt a1 (show 0 < l.length + 1 by omega); omega
  rw [← hn] at HE
  have hnI : (a1 : Int) % ((l.length : Int) + 1) = (n : Int) := by subst hn; simp
  have hb0 : ((a0 : Int) % 2 == 0) = true := by
    have : (a0 : Int) % 2 = 0 := by omega
    simp [this]
  -- whatever the choosers leave
  have keep := fun (W' : World) (hg : W.grownBy W' (some h)) => (show (∀ b, b < B → W'.heap[b]? = W.heap[b]?) from fun b hb => hg.block b (by omega) (fun e => by cases e; omega))
  have hcl := fun (W' : World) (hg : W.grownBy W' (some h)) => dk_cloneW (.slice (some ⟨g, 0, none⟩) n cap) (l.take n) (vs.take n) W'
    (by obtain ⟨ao, c', hv, hcp, hx'⟩ := (PendIs.take hw.1 hgB hcells n hnl (cap := cap) (by omega)).same (keep W' hg); exact ⟨ao, c', hv, hcp, fun hp => by obtain ⟨g', h1, h2, h3⟩ := hx' hp; exact ⟨g', h1, by have := hg.size; omega, h3⟩⟩)
    (((hw.take n).same (keep W' hg) hg.size).mono (by have := hg.size; omega)) (by rw [List.length_take]; omega)
  simp only [List.length_take, Nat.min_eq_left hnl] at hcl
  have HCL := Lib.hid hcl
  have HN1 := Lib.hid n1
  have HNX := Lib.hid nx
  have HNY := Lib.hid ny
  have HHN := Lib.hid hn
  clear hcl n1 nx ny hn hev hx
  by_cases hnlt : n < l.length
  · have hget : l[n]? = some l[n] := List.getElem?_eq_getElem hnlt
    have hvl : n < vs.length := by rw [hw.1]; exact hnlt
    obtain ⟨w, hwd⟩ : ∃ w, w = l[n] := ⟨_, rfl⟩
    rw [← hwd] at hget
    obtain ⟨e0, e1⟩ := wrCells_at l vs n w vs[n] hget (List.getElem?_eq_getElem hvl)
    obtain ⟨o1, o2, o3⟩ := hw.2 n w vs[n] hget (List.getElem?_eq_getElem hvl)
    have d0 := hcells _ _ e0
    have d1 := hcells _ _ e1
    obtain ⟨v, hvd⟩ : ∃ v, v = vs[n] := ⟨_, rfl⟩
    rw [← hvd] at d1 o1
    obtain ⟨k, hk⟩ : ∃ k, k = a2 % (w.b.length + 1) := ⟨_, rfl⟩
    have hkl : k ≤ w.b.length := by have := Nat.mod_lt a2 (show 0 < w.b.length + 1 by omega); omega
    have hkI : (a2 : Int) % ((w.b.length : Int) + 1) = (k : Int) := by subst hk; simp
    rw [hget] at HE
    simp only [← hk] at HE
    have HGT := Lib.hid hget
    clear e0 e1 hwd hvd hk hget hvl
    by_cases hk0 : 0 < k
    · obtain ⟨p, off, pc, rfl, hkc, hhead⟩ := o1.head k hkl hk0
      obtain ⟨i0, hi, hz0, hz1, hz2⟩ := info_parts dk_infoWrite
      have HHD := Lib.hid hhead
      clear hhead
      go_enter Tryz.func79, Tryz.ntmps79
      go_wp2_with fail
      refine HN1.out.mono ?_
      rintro e W1 ⟨rfl, hc1, hg1, hs1⟩
      go_wp2_with fail
      refine (HNX.out W1 hc1).mono ?_
      rintro e W2 ⟨rfl, hc2, hg2, hs2⟩
      go_wp2_with fail
      refine (HNY.out W2 hc2).mono ?_
      rintro e W3 ⟨rfl, hc3, hg3, hs3⟩
      have hg := grown_step (grown_step hg1 hg2) hg3
      have hcl := HCL.out W3 hg
      have HG := Lib.hid hg
      have HC3 := Lib.hid hc3
      clear hg1 hg2 hg3 hc1 hc2 hc3 hg hs1 hs2 hs3
      go_wp2_with fail
      refine hcl.mono ?_
      rintro e W4 ⟨v4, rfl, hown4, hb4⟩
      obtain ⟨a4, c4, rfl⟩ := dk_own_form hown4
      have q0 := (World.cell?_of_block (w := W) (w' := W4) (a := ⟨g, n * 2, none⟩) ((hb4.block g (by have := HG.out.size; omega)).trans (keep W3 HG.out g hgB))).trans d0
      have q1 := (World.cell?_of_block (w := W) (w' := W4) (a := ⟨g, n * 2 + 1, none⟩) ((hb4.block g (by have := HG.out.size; omega)).trans (keep W3 HG.out g hgB))).trans d1
      have hnb : ((W4.alloc (.cells #[.int .i64 w.off, .slice (some ⟨p, off, none⟩) w.b.length pc] 183)).alloc (.cells #[.int .i64 w.off, .slice (some ⟨p, off, none⟩) k pc] 183)).heap[W4.heap.size + 1]? = some (.cells #[.int .i64 w.off, .slice (some ⟨p, off, none⟩) k pc] 183 (0, 0)) := by
        have := heap_alloc_new (W4.alloc (.cells #[.int .i64 w.off, .slice (some ⟨p, off, none⟩) w.b.length pc] 183)) (.cells #[.int .i64 w.off, .slice (some ⟨p, off, none⟩) k pc] 183)
        simpa using this
      have HNB := Lib.hid hnb
      have HO4 := Lib.hid hown4
      have HB4 := Lib.hid hb4
      clear hown4 hcl d0 d1 hb4 hnb
      go_wp2_with fail
      go_region_law (first
        | (refine step_append_lies _ (by rfl) _ _ _ (by rfl) W.heap.size 183 i0 _ 2 32 Tryz.underlying129 hi hz0 hz1 hz2 rfl (by decide) (.slice a4 n c4) n (wrCells (l.take n) (vs.take n)) (by rfl) (((dk_own_mono HO4.out HG.out.size).alloc _).alloc _) ⟨W4.heap.size + 1, 0, none⟩ 1 1 [.int .i64 w.off, .slice (some ⟨p, off, none⟩) k pc] (by rfl) rfl (World.news_of_block HNB.out) (by intro u hu; simp at hu; rcases hu with rfl | rfl <;> rfl) (by decide) (by unfold maxLen; omega) (by omega) (by have := HG.out.size; have := HB4.out.size; simp; omega) _ rfl ?_; intro g5 cap5 w5 hown5 hgrow5 hat5 hlt5; have HO5 := Lib.hid hown5; have HG5 := Lib.hid hgrow5; clear hown5 hgrow5 hat5)
        | fail)
      all_goals
        go_wp2_with fail
        go_ret
        have hbb : Below W3.heap.size W3 w5 := by
          refine Below.grown (row := Value.ownBlock (.slice a4 n c4)) ((((HB4.out.alloc HB4.out.size _).alloc (by have := HB4.out.size; simp; omega) _) : Below W3.heap.size W3 ((W4.alloc (.cells #[.int .i64 w.off, .slice (some ⟨p, off, none⟩) w.b.length pc] 183)).alloc (.cells #[.int .i64 w.off, .slice (some ⟨p, off, none⟩) k pc] 183)))) ⟨HG5.out.os, HG5.out.tape, HG5.out.output, HG5.out.size, HG5.out.block⟩ (by have := HB4.out.size; simp; omega) (fun j hj => (HO4.out.lt j hj).1)
        have hwt := ((hw.take n).same (keep W3 HG.out) HG.out.size).below (hbb.mono (by have := HG.out.size; omega))
        have hht := (HHD.out.same (keep W3 HG.out) HG.out.size).below (hbb.mono (by have := HG.out.size; omega))
        have e := wrCells_append (l.take n) [⟨w.off, w.b.take k⟩] (vs.take n) [.slice (some ⟨p, off, none⟩) k pc] (by simp [hw.1])
        rw [HS.out, HE.out, if_pos hk0]
        refine ⟨_, vs.take n ++ [.slice (some ⟨p, off, none⟩) k pc], rfl, ?_, ?_, HC3.out.below hbb, HG.out.trans (dk_grown_of_below _ hbb)⟩
        · have hl1 : (l.take n ++ [(⟨w.off, w.b.take k⟩ : Dk.Wr)]).length = n + 1 := by simp; omega
          simp only [hl1]
          rw [e]
          exact HO5.out
        · exact hwt.snoc (w := ⟨w.off, w.b.take k⟩) hht (by show 0 < (w.b.take k).length; rw [List.length_take]; omega) (by show w.off + (w.b.take k).length ≤ _; rw [List.length_take]; omega)
    · obtain rfl : k = 0 := by omega
      obtain ⟨p, pc, rfl⟩ := o1.form
      go_enter Tryz.func79, Tryz.ntmps79
      go_wp2_with fail
      refine HN1.out.mono ?_
      rintro e W1 ⟨rfl, hc1, hg1, hs1⟩
      go_wp2_with fail
      refine (HNX.out W1 hc1).mono ?_
      rintro e W2 ⟨rfl, hc2, hg2, hs2⟩
      go_wp2_with fail
      refine (HNY.out W2 hc2).mono ?_
      rintro e W3 ⟨rfl, hc3, hg3, hs3⟩
      have hg := grown_step (grown_step hg1 hg2) hg3
      have hcl := HCL.out W3 hg
      have HG := Lib.hid hg
      have HC3 := Lib.hid hc3
      clear hg1 hg2 hg3 hc1 hc2 hc3 hg hs1 hs2 hs3
      go_wp2_with fail
      refine hcl.mono ?_
      rintro e W4 ⟨v4, rfl, hown4, hb4⟩
      obtain ⟨a4, c4, rfl⟩ := dk_own_form hown4
      have HO4 := Lib.hid hown4
      have q0 := (World.cell?_of_block (w := W) (w' := W4) (a := ⟨g, n * 2, none⟩) ((hb4.block g (by have := HG.out.size; omega)).trans (keep W3 HG.out g hgB))).trans d0
      have q1 := (World.cell?_of_block (w := W) (w' := W4) (a := ⟨g, n * 2 + 1, none⟩) ((hb4.block g (by have := HG.out.size; omega)).trans (keep W3 HG.out g hgB))).trans d1
      have HB4 := Lib.hid hb4
      clear hown4 hcl d0 d1 hb4
      go_wp2_with fail
      go_ret
      rw [HS.out, HE.out]
      have hbb : Below W3.heap.size W3 (W4.alloc (.cells #[.int .i64 w.off, .slice p w.b.length pc] 183)) := HB4.out.alloc HB4.out.size _
      refine ⟨_, vs.take n, rfl, ?_, ?_, HC3.out.below hbb, HG.out.trans (dk_grown_of_below _ hbb)⟩
      · have := (HO4.out.alloc (.cells #[.int .i64 w.off, .slice p w.b.length pc] 183))
        simp only [Nat.lt_irrefl, if_false, List.append_nil, List.length_take, Nat.min_eq_left hnl]
        exact dk_own_mono this HG.out.size
      · have := ((hw.take n).same (keep W3 HG.out) HG.out.size).below (hbb.mono (by have := HG.out.size; omega))
        simpa using this
  · obtain rfl : n = l.length := by omega
    go_enter Tryz.func79, Tryz.ntmps79
    go_wp2_with fail
    refine HN1.out.mono ?_
    rintro e W1 ⟨rfl, hc1, hg1, hs1⟩
    go_wp2_with fail
    refine (HNX.out W1 hc1).mono ?_
    rintro e W2 ⟨rfl, hc2, hg2, hs2⟩
    go_wp2_with fail
    refine (HNY.out W2 hc2).mono ?_
    rintro e W3 ⟨rfl, hc3, hg3, hs3⟩
    have hg := grown_step (grown_step hg1 hg2) hg3
    have hcl := HCL.out W3 hg
    have HG := Lib.hid hg
    have HC3 := Lib.hid hc3
    clear hg1 hg2 hg3 hc1 hc2 hc3 hg hs1 hs2 hs3
    go_wp2_with fail
    refine hcl.mono ?_
    rintro e W4 ⟨v4, rfl, hown4, hb4⟩
    obtain ⟨a4, c4, rfl⟩ := dk_own_form hown4
    have HO4 := Lib.hid hown4
    clear hown4 hcl
    go_wp2_with fail
    go_ret
    rw [HS.out, HE.out]
    refine ⟨_, vs.take l.length, rfl, ?_, ?_, HC3.out.below hb4, HG.out.trans (dk_grown_of_below _ hb4)⟩
    · have := HO4.out
      simp only [List.getElem?_eq_none (Nat.le_refl l.length), List.append_nil, List.length_take, Nat.min_self]
      exact dk_own_mono this HG.out.size
    · have := ((hw.take l.length).same (keep W3 HG.out) HG.out.size).below (hb4.mono (by have := HG.out.size; omega))
      simpa using this

end Go.Proofs.YtamencnachmhoaaGreatDoor
