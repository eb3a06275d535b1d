/-
  Restart.
  Restart: the walk.
  Restart: the walk.
-/
import Derived.Test.YtamencnachmhoaaGreatDoorDkSurv3
import Derived.Test.YtamencnachmhoaaGreatDoorDkKeys
namespace Go.Proofs.YtamencnachmhoaaGreatDoor
open Go.RowKit

theorem dk_survivors (B : Nat) (W : World) (h : Nat) (ch : Dk.Bs) (pv : Value) (l : List Dk.Wr) (vs : List Value) (hc : ChAt B W h ch) (hp : PendIs W B pv l vs) (hw : WrOk W B l vs) (hBW : B ≤ W.heap.size) (hl0 : 0 < l.length) (hl : l.length ≤ 65536)
    (hchl : ch.length ≤ 1125899906842624) (hwi : Dk.Within 16777216 l) :
    Calls Tryz.prog 79 #[pv, .func (.func 80) #[.pointer (some ⟨h, 0, none⟩)] #[]] W (SurvPost B W h (Dk.surv l ch)) := by
  rcases Nat.mod_two_eq_zero_or_one (Dk.hd ch) with h0 | h1
  · exact dk_surv_even B W h ch pv l vs hc hp hw hBW hl0 hl hchl h0
  · exact dk_surv_odd B W h ch pv l vs hc hp hw hBW hl0 hl hchl hwi h1

theorem Dk.oddS_rest_le : ∀ (l : List Dk.Wr) (ch : Dk.Bs), (Dk.oddS l ch).2.length ≤ ch.length
  | [], _ => Nat.le_refl _
  | w :: l, ch => by
    rw [Dk.oddS_cons]
    have := Dk.oddS_rest_le l ch.tail
    rw [List.length_tail] at this
    show (Dk.oddS l ch.tail).2.length ≤ _
    omega
theorem Dk.surv_rest_le (l : List Dk.Wr) (ch : Dk.Bs) : (Dk.surv l ch).2.length ≤ ch.length := by
  unfold Dk.surv
  split
  · show ch.tail.tail.tail.length ≤ _
    simp only [List.length_tail]; omega
  · have := Dk.oddS_rest_le l ch.tail
    rw [List.length_tail] at this
    omega
theorem Dk.oddS_len {N : Nat} : ∀ (l : List Dk.Wr) (ch : Dk.Bs), Dk.Within N l → (Dk.oddS l ch).1.length ≤ l.length * N
  | [], _, _ => by simp [Dk.oddS]
  | w :: l, ch, h => by
    rw [Dk.oddS_cons]
    have h1 := Dk.oddS_len l ch.tail (fun x hx => h x (by simp [hx]))
    have h2 := Dk.keepBits_le (Dk.hd ch) 0 (Dk.pieces w)
    have h3 : (Dk.pieces w).length ≤ w.b.length := Dk.piecesF_le _ _ _
    have h4 := (h w (by simp)).2
    simp only [List.length_append, List.length_cons, Nat.add_mul, Nat.one_mul]
    omega
theorem Dk.surv_len {N : Nat} (l : List Dk.Wr) (ch : Dk.Bs) (h : Dk.Within N l) (hN : 0 < N) : (Dk.surv l ch).1.length ≤ l.length * N + 1 := by
  unfold Dk.surv
  split
  · have h1 : l.length ≤ l.length * N := Nat.le_mul_of_pos_right _ hN
    show (l.take (Dk.hd ch.tail % (l.length + 1)) ++ _).length ≤ _
    rw [List.length_append, List.length_take]
    split
    · split
      · simp only [List.length_cons, List.length_nil]; omega
      · simp only [List.length_nil]; omega
    · simp only [List.length_nil]; omega
  · have := Dk.oddS_len l ch.tail h
    omega

theorem PendIs.sub {W : World} {B B' : Nat} {pv : Value} {l : List Dk.Wr} {vs : List Value} (h : PendIs W B' pv l vs) (hk : ∀ k, pv.ownBlock = some k → k < B) : PendIs W B pv l vs := by
  obtain ⟨ao, cap, hv, hcp, hx⟩ := h
  refine ⟨ao, cap, hv, hcp, fun hp => ?_⟩
  obtain ⟨g, hg, _, hc⟩ := hx hp
  exact ⟨g, hg, hk g (by rw [hv, hg]; rfl), hc⟩
theorem RdB.sub {W W0 : World} {B B0 : Nat} {v : Value} {l : Dk.Bs} (h : RdB W B v l) (h0 : RdB W0 B0 v l) : RdB W B0 v l := by
  rcases h with h | ⟨g, off, cap, hv, hc, _, hgs, hx⟩
  · exact .inl h
  · rcases h0 with h0 | ⟨g', off', cap', hv', _, hg', _⟩
    · exact .inl h0
    · have e := hv.symm.trans hv'
      injection e with e1 _ _
      injection e1 with e2
      injection e2 with e3 _ _
      exact .inr ⟨g, off, cap, hv, hc, by omega, hgs, hx⟩
theorem WrOk.sub {W W0 : World} {B B0 : Nat} {l : List Dk.Wr} {vs : List Value} (h : WrOk W B l vs) (h0 : WrOk W0 B0 l vs) : WrOk W B0 l vs :=
  ⟨h.1, fun k w v h1 h2 => ⟨(h.2 k w v h1 h2).1.sub (h0.2 k w v h1 h2).1, (h.2 k w v h1 h2).2⟩⟩
theorem WrC.within {c : Nat → Nat} {W : World} {l : List Dk.Wr} {vs : List Value} (h : WrC c W l vs) : Dk.Within 16777216 l := by
  intro w hw
  obtain ⟨k, hk, rfl⟩ := List.getElem_of_mem hw
  have := h.2 k l[k] (vs[k]'(by rw [h.1]; exact hk)) (List.getElem?_eq_getElem hk) (List.getElem?_eq_getElem _)
  exact this.2

/-- bytes lie in no file's row -/
theorem RdB.off_row {W W' : World} {B : Nat} {v : Value} {l : Dk.Bs} (h : RdB W B v l) {xg : Nat} {a b : Option Addr} {n1 n2 c1 c2 : Nat} {t : TypeId} {fr : Nat × Nat} (hx : W.heap[xg]? = some (.cells #[.slice a n1 c1, .slice b n2 c2] t fr))
    (hk : ∀ k, k < B → k ≠ xg → W'.heap[k]? = W.heap[k]?) (hs : W.heap.size ≤ W'.heap.size) : RdB W' B v l := by
  rcases h with h | ⟨g, off, cap, hv, hc, hg, hgs, hb⟩
  · exact .inl h
  · by_cases hl : l = []
    · subst hl; exact .inl ⟨rfl, _, _, hv⟩
    · have hne : g ≠ xg := by
        rintro rfl
        obtain ⟨x, r, rfl⟩ : ∃ x r, l = x :: r := by cases l with | nil => exact absurd rfl hl | cons x r => exact ⟨x, r, rfl⟩
        have h0 := hb 0 x rfl
        rw [cell_of_row W _ _ _ _ _ hx] at h0
        match off, h0 with
        | 0, h0 => simp at h0
        | 1, h0 => simp at h0
        | n + 2, h0 => simp at h0
      exact .inr ⟨g, off, cap, hv, hc, hg, by omega, fun j c hj => (World.cell?_of_block (w := W) (w' := W') (a := ⟨g, off + j, none⟩) (hk g hg hne)).trans (hb j c hj)⟩

/-- a file that is laid anew -/
theorem DiskIs.laid {i : Nat} {c : Nat → Nat} {W W' : World} {g : Nat} {D : Dk.D} {m : Nat} {l1 l2 : List Fe} {x0 : Fe} (h : DiskIs i c W g D m (l1 ++ x0 :: l2)) (v' : Value) (cs : Dk.Bs) {B : Nat}
    (hrow : W'.heap[x0.g]? = some (.cells #[v', .slice none 0 0] 131 (0, 0))) (hB : W.heap.size ≤ B) (hown : W'.ownsRow B 5 1 v' cs.length (dkCells cs)) (hg : W.grownBy W' (some x0.g)) (hcs : cs.length ≤ 16777216) :
    DiskIs i (pnt c W.heap.size 0) W' g { D with fs := Dk.upd x0.nm ⟨cs, []⟩ D.fs } m (l1 ++ ⟨x0.nm, x0.g, v', .slice none 0 0, [], ⟨cs, []⟩⟩ :: l2) ∧ Chg i c (pnt c W.heap.size 0) W W' := by
  have hW : ∀ b, b < W.heap.size → b ∉ x0.blks → W'.heap[b]? = W.heap[b]? := fun b hb hn => hg.block b hb (fun e => hn (by cases e; simp [Fe.blks]))
  have hc : ∀ b, b < W.heap.size → pnt c W.heap.size 0 b = c b := fun b hb => pnt_old hb
  refine ⟨h.turn (x0 := x0) (x1 := ⟨x0.nm, x0.g, v', .slice none 0 0, [], ⟨cs, []⟩⟩) rfl rfl hg.size hW hc ⟨hrow, RdC.of_own hown (fun b hb _ => pnt_new (by omega)), World.ownsRow_nil _ _ _ _, WrC.nil, by simpa [Dk.Fl.contents, Dk.contents] using hcs, by simp⟩ (fun b hb => by simp [Value.ownBlock] at hb), h.turn_chg hg.os hg.tape hg.output hg.size hW hc⟩

end Go.Proofs.YtamencnachmhoaaGreatDoor

namespace Go.Proofs.YtamencnachmhoaaGreatDoor
open Go.RowKit

theorem WrOk.off_row {W W' : World} {B : Nat} {l : List Dk.Wr} {vs : List Value} (h : WrOk W B l vs) {xg : Nat} {a b : Option Addr} {n1 n2 c1 c2 : Nat} {t : TypeId} {fr : Nat × Nat} (hx : W.heap[xg]? = some (.cells #[.slice a n1 c1, .slice b n2 c2] t fr))
    (hk : ∀ k, k < B → k ≠ xg → W'.heap[k]? = W.heap[k]?) (hs : W.heap.size ≤ W'.heap.size) : WrOk W' B l vs :=
  ⟨h.1, fun k w v h1 h2 => ⟨(h.2 k w v h1 h2).1.off_row hx hk hs, (h.2 k w v h1 h2).2⟩⟩
theorem ChAt.off_row {W W' : World} {B h0 : Nat} {ch : Dk.Bs} (h : ChAt B W h0 ch) {xg : Nat} {a b : Option Addr} {n1 n2 c1 c2 : Nat} {t : TypeId} {fr : Nat × Nat} (hx : W.heap[xg]? = some (.cells #[.slice a n1 c1, .slice b n2 c2] t fr))
    (hk : ∀ k, k < W.heap.size → k ≠ xg → W'.heap[k]? = W.heap[k]?) (hs : W.heap.size ≤ W'.heap.size) (hB : B ≤ W.heap.size) (hxg : xg < B) : ChAt B W' h0 ch := by
  obtain ⟨h1, v, h2, h3⟩ := h
  have hlt := (Array.getElem?_eq_some_iff.1 h2).1
  exact ⟨h1, v, (hk h0 hlt (by omega)).trans h2, h3.off_row hx (fun k hk' hne => hk k (by omega) hne) hs⟩

/-- a file's row: two slices -/
theorem FeAt.row_form {c : Nat → Nat} {W : World} {x : Fe} (h : FeAt c W x) : ∃ a b n1 n2 c1 c2, x.dv = .slice a n1 c1 ∧ x.pv = .slice b n2 c2 ∧ W.heap[x.g]? = some (.cells #[.slice a n1 c1, .slice b n2 c2] 131 (0, 0)) := by
  obtain ⟨a, c1, e1⟩ := h.dur.1.form
  obtain ⟨b, c2, e2, _⟩ := h.is
  refine ⟨a, b, _, _, c1, c2, e1, e2, ?_⟩
  have := h.row
  rw [e1, e2] at this
  exact this

/-- the second half of a file's turn: survivors have been found (world W2), the store, the sync -/
theorem dk_resync {i : Nat} {cw : Nat → Nat} {W wr W2 : World} {g : Nat} {D : Dk.D} {m : Nat} {l1 l2 : List Fe} {x : Fe} (h : DiskIs i cw wr g D m (l1 ++ x :: l2)) (hxW : x.g < W.heap.size) (hWr : W.heap.size < wr.heap.size)
    (hcol : cw W.heap.size = i + 1) (r : List Dk.Wr × Dk.Bs) (v2 : Value) (vs2 : List Value) (hown : W2.ownsRow wr.heap.size 183 2 v2 r.1.length (wrCells r.1 vs2)) (hok : WrOk W2 W.heap.size r.1 vs2)
    (hch : ChAt W.heap.size W2 W.heap.size r.2) (hg : wr.grownBy W2 (some W.heap.size)) (hlen : r.1.length ≤ 4398046511103) (hwi : Dk.Within 16777216 r.1) (hdur : x.f.dur.length ≤ 16777216) :
    W2.cell? ⟨x.g, 1, none⟩ = some x.pv ∧ W2.frozen? ⟨x.g, 1, none⟩ = false ∧
    Calls Tryz.prog 81 #[.pointer (some ⟨x.g, 0, none⟩)] (W2.setCell ⟨x.g, 1, none⟩ v2) fun e W4 => ∃ c' x1, e = .returned (.tuple #[]) ∧ x1.nm = x.nm ∧ x1.f = ⟨Dk.contents x.f.dur r.1, []⟩ ∧
      DiskIs i c' W4 g { D with fs := (l1 ++ x1 :: l2).map Fe.ent } m (l1 ++ x1 :: l2) ∧ ChAt W.heap.size W4 W.heap.size r.2 ∧ W4.os = wr.os ∧ W4.tape = wr.tape ∧ W4.output = wr.output ∧ wr.heap.size ≤ W4.heap.size ∧
      (∀ b, b < wr.heap.size → b ≠ x.g → b ≠ W.heap.size → W4.heap[b]? = wr.heap[b]?) ∧ ∀ b, b < wr.heap.size → c' b = cw b := by
  have hch2 : Chg (i + 1) cw (pnt cw wr.heap.size 0) wr W2 := ⟨hg.os, hg.tape, hg.output, hg.size, fun b hb hne => hg.block b hb (fun e => by cases e; exact hne hcol), fun b hb => pnt_old hb⟩
  have h2 := h.chg hch2 (by omega) (by omega)
  have hF := h2.file x (by simp)
  obtain ⟨a, b, n1, n2, c1, c2, e1, e2, hrow⟩ := hF.row_form
  have hs3 : (W2.setCell ⟨x.g, 1, none⟩ v2).heap.size = W2.heap.size := by simp [World.setCell]
  have hrow3 := dk_setCell W2 x.g 1 _ _ v2 hF.row
  have hk3 : ∀ k, k ≠ x.g → (W2.setCell ⟨x.g, 1, none⟩ v2).heap[k]? = W2.heap[k]? := fun k hne => Below.heap_setCell W2 _ _ k hne
  have hg3 : W2.grownBy (W2.setCell ⟨x.g, 1, none⟩ v2) (some x.g) := dk_grown_setCell W2 W2 x.g 1 v2 ⟨rfl, rfl, rfl, Nat.le_refl _, fun _ _ _ => rfl⟩
  refine ⟨by rw [cell_of_row _ _ _ _ _ _ hF.row]; rfl, dk_frozen _ _ _ _ _ hF.row, ?_⟩
  generalize W2.setCell ⟨x.g, 1, none⟩ v2 = W3 at *
  have hsz := hg.size
  have hown3 : W3.ownsRow wr.heap.size 183 2 v2 r.1.length (wrCells r.1 vs2) := hown.kept hg3 (by
    cases hv : v2.ownBlock with
    | none => exact .inl rfl
    | some k => exact .inr (fun e => by cases e; have := (hown.lt x.g hv).1; omega))
  have hok3 : WrOk W3 W.heap.size r.1 vs2 := hok.off_row hrow (fun k _ hne => hk3 k hne) (by omega)
  have hrd3 : RdB W3 W3.heap.size x.dv x.f.dur := (hF.dur.1.off_row hrow (fun k _ hne => hk3 k hne) (by omega)).mono (by omega)
  have hcl : (Dk.contents x.f.dur r.1).length ≤ 16777216 := by rw [Dk.sizeOf_contents]; exact Dk.within_sizeOf _ _ hdur hwi
  refine (dk_sync x.g x.dv v2 x.f.dur r.1 W3 hrow3 hrd3 (PendIs.rd (PendIs.of_own hown3) (hok3.mono (by omega)) hlen) (by omega)).mono ?_
  rintro e W4 ⟨v4, rfl, hrow4, hown4, hg4⟩
  have hg24 : W2.grownBy W4 (some x.g) := hg3.trans hg4
  obtain ⟨d1, d2⟩ := h2.laid v4 (Dk.contents x.f.dur r.1) hrow4 (by omega) hown4 hg24 hcl
  have hs24 := hg24.size
  refine ⟨_, ⟨x.nm, x.g, v4, .slice none 0 0, [], ⟨Dk.contents x.f.dur r.1, []⟩⟩, rfl, rfl, rfl, ?_, ?_, d2.os.trans hch2.os, d2.tape.trans hch2.tape, d2.output.trans hch2.output, by omega, fun b hb hne hne' => (hg24.block b (by omega) (fun e => by cases e; exact hne rfl)).trans (hg.block b hb (fun e => by cases e; exact hne' rfl)), fun b hb => (d2.col b (by omega)).trans (hch2.col b hb)⟩
  · have e := d1.fs
    have e' : ({ D with fs := Dk.upd x.nm ⟨Dk.contents x.f.dur r.1, []⟩ D.fs } : Dk.D) = { D with fs := (l1 ++ ⟨x.nm, x.g, v4, .slice none 0 0, [], ⟨Dk.contents x.f.dur r.1, []⟩⟩ :: l2).map Fe.ent } := by rw [← e]
    rw [← e']
    exact d1
  · exact hch.off_row hrow (fun k hk hne => hg24.block k hk (fun e => by cases e; exact hne rfl)) hs24 (by omega) hxW

end Go.Proofs.YtamencnachmhoaaGreatDoor

namespace Go.Proofs.YtamencnachmhoaaGreatDoor
open Go.RowKit

theorem Dk.restartFs_cons (n : Dk.Bs) (f : Dk.Fl) (r : List (Dk.Bs × Dk.Fl)) (ch : Dk.Bs) : Dk.restartFs ((n, f) :: r) ch = if f.pend = [] then ((n, f) :: (Dk.restartFs r ch).1, (Dk.restartFs r ch).2)
    else ((n, ⟨Dk.contents f.dur (Dk.surv f.pend ch).1, []⟩) :: (Dk.restartFs r (Dk.surv f.pend ch).2).1, (Dk.restartFs r (Dk.surv f.pend ch).2).2) := rfl

theorem dk_dur_le {c : Nat → Nat} {W : World} {x : Fe} (h : FeAt c W x) : x.f.dur.length ≤ 16777216 := by
  have := h.size
  unfold Dk.Fl.contents at this
  rw [Dk.sizeOf_contents] at this
  have h2 := Dk.sizeOf_le x.f.dur.length x.f.pend 0
  rw [List.take_zero] at h2
  have : Dk.sizeOf' x.f.dur.length [] = x.f.dur.length := rfl
  omega

set_option maxRecDepth 100000 in
set_option maxHeartbeats 4000000 in
theorem dk_Restart {i : Nat} {c : Nat → Nat} {W : World} {g : Nat} {D : Dk.D} (h : DiskAt i c W g D) (v : Value) (ch : Dk.Bs) (hrd : RdC c W v ch) (hchl : ch.length ≤ 1125899906842624) (hmany : D.fs.length ≤ 1073741824) (hnm : ∀ p ∈ D.fs, p.1.length ≤ maxLen) :
    Calls Tryz.prog 30 #[.pointer (some ⟨g, 0, none⟩), v] W (DkPost i c W g (D.restart ch)) := by
  obtain ⟨m, xs, h⟩ := h
  have cells := h.cells
  cases hdn : D.down with
  | false =>
    have HR : Hid (D.restart ch = (D, 10)) := by show _ = _; unfold Dk.D.restart; rw [if_neg (by simp [hdn])]
    have hc := cells.2.2.1
    rw [hdn] at hc
    have H := Lib.hid h
    clear h hdn cells hrd hnm
    go_enter Tryz.func30, Tryz.ntmps30
    go_wp2_with fail
    go_ret
    rw [HR.out]
    exact ⟨c, rfl, ⟨m, xs, H.out⟩, Chg.refl _ _ _⟩
  | true =>
    have HR : Hid (D.restart ch = (⟨(Dk.restartFs D.fs ch).1, -1, false⟩, 0)) := by show _ = _; unfold Dk.D.restart; rw [if_pos hdn]
    have hxs : xs.length ≤ 1073741824 := by rw [h.fs] at hmany; simpa using hmany
    have hnx : ∀ x ∈ xs, x.nm.length ≤ maxLen := fun x hx => hnm (x.ent) (by rw [h.fs]; exact List.mem_map.2 ⟨x, hx, rfl⟩)
    have hgl := (h.col g (by simp)).2
    obtain ⟨va, vc, rfl⟩ := hrd.1.form
    obtain ⟨v, hv⟩ : ∃ v, v = Value.slice va ch.length vc := ⟨_, rfl⟩
    rw [← hv] at hrd
    obtain ⟨W0, hW0⟩ : ∃ W0, W0 = W.alloc (.cells #[v] 128) := ⟨_, rfl⟩
    have hb0 : Below W.heap.size W W0 := by rw [hW0]; exact (Below.refl _ _).alloc (Nat.le_refl _) _
    have hs0 : W0.heap.size = W.heap.size + 1 := by rw [hW0]; simp
    have h0 : DiskIs i (pnt c W.heap.size (i + 1)) W0 g D m xs := h.chg (Chg.of_below (i := i + 1) hb0 (i + 1)) (by omega) (by omega)
    have hrow0 : W0.heap[W.heap.size]? = some (.cells #[v] 128 (0, 0)) := by rw [hW0]; exact heap_alloc_new _ _
    have hch0 : ChAt W.heap.size W0 W.heap.size ch := ⟨Nat.le_refl _, v, hrow0, hrd.1.below hb0⟩
    have hkeys := dk_keys W0 m
    have hsort := dk_sorted h0 hxs
    have g0 := h0.cells.1
    have hc := h0.cells.2.2.1
    rw [hdn] at hc
    have hcW : W.cell? ⟨g, 2, none⟩ = some (.bool true) := by rw [← hdn]; exact cells.2.2.1
    rw [hW0, hv] at hkeys hsort g0 hc
    simp only [World.size_alloc] at hsort
    have H := Lib.hid h
    have H0 := Lib.hid h0
    have HB0 := Lib.hid hb0
    have HC0 := Lib.hid hch0
    have HW0 := Lib.hid hW0
    have HKY := Lib.hid hkeys
    have HSO := Lib.hid hsort
    have HNX := Lib.hid hnx
    have HS0 := Lib.hid hs0
    clear h hdn cells hrd hnm h0 hb0 hch0 hW0 hkeys hsort hnx hrow0
    go_enter Tryz.func30, Tryz.ntmps30
    go_wp2_with fail
    refine HKY.out.mono ?_
    rintro e w1 ⟨rfl, rfl⟩
    go_wp2_with fail
    refine HSO.out.mono ?_
    rintro e W1 ⟨nv, rfl, hownN, hbN⟩
    rw [← hv, ← HW0.out, ← HS0.out] at hbN
    have hng0 : W.heap.size + 1 + 1 = W.heap.size + 2 := rfl
    rw [hng0] at hownN
    obtain ⟨na, nc, rfl⟩ := dk_own_form hownN
    have HON := Lib.hid hownN
    have HBN := Lib.hid hbN
    clear hownN hbN
    go_wp2_with fail
    go_loopw [28] (fun kv wr => ∃ (k : Nat) (cw : Nat → Nat) (chk : Dk.Bs) (zs : List Fe), kv = .int .i64 k ∧ k ≤ xs.length ∧ Hid (DiskIs i cw wr g { D with fs := (zs ++ xs.drop k).map Fe.ent } m (zs ++ xs.drop k)) ∧ Hid (ChAt W.heap.size wr W.heap.size chk) ∧ Hid (Chg i c cw W wr) ∧ cw W.heap.size = i + 1 ∧
      Hid (∀ b, W.heap.size < b → b < W1.heap.size → wr.heap[b]? = W1.heap[b]?) ∧ W1.heap.size ≤ wr.heap.size ∧ chk.length ≤ 1125899906842624 ∧ Hid (Dk.restartFs D.fs ch = (zs.map Fe.ent ++ (Dk.restartFs ((xs.drop k).map Fe.ent) chk).1, (Dk.restartFs ((xs.drop k).map Fe.ent) chk).2))) (fun kv _ => xs.length - (RowKit.intOf kv).toNat)
    case atStart =>
      have hs1 := HBN.out.size
      refine ⟨0, pnt (pnt c W.heap.size (i + 1)) W0.heap.size 0, ch, [], rfl, Nat.zero_le _, Lib.hid ?_, Lib.hid (HC0.out.below HBN.out), Lib.hid ((Chg.of_below HB0.out (i + 1)).trans (Chg.of_below HBN.out 0)), ?_, Lib.hid (fun _ _ _ => rfl), Nat.le_refl _, hchl, Lib.hid ?_⟩
      · have h1 := H0.out.chg (Chg.of_below (i := i + 1) HBN.out 0) (by omega) (by omega)
        have e : ({ D with fs := ([] ++ xs.drop 0).map Fe.ent } : Dk.D) = D := by
          have := H.out.fs
          simp only [List.nil_append, List.drop_zero]
          rw [← this]
        rw [e]
        simpa using h1
      · rw [pnt_old (by omega), pnt_new (Nat.le_refl _)]
      · have := H.out.fs
        simp only [List.map_nil, List.nil_append, List.drop_zero]
        rw [← this]
    case round =>
      obtain ⟨k, cw, chk, zs, rfl, hk, HD, HCH, HCG, hcol, HNB, hsz, hchk, HRF⟩ := hrel
      have hsW : W.heap.size < W1.heap.size := by have := HBN.out.size; have := HS0.out; omega
      by_cases hlt : k < xs.length
      · obtain ⟨x, hxd⟩ : ∃ x, x = xs[k] := ⟨_, rfl⟩
        have hxm : x ∈ xs := hxd ▸ List.getElem_mem hlt
        have hdr : xs.drop k = x :: xs.drop (k + 1) := by rw [hxd]; exact List.drop_eq_getElem_cons hlt
        obtain ⟨ng, ncap, hnv, hng, hnlt⟩ := HON.out.form (by omega)
        injection hnv with e1 e2 e3
        subst e1 e3
        have n0 : wr.cell? ⟨ng, k, none⟩ = some (.string ⟨x.nm.toArray⟩) := by
          have := HON.out.cells rfl k (.string ⟨x.nm.toArray⟩) (by unfold nmCells; rw [List.getElem?_map, List.getElem?_eq_getElem hlt, ← hxd]; rfl)
          rw [dk_add, Nat.zero_add] at this
          rw [World.cell?_of_block (w := W1) (w' := wr) (a := ⟨ng, k, none⟩) (HNB.out ng (by have := HS0.out; omega) hnlt)]
          exact this
        rw [hdr] at HD HRF
        have hxg : x.g < W.heap.size := (H.out.col x.g (mem_blks hxm (by simp [Fe.blks]) g m)).2
        have hxp : ∀ b, x.pv.ownBlock = some b → b < W.heap.size := fun b hb => (H.out.col b (mem_blks hxm (by simp [Fe.blks, hb]) g m)).2
        have hF := HD.out.file x (by simp)
        have m0 := HD.out.cells.1
        have hlk := HD.out.look_some ⟨x.nm.toArray⟩ (HNX.out x hxm) rfl wr rfl
        have p1 : wr.cell? ⟨x.g, 1, none⟩ = some x.pv := by rw [cell_of_row wr _ _ _ _ _ hF.row]; rfl
        obtain ⟨pa, pc, hpv, _⟩ := hF.is
        have HF := Lib.hid hF
        have hne : xs.length ≠ 0 := by omega
        clear hxd hdr hF
        rw [hpv] at p1
        by_cases hp : x.f.pend = []
        · have hp0 : x.f.pend.length = 0 := by rw [hp]; rfl
          rw [hp0] at p1 hpv
          go_wp2_with fail
          have e : zs ++ [x] ++ xs.drop (k + 1) = zs ++ x :: xs.drop (k + 1) := by simp
          refine ⟨⟨k + 1, cw, chk, zs ++ [x], by go_num, by omega, ?_, HCH, HCG, hcol, HNB, hsz, hchk, ?_⟩, by simp [RowKit.intOf]; omega⟩
          · rw [e]; exact HD
          · refine Lib.hid ?_
            have e2 := HRF.out
            rw [List.map_cons, show x.ent = (x.nm, x.f) from rfl, Dk.restartFs_cons, if_pos hp] at e2
            rw [e2]
            simp [Fe.ent]
        · have hp0 : 0 < x.f.pend.length := List.length_pos_iff.2 hp
          have HSV := Lib.hid (dk_survivors W.heap.size wr W.heap.size chk x.pv x.f.pend x.vs HCH.out (HF.out.is.sub hxp) (HF.out.wr.ok.sub (H.out.file x hxm).wr.ok) (by omega) hp0 HF.out.many hchk HF.out.wr.within)
          rw [hpv] at HSV
          go_wp2_with fail
          refine HSV.out.mono ?_
          rintro e W2 ⟨v2, vs2, rfl, hown2, hok2, hch2, hg2⟩
          have hrl := Dk.surv_rest_le x.f.pend chk
          have hsl := Dk.surv_len x.f.pend chk HF.out.wr.within (by omega)
          have hmn : x.f.pend.length * 16777216 ≤ 65536 * 16777216 := Nat.mul_le_mul_right _ HF.out.many
          obtain ⟨r1, r2, r3⟩ := dk_resync HD.out hxg (by omega) hcol (Dk.surv x.f.pend chk) v2 vs2 hown2 hok2 hch2 hg2 (by omega) (Dk.surv_within HF.out.wr.within chk) (dk_dur_le HF.out)
          obtain ⟨a2, c2, rfl⟩ := dk_own_form hown2
          have HSY := Lib.hid r3
          clear hown2 hok2 hch2 hg2 r3 n0 m0 hlk p1
          go_wp2_with fail
          refine HSY.out.mono ?_
          rintro e W4 ⟨c', x1, rfl, hx1n, hx1f, hD4, hC4, h4o, h4t, h4p, h4s, h4b, h4c⟩
          go_wp2_with fail
          have e : zs ++ [x1] ++ xs.drop (k + 1) = zs ++ x1 :: xs.drop (k + 1) := by simp
          refine ⟨⟨k + 1, c', (Dk.surv x.f.pend chk).2, zs ++ [x1], by go_num, by omega, ?_, Lib.hid hC4, ?_, ?_, ?_, by omega, by omega, ?_⟩, by simp [RowKit.intOf]; omega⟩
          · refine Lib.hid ?_
            rw [e]
            exact hD4
          · refine Lib.hid ⟨h4o.trans HCG.out.os, h4t.trans HCG.out.tape, h4p.trans HCG.out.output, by omega, fun b hb hne => (h4b b (by omega) ?_ (by omega)).trans (HCG.out.block b hb hne), fun b hb => (h4c b (by omega)).trans (HCG.out.col b hb)⟩
            intro e
            subst e
            exact hne (H.out.col x.g (mem_blks hxm (by simp [Fe.blks]) g m)).1
          · rw [h4c _ (by omega)]; exact hcol
          · exact Lib.hid fun b hb hb' => (h4b b (by omega) (by omega) (by omega)).trans (HNB.out b hb hb')
          · refine Lib.hid ?_
            have e2 := HRF.out
            rw [List.map_cons, show x.ent = (x.nm, x.f) from rfl, Dk.restartFs_cons, if_neg hp] at e2
            rw [e2]
            simp [Fe.ent, hx1n, hx1f]
      · obtain rfl : k = xs.length := by omega
        rw [List.drop_length, List.append_nil] at HD
        rw [List.drop_length] at HRF
        have q1 := HD.out.cells
        have q2 := (HD.out.fell false).1.cells
        have HFN := Lib.hid (HD.out.fell false)
        have HSP := Lib.hid ((HD.out.fell false).1.spent (-1))
        clear hcol
        go_wp2_with fail
        go_ret
        rw [HR.out, HRF.out]
        have e : zs.map Fe.ent ++ (Dk.restartFs ([].map Fe.ent) chk).1 = zs.map Fe.ent := by simp [Dk.restartFs]
        simp only []
        rw [e]
        exact ⟨cw, rfl, ⟨m, zs, HSP.out.1⟩, (HCG.out.trans HFN.out.2).trans HSP.out.2⟩

end Go.Proofs.YtamencnachmhoaaGreatDoor
