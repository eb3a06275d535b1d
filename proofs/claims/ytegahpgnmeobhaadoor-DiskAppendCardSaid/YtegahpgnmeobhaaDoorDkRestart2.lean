/-
  Restart: the walk.
-/
import Derived.Test.YtegahpgnmeobhaaDoorDkRestart
namespace Go.Proofs.YtegahpgnmeobhaaDoor
open Go.RowKit

theorem WrOk.off_row {W W' : World} {B : Nat} {l : List Dk.Wr} {vs : List Value} (h : WrOk W B l vs) {xg : Nat} {a b : Option Addr} {n1 n2 c1 c2 : Nat} {t : TypeId} {fr : Nat × Nat} (hx : W.heap[xg]? = some (.cells #[.slice a n1 c1, .slice b n2 c2] t fr))
    (hk : ∀ k, k < B → k ≠ xg → W'.heap[k]? = W.heap[k]?) (hs : W.heap.size ≤ W'.heap.size) : WrOk W' B l vs :=
  ⟨h.1, fun k w v h1 h2 => ⟨(h.2 k w v h1 h2).1.off_row hx hk hs, (h.2 k w v h1 h2).2⟩⟩
theorem ChAt.off_row {W W' : World} {B h0 : Nat} {ch : Dk.Bs} (h : ChAt B W h0 ch) {xg : Nat} {a b : Option Addr} {n1 n2 c1 c2 : Nat} {t : TypeId} {fr : Nat × Nat} (hx : W.heap[xg]? = some (.cells #[.slice a n1 c1, .slice b n2 c2] t fr))
    (hk : ∀ k, k < W.heap.size → k ≠ xg → W'.heap[k]? = W.heap[k]?) (hs : W.heap.size ≤ W'.heap.size) (hB : B ≤ W.heap.size) (hxg : xg < B) : ChAt B W' h0 ch := by
  obtain ⟨h1, v, h2, h3⟩ := h
  have hlt := (Array.getElem?_eq_some_iff.1 h2).1
  exact ⟨h1, v, (hk h0 hlt (by omega)).trans h2, h3.off_row hx (fun k hk' hne => hk k (by omega) hne) hs⟩

/-- a file's row: two slices -/
theorem FeAt.row_form {c : Nat → Nat} {W : World} {x : Fe} (h : FeAt c W x) : ∃ a b n1 n2 c1 c2, x.dv = .slice a n1 c1 ∧ x.pv = .slice b n2 c2 ∧ W.heap[x.g]? = some (.cells #[.slice a n1 c1, .slice b n2 c2] 43 (0, 0)) := by
  obtain ⟨a, c1, e1⟩ := h.dur.1.form
  obtain ⟨b, c2, e2, _⟩ := h.is
  refine ⟨a, b, _, _, c1, c2, e1, e2, ?_⟩
  have := h.row
  rw [e1, e2] at this
  exact this

/-- the second half of a file's turn: survivors have been found (world W2), the store, the sync -/
theorem dk_resync {i : Nat} {cw : Nat → Nat} {W wr W2 : World} {g : Nat} {D : Dk.D} {m : Nat} {l1 l2 : List Fe} {x : Fe} (h : DiskIs i cw wr g D m (l1 ++ x :: l2)) (hxW : x.g < W.heap.size) (hWr : W.heap.size < wr.heap.size)
    (hcol : cw W.heap.size = i + 1) (r : List Dk.Wr × Dk.Bs) (v2 : Value) (vs2 : List Value) (hown : W2.ownsRow wr.heap.size 61 2 v2 r.1.length (wrCells r.1 vs2)) (hok : WrOk W2 W.heap.size r.1 vs2)
    (hch : ChAt W.heap.size W2 W.heap.size r.2) (hg : wr.grownBy W2 (some W.heap.size)) (hlen : r.1.length ≤ 4398046511103) (hwi : Dk.Within 16777216 r.1) (hdur : x.f.dur.length ≤ 16777216) :
    W2.cell? ⟨x.g, 1, none⟩ = some x.pv ∧ W2.frozen? ⟨x.g, 1, none⟩ = false ∧
    Calls Tryd.prog 22 #[.pointer (some ⟨x.g, 0, none⟩)] (W2.setCell ⟨x.g, 1, none⟩ v2) fun e W4 => ∃ c' x1, e = .returned (.tuple #[]) ∧ x1.nm = x.nm ∧ x1.f = ⟨Dk.contents x.f.dur r.1, []⟩ ∧
      DiskIs i c' W4 g { D with fs := (l1 ++ x1 :: l2).map Fe.ent } m (l1 ++ x1 :: l2) ∧ ChAt W.heap.size W4 W.heap.size r.2 ∧ W4.os = wr.os ∧ W4.tape = wr.tape ∧ W4.output = wr.output ∧ wr.heap.size ≤ W4.heap.size ∧
      (∀ b, b < wr.heap.size → b ≠ x.g → b ≠ W.heap.size → W4.heap[b]? = wr.heap[b]?) ∧ ∀ b, b < wr.heap.size → c' b = cw b := by
  have hch2 : Chg (i + 1) cw (pnt cw wr.heap.size 0) wr W2 := ⟨hg.os, hg.tape, hg.output, hg.size, fun b hb hne => hg.block b hb (fun e => by cases e; exact hne hcol), fun b hb => pnt_old hb⟩
  have h2 := h.chg hch2 (by omega) (by omega)
  have hF := h2.file x (by simp)
  obtain ⟨a, b, n1, n2, c1, c2, e1, e2, hrow⟩ := hF.row_form
  have hs3 : (W2.setCell ⟨x.g, 1, none⟩ v2).heap.size = W2.heap.size := by simp [World.setCell]
  have hrow3 := dk_setCell W2 x.g 1 _ _ v2 hF.row
  have hk3 : ∀ k, k ≠ x.g → (W2.setCell ⟨x.g, 1, none⟩ v2).heap[k]? = W2.heap[k]? := fun k hne => Below.heap_setCell W2 _ _ k hne
  have hg3 : W2.grownBy (W2.setCell ⟨x.g, 1, none⟩ v2) (some x.g) := dk_grown_setCell W2 W2 x.g 1 v2 ⟨rfl, rfl, rfl, Nat.le_refl _, fun _ _ _ => rfl⟩
  refine ⟨by rw [cell_of_row _ _ _ _ _ _ hF.row]; rfl, dk_frozen _ _ _ _ _ hF.row, ?_⟩
  generalize W2.setCell ⟨x.g, 1, none⟩ v2 = W3 at *
  have hsz := hg.size
  have hown3 : W3.ownsRow wr.heap.size 61 2 v2 r.1.length (wrCells r.1 vs2) := hown.kept hg3 (by
    cases hv : v2.ownBlock with
    | none => exact .inl rfl
    | some k => exact .inr (fun e => by cases e; have := (hown.lt x.g hv).1; omega))
  have hok3 : WrOk W3 W.heap.size r.1 vs2 := hok.off_row hrow (fun k _ hne => hk3 k hne) (by omega)
  have hrd3 : RdB W3 W3.heap.size x.dv x.f.dur := (hF.dur.1.off_row hrow (fun k _ hne => hk3 k hne) (by omega)).mono (by omega)
  have hcl : (Dk.contents x.f.dur r.1).length ≤ 16777216 := by rw [Dk.sizeOf_contents]; exact Dk.within_sizeOf _ _ hdur hwi
  refine (dk_sync x.g x.dv v2 x.f.dur r.1 W3 hrow3 hrd3 (PendIs.rd (PendIs.of_own hown3) (hok3.mono (by omega)) hlen) (by omega)).mono ?_
  rintro e W4 ⟨v4, rfl, hrow4, hown4, hg4⟩
  have hg24 : W2.grownBy W4 (some x.g) := hg3.trans hg4
  obtain ⟨d1, d2⟩ := h2.laid v4 (Dk.contents x.f.dur r.1) hrow4 (by omega) hown4 hg24 hcl
  have hs24 := hg24.size
  refine ⟨_, ⟨x.nm, x.g, v4, .slice none 0 0, [], ⟨Dk.contents x.f.dur r.1, []⟩⟩, rfl, rfl, rfl, ?_, ?_, d2.os.trans hch2.os, d2.tape.trans hch2.tape, d2.output.trans hch2.output, by omega, fun b hb hne hne' => (hg24.block b (by omega) (fun e => by cases e; exact hne rfl)).trans (hg.block b hb (fun e => by cases e; exact hne' rfl)), fun b hb => (d2.col b (by omega)).trans (hch2.col b hb)⟩
  · have e := d1.fs
    have e' : ({ D with fs := Dk.upd x.nm ⟨Dk.contents x.f.dur r.1, []⟩ D.fs } : Dk.D) = { D with fs := (l1 ++ ⟨x.nm, x.g, v4, .slice none 0 0, [], ⟨Dk.contents x.f.dur r.1, []⟩⟩ :: l2).map Fe.ent } := by rw [← e]
    rw [← e']
    exact d1
  · exact hch.off_row hrow (fun k hk hne => hg24.block k hk (fun e => by cases e; exact hne rfl)) hs24 (by omega) hxW

end Go.Proofs.YtegahpgnmeobhaaDoor
