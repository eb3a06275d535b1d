/-
  DiskEqual: the walk.
-/
import Derived.Test.YtegahpgnmeobhaaGreatDoorLawRestart
import Derived.Test.YtegahpgnmeobhaaGreatDoorEqPlain
import Derived.Test.YtegahpgnmeobhaaGreatDoorRfEq
import Derived.Deep.DeepCutAuto
namespace Go.Proofs.YtegahpgnmeobhaaGreatDoor
open Go.RowKit

/-- another colouring that keeps the disk's colour and 0 -/
theorem DiskAt.recol {i : Nat} {c c' : Nat → Nat} {W : World} {g : Nat} {D : Dk.D} (h : DiskAt i c W g D) (h0 : ∀ b, c b = 0 → c' b = 0) (hi : ∀ b, c b = i → c' b = i) : DiskAt i c' W g D := by
  obtain ⟨m, xs, h⟩ := h
  exact ⟨m, xs, ⟨h.row, h.map, h.fs, fun x hx => (h.file x hx).keep (Nat.le_refl _) (fun b _ hb => ⟨rfl, h0 b hb⟩) (fun _ _ => rfl), h.nd, fun b hb => ⟨hi b (h.col b hb).1, (h.col b hb).2⟩, h.ne⟩⟩

/-- the colours 0, 1, 7 alone -/
def eqCol (c : Nat → Nat) (b : Nat) : Nat := if c b = 0 then 0 else if c b = 1 then 1 else 7
theorem eqCol_zero {c : Nat → Nat} {b : Nat} (h : c b = 0) : eqCol c b = 0 := by unfold eqCol; rw [if_pos h]
theorem eqCol_one {c : Nat → Nat} {b : Nat} (h : c b = 1) : eqCol c b = 1 := by unfold eqCol; rw [if_neg (by omega), if_pos h]
theorem eqCol_seven {c : Nat → Nat} {b : Nat} (h : c b = 7) : eqCol c b = 7 := by unfold eqCol; rw [if_neg (by omega), if_neg (by omega)]
theorem eqCol_free (c : Nat → Nat) (b : Nat) : eqCol c b ≠ 3 ∧ eqCol c b ≠ 9 := by unfold eqCol; split <;> (try split) <;> omega

namespace Dk
theorem runD_nice (l : List Raw) : Nice (runD l) := by
  unfold runD
  suffices h : ∀ (l : List Raw) (d : D), Nice d → Nice (l.foldl (fun d r => (d.act (small r)).1) d) from h _ _ Nice.new
  intro l
  induction l with
  | nil => exact fun d h => h
  | cons r l ih => exact fun d h => ih _ (h.act _)
/-- the two Equals ask the same -/
theorem eq_asks (A B : D) (hA : A.norm.bud = A.budget) (hB : B.norm.bud = B.budget) : (A.budget = B.budget ∧ A.down = B.down ∧ A.fs = B.fs) ↔ (A.norm.bud = B.norm.bud ∧ A.norm.down = B.norm.down ∧ A.norm.fs = B.norm.fs) := by
  rw [hA, hB, D.norm_down, D.norm_down, D.norm_fs, D.norm_fs]
theorem norm_budget (d : D) : d.norm.bud = d.budget := by unfold D.norm D.budget; split <;> rfl
theorem bool_same {r s : Bool} {P Q : Prop} (h1 : r = true ↔ P) (h2 : s = true ↔ Q) (h : P ↔ Q) : r = s := by
  cases r <;> cases s <;> simp_all
theorem norm_bud_ge {d : D} (h : Nice d) : -1 ≤ d.norm.bud := by
  unfold D.norm
  split
  · show (-1 : Int) ≤ 0; decide
  · exact h.bud
end Dk

/-- the loop's state -/
structure EqSt (W : World) (k : Nat) (c : Nat → Nat) (w : World) (g gc gw gv : Nat) (D0 D E : Dk.D) (sw sv : Value) : Prop where
  d : DiskAt 1 c w g D0
  cl : DiskAt 5 c w gc D
  rw : RfD c w (.agg #[sw, .int .i64 D.norm.bud, .bool D.norm.down]) D.norm
  rv : RfD c w (.agg #[sv, .int .i64 E.norm.bud, .bool E.norm.down]) E.norm
  roww : w.heap[gw]? = some (.cells #[sw, .int .i64 D.norm.bud, .bool D.norm.down] 27 (0, 0))
  rowv : w.heap[gv]? = some (.cells #[sv, .int .i64 E.norm.bud, .bool E.norm.down] 27 (0, 0))
  colw : c gw = 7
  colv : c gv = 7
  ne : gw ≠ gv
  neww : W.heap.size ≤ gw
  newv : W.heap.size ≤ gv
  kn : Kn W w c
  good : Dk.Good k D
  goodv : Dk.Good k E
  nice : Dk.Nice E

theorem EqSt.chg {W w w' : World} {m k g gc gw gv : Nat} {c c' : Nat → Nat} {D0 D E : Dk.D} {sw sv : Value} (h : EqSt W k c w g gc gw gv D0 D E sw sv) (hc : Chg m c c' w w') (h0 : m ≠ 0) (h1 : m ≠ 1) (h5 : m ≠ 5) (h7 : m ≠ 7) : EqSt W k c' w' g gc gw gv D0 D E sw sv :=
  ⟨h.d.chg hc h1 h0, h.cl.chg hc h5 h0, h.rw.chg hc h0, h.rv.chg hc h0, (hc.block _ (Array.getElem?_eq_some_iff.1 h.roww).1 (by rw [h.colw]; exact Ne.symm h7)).trans h.roww, (hc.block _ (Array.getElem?_eq_some_iff.1 h.rowv).1 (by rw [h.colv]; exact Ne.symm h7)).trans h.rowv,
    (hc.col _ (Array.getElem?_eq_some_iff.1 h.roww).1).trans h.colw, (hc.col _ (Array.getElem?_eq_some_iff.1 h.rowv).1).trans h.colv, h.ne, h.neww, h.newv, h.kn.chg hc h0, h.good, h.goodv, h.nice⟩
theorem EqSt.below {W w w' : World} {k g gc gw gv : Nat} {c : Nat → Nat} {D0 D E : Dk.D} {sw sv : Value} (h : EqSt W k c w g gc gw gv D0 D E sw sv) (hb : Below w.heap.size w w') : EqSt W k c w' g gc gw gv D0 D E sw sv :=
  h.chg (Chg.of_below_same (i := 3) hb) (by decide) (by decide) (by decide) (by decide)
theorem EqSt.paint {W w : World} {k g gc gw gv : Nat} {c : Nat → Nat} {D0 D E : Dk.D} {sw sv : Value} (h : EqSt W k c w g gc gw gv D0 D E sw sv) : EqSt W k (pnt c w.heap.size 0) w g gc gw gv D0 D E sw sv :=
  h.chg (Chg.paint 3 c w 0) (by decide) (by decide) (by decide) (by decide)
theorem rf_store_chg {c : Nat → Nat} {w : World} {b : Nat} {v0 v1 v2 : Value} (hc : c b = 7) : Chg 7 c c w (((w.setCell ⟨b, 0, none⟩ v0).setCell ⟨b, 1, none⟩ v1).setCell ⟨b, 2, none⟩ v2) := by
  have hgr := rf_store3_grown (w := w) (b := b) (v0 := v0) (v1 := v1) (v2 := v2)
  exact ⟨hgr.os, hgr.tape, hgr.output, hgr.size, fun x hx hne => hgr.block x hx (by intro e; cases e; exact hne hc), fun _ _ => rfl⟩
/-- v = x -/
theorem EqSt.putv {W w : World} {k g gc gw gv : Nat} {c : Nat → Nat} {D0 D E E' : Dk.D} {sw sv sv' : Value} (h : EqSt W k c w g gc gw gv D0 D E sw sv) (hr : RfD c w (.agg #[sv', .int .i64 E'.norm.bud, .bool E'.norm.down]) E'.norm) (hg : Dk.Good (k + 1) E') (hn : Dk.Nice E') :
    EqSt W (k + 1) c (((w.setCell ⟨gv, 0, none⟩ sv').setCell ⟨gv, 1, none⟩ (.int .i64 E'.norm.bud)).setCell ⟨gv, 2, none⟩ (.bool E'.norm.down)) g gc gw gv D0 D E' sw sv' := by
  have hc := rf_store_chg (c := c) (w := w) (v0 := sv') (v1 := .int .i64 E'.norm.bud) (v2 := .bool E'.norm.down) h.colv
  have hrow := rf_store3 (v0 := sv') (v1 := .int .i64 E'.norm.bud) (v2 := .bool E'.norm.down) h.rowv
  have hgr := rf_store3_grown (w := w) (b := gv) (v0 := sv') (v1 := .int .i64 E'.norm.bud) (v2 := .bool E'.norm.down)
  generalize ((w.setCell ⟨gv, 0, none⟩ sv').setCell ⟨gv, 1, none⟩ (.int .i64 E'.norm.bud)).setCell ⟨gv, 2, none⟩ (.bool E'.norm.down) = w' at *
  exact ⟨h.d.chg hc (by decide) (by decide), h.cl.chg hc (by decide) (by decide), h.rw.chg hc (by decide), hr.chg hc (by decide), (hgr.block _ (Array.getElem?_eq_some_iff.1 h.roww).1 (by intro e; cases e; exact h.ne rfl)).trans h.roww, hrow,
    h.colw, h.colv, h.ne, h.neww, h.newv, h.kn.chg hc (by decide), h.good.mono (Nat.le_succ _), hg, hn⟩
/-- the clone's step, and w = u -/
theorem EqSt.putw {W w w' : World} {k j g gc gw gv : Nat} {c c' : Nat → Nat} {D0 D D' E : Dk.D} {sw sv su : Value} (h : EqSt W k c w g gc gw gv D0 D E sw sv) (hd : DiskAt 5 c' w' gc D') (hm : Chg 5 c c' w w') (hr : RfD c w (.agg #[su, .int .i64 D'.norm.bud, .bool D'.norm.down]) D'.norm) (hg : Dk.Good j D') (hj : k ≤ j) :
    EqSt W j c' (((w'.setCell ⟨gw, 0, none⟩ su).setCell ⟨gw, 1, none⟩ (.int .i64 D'.norm.bud)).setCell ⟨gw, 2, none⟩ (.bool D'.norm.down)) g gc gw gv D0 D' E su sv := by
  have colw := (hm.col _ (Array.getElem?_eq_some_iff.1 h.roww).1).trans h.colw
  have colv := (hm.col _ (Array.getElem?_eq_some_iff.1 h.rowv).1).trans h.colv
  have roww := (hm.block _ (Array.getElem?_eq_some_iff.1 h.roww).1 (by rw [h.colw]; decide)).trans h.roww
  have rowv := (hm.block _ (Array.getElem?_eq_some_iff.1 h.rowv).1 (by rw [h.colv]; decide)).trans h.rowv
  have hr' := hr.chg hm (by decide)
  have hrv := h.rv.chg hm (by decide)
  have h0 := h.d.chg hm (by decide) (by decide)
  have hk := h.kn.chg hm (by decide)
  have hc := rf_store_chg (c := c') (w := w') (v0 := su) (v1 := .int .i64 D'.norm.bud) (v2 := .bool D'.norm.down) colw
  have hrow := rf_store3 (v0 := su) (v1 := .int .i64 D'.norm.bud) (v2 := .bool D'.norm.down) roww
  have hgr := rf_store3_grown (w := w') (b := gw) (v0 := su) (v1 := .int .i64 D'.norm.bud) (v2 := .bool D'.norm.down)
  generalize ((w'.setCell ⟨gw, 0, none⟩ su).setCell ⟨gw, 1, none⟩ (.int .i64 D'.norm.bud)).setCell ⟨gw, 2, none⟩ (.bool D'.norm.down) = wx at *
  exact ⟨h0.chg hc (by decide) (by decide), hd.chg hc (by decide) (by decide), hr'.chg hc (by decide), hrv.chg hc (by decide), hrow, (hgr.block _ (Array.getElem?_eq_some_iff.1 rowv).1 (by intro e; cases e; exact h.ne rfl)).trans rowv,
    colw, colv, h.ne, h.neww, h.newv, hk.chg hc (by decide), hg, h.goodv.mono hj, h.nice⟩

theorem RfD.form3 {c : Nat → Nat} {w : World} {sv x y : Value} {D : Dk.D} (h : RfD c w (.agg #[sv, x, y]) D) : ∃ a n cap, sv = .slice a n cap := by
  obtain ⟨s, xs, hv, _, hA⟩ := h
  obtain ⟨a, cap, rfl, _, _⟩ := hA.at
  unfold rfVal at hv
  injection hv with e
  have := congrArg (fun l : Array Value => l[0]?) e
  simp at this
  exact ⟨a, _, cap, this⟩

theorem eq_back {W w : World} {v : Value} {l : Dk.Bs} (h : RdB w W.heap.size v l) (hb : Below W.heap.size W w) : RdB W W.heap.size v l := by
  rcases h with h | ⟨g, off, cap, hv, hc, hg, _, hx⟩
  · exact .inl h
  · exact .inr ⟨g, off, cap, hv, hc, hg, hg, fun j c hj => (hb.cell (p := ⟨g, off + j, none⟩) hg).symm.trans (hx j c hj)⟩
theorem eq_rdc {W Wk : World} {c : Nat → Nat} {v : Value} {l : Dk.Bs} (K : Kn W Wk c) (h : RdB W W.heap.size v l) : RdC c Wk v l := RdC.of_kn' K (h.below K.1)
/-- new blocks up to a world 7, from there on 0 -/
def eqNew (c : Nat → Nat) (w o : World) : Nat → Nat := pnt (pnt c w.heap.size 7) o.heap.size 0
theorem eqNew_old {c : Nat → Nat} {w o : World} (h : w.heap.size ≤ o.heap.size) {b : Nat} (hb : b < w.heap.size) : eqNew c w o b = c b := by
  unfold eqNew; rw [pnt_old (Nat.lt_of_lt_of_le hb h), pnt_old hb]
theorem eqNew_mid {c : Nat → Nat} {w o : World} {b : Nat} (hb : w.heap.size ≤ b) (ho : b < o.heap.size) : eqNew c w o b = 7 := by
  unfold eqNew; rw [pnt_old ho, pnt_new hb]
theorem EqSt.world {W w o : World} {k g gc gw gv : Nat} {c : Nat → Nat} {D0 D E : Dk.D} {sw sv : Value} (h : EqSt W k c w g gc gw gv D0 D E sw sv) (hb : Below w.heap.size w o) : EqSt W k (eqNew c w o) o g gc gw gv D0 D E sw sv :=
  h.chg (m := 11) (Chg.of_below' hb (fun _ hk => eqNew_old hb.size hk)) (by decide) (by decide) (by decide) (by decide)
/-- ref.Do at whatever world a region has come to -/
theorem eq_Do_v {W w : World} {k g gc gw gv : Nat} {c : Nat → Nat} {D0 D E : Dk.D} {sw sv : Value} (h : EqSt W k c w g gc gw gv D0 D E sw sv) (hk : k ≤ 80) (r : Dk.Raw) (hn : (Dk.small r).name.size ≤ 9223372036854775807) (ht : (Dk.small r).to.size ≤ 9223372036854775807) (o : World) (hb : Below w.heap.size w o) (bv : Value) (hbv : RdB W W.heap.size bv (r.b.take 1500)) :
    Calls Tryz.prog 28 #[.agg #[sv, .int .i64 E.norm.bud, .bool E.norm.down], .agg #[.int .i64 (Dk.small r).kind, .string (Dk.small r).name, .string (Dk.small r).to, .int .i64 (Dk.small r).n, bv]] o fun e w' =>
      ∃ a n cp, e = .returned (.tuple #[.agg #[.slice a n cp, .int .i64 (E.act (Dk.small r)).1.norm.bud, .bool (E.act (Dk.small r)).1.norm.down], .int .i64 (E.act (Dk.small r)).2]) ∧ RfD (eqNew c w o) w' (.agg #[.slice a n cp, .int .i64 (E.act (Dk.small r)).1.norm.bud, .bool (E.act (Dk.small r)).1.norm.down]) (E.act (Dk.small r)).1.norm ∧ Below o.heap.size o w' := by
  have S := h.world hb
  have hF := S.goodv.fits (by omega)
  have n := rf_Do (New0.pnt _ _) S.rv S.nice.rise hF.bud (by have := S.goodv.many; omega) (fun n f hf => hF.pend n f hf) (Dk.small r) (Dk.small_kind r) hn ht bv (eq_rdc S.kn hbv) (Dk.small_b r)
  refine Calls.mono n ?_
  rintro e w' ⟨v', he, hr, hb'⟩
  obtain ⟨a, n, cp, rfl⟩ := hr.form
  exact ⟨a, n, cp, he, hr, hb'⟩
theorem eq_Do_w {W w : World} {k g gc gw gv : Nat} {c : Nat → Nat} {D0 D E : Dk.D} {sw sv : Value} (h : EqSt W k c w g gc gw gv D0 D E sw sv) (hk : k ≤ 80) (r : Dk.Raw) (hn : (Dk.small r).name.size ≤ 9223372036854775807) (ht : (Dk.small r).to.size ≤ 9223372036854775807) (o : World) (hb : Below w.heap.size w o) (bv : Value) (hbv : RdB W W.heap.size bv (r.b.take 1500)) :
    Calls Tryz.prog 28 #[.agg #[sw, .int .i64 D.norm.bud, .bool D.norm.down], .agg #[.int .i64 (Dk.small r).kind, .string (Dk.small r).name, .string (Dk.small r).to, .int .i64 (Dk.small r).n, bv]] o fun e w' =>
      ∃ a n cp, e = .returned (.tuple #[.agg #[.slice a n cp, .int .i64 (D.act (Dk.small r)).1.norm.bud, .bool (D.act (Dk.small r)).1.norm.down], .int .i64 (D.act (Dk.small r)).2]) ∧ RfD (eqNew c w o) w' (.agg #[.slice a n cp, .int .i64 (D.act (Dk.small r)).1.norm.bud, .bool (D.act (Dk.small r)).1.norm.down]) (D.act (Dk.small r)).1.norm ∧ Below o.heap.size o w' := by
  have S := h.world hb
  have hF := S.good.fits (by omega)
  have n := rf_Do (New0.pnt _ _) S.rw S.cl.rising hF.bud (by have := S.good.many; omega) (fun n f hf => hF.pend n f hf) (Dk.small r) (Dk.small_kind r) hn ht bv (eq_rdc S.kn hbv) (Dk.small_b r)
  refine Calls.mono n ?_
  rintro e w' ⟨v', he, hr, hb'⟩
  obtain ⟨a, n, cp, rfl⟩ := hr.form
  exact ⟨a, n, cp, he, hr, hb'⟩
/-- small at whatever world a region has come to -/
theorem eq_small {W w : World} {c : Nat → Nat} (K : Kn W w c) (r : Dk.Raw) (k1 : -9223372036854775808 ≤ r.kind) (k2 : r.kind ≤ 9223372036854775807) (bv : Value) (hbv : RdB W W.heap.size bv r.b) (o : World) (hb : Below w.heap.size w o) :
    Calls Tryz.prog 27 #[rawVal r bv] o fun e w' => ∃ a n cp, e = .returned (.agg #[.int .i64 (Dk.small r).kind, .string (Dk.small r).name, .string (Dk.small r).to, .int .i64 (Dk.small r).n, .slice a n cp]) ∧ RdB W W.heap.size (.slice a n cp) (r.b.take 1500) ∧ Below o.heap.size o w' := by
  have kb : Below W.heap.size W o := K.1.trans (hb.mono K.1.size)
  refine (dk_small o r k1 k2 _ W.heap.size (hbv.below kb)).mono ?_
  rintro e w' ⟨bv', he, hbv', hb'⟩
  obtain ⟨a, n, rfl⟩ := hbv'.form
  exact ⟨a, _, n, he, eq_back hbv' kb, hb'⟩

theorem eq_R_store {W4 w : World} {gv pg po b : Nat} {y0 y1 y2 z0 z1 z2 z3 z4 u0 u1 u2 : Value} (h : Below W4.heap.size W4 w ∧ w.cell? ⟨gv, 0, none⟩ = some y0 ∧ w.cell? ⟨gv, 1, none⟩ = some y1 ∧ w.cell? ⟨gv, 2, none⟩ = some y2 ∧ w.cell? ⟨pg, po, none⟩ = some z0 ∧ w.cell? ⟨pg, po + 1, none⟩ = some z1 ∧ w.cell? ⟨pg, po + 2, none⟩ = some z2 ∧ w.cell? ⟨pg, po + 3, none⟩ = some z3 ∧ w.cell? ⟨pg, po + 4, none⟩ = some z4)
    (hg : gv < W4.heap.size) (hp : pg < W4.heap.size) (hb : W4.heap.size ≤ b) :
    Below W4.heap.size W4 (((w.setCell ⟨b, 0, none⟩ u0).setCell ⟨b, 1, none⟩ u1).setCell ⟨b, 2, none⟩ u2) ∧ (((w.setCell ⟨b, 0, none⟩ u0).setCell ⟨b, 1, none⟩ u1).setCell ⟨b, 2, none⟩ u2).cell? ⟨gv, 0, none⟩ = some y0 ∧ (((w.setCell ⟨b, 0, none⟩ u0).setCell ⟨b, 1, none⟩ u1).setCell ⟨b, 2, none⟩ u2).cell? ⟨gv, 1, none⟩ = some y1 ∧ (((w.setCell ⟨b, 0, none⟩ u0).setCell ⟨b, 1, none⟩ u1).setCell ⟨b, 2, none⟩ u2).cell? ⟨gv, 2, none⟩ = some y2 ∧ (((w.setCell ⟨b, 0, none⟩ u0).setCell ⟨b, 1, none⟩ u1).setCell ⟨b, 2, none⟩ u2).cell? ⟨pg, po, none⟩ = some z0 ∧ (((w.setCell ⟨b, 0, none⟩ u0).setCell ⟨b, 1, none⟩ u1).setCell ⟨b, 2, none⟩ u2).cell? ⟨pg, po + 1, none⟩ = some z1 ∧ (((w.setCell ⟨b, 0, none⟩ u0).setCell ⟨b, 1, none⟩ u1).setCell ⟨b, 2, none⟩ u2).cell? ⟨pg, po + 2, none⟩ = some z2 ∧ (((w.setCell ⟨b, 0, none⟩ u0).setCell ⟨b, 1, none⟩ u1).setCell ⟨b, 2, none⟩ u2).cell? ⟨pg, po + 3, none⟩ = some z3 ∧ (((w.setCell ⟨b, 0, none⟩ u0).setCell ⟨b, 1, none⟩ u1).setCell ⟨b, 2, none⟩ u2).cell? ⟨pg, po + 4, none⟩ = some z4 := by
  have hgr := rf_store3_grown (w := w) (b := b) (v0 := u0) (v1 := u1) (v2 := u2)
  obtain ⟨h1, b0, b1, b2, c0, c1, c2, c3, c4⟩ := h
  have hl := h1.grown hgr h1.size (by intro x hx; cases hx; exact hb)
  have hs := h1.size
  have f : ∀ (g i : Nat) (v : Value), g < W4.heap.size → w.cell? ⟨g, i, none⟩ = some v → (((w.setCell ⟨b, 0, none⟩ u0).setCell ⟨b, 1, none⟩ u1).setCell ⟨b, 2, none⟩ u2).cell? ⟨g, i, none⟩ = some v := fun g i v hl h => (World.cell?_of_block (a := ⟨g, i, none⟩) (hgr.block g (Nat.lt_of_lt_of_le hl hs) (by intro e; injection e with e; omega))).trans h
  exact ⟨hl, f _ _ _ hg b0, f _ _ _ hg b1, f _ _ _ hg b2, f _ _ _ hp c0, f _ _ _ hp c1, f _ _ _ hp c2, f _ _ _ hp c3, f _ _ _ hp c4⟩
theorem eq_box_d {w w5 : World} {cs : Array Value} {t : TypeId} (hb : Below (w.alloc (.cells cs t)).drew.heap.size (w.alloc (.cells cs t)).drew w5) : w5.heap[w.heap.size]? = some (.cells cs t (0, 0)) :=
  (hb.block _ (show w.heap.size < (w.alloc (.cells cs t)).heap.size by simp)).trans (heap_alloc_new w (.cells cs t))
theorem eq_le {W4 w w5 : World} {P : Prop} {o : Obj} (h : Below W4.heap.size W4 w ∧ P) (_ : Below (w.alloc o).heap.size (w.alloc o) w5) : W4.heap.size ≤ w.heap.size := h.1.size
theorem eq_box {w w5 : World} {cs : Array Value} {t : TypeId} (hb : Below (w.alloc (.cells cs t)).heap.size (w.alloc (.cells cs t)) w5) : w5.heap[w.heap.size]? = some (.cells cs t (0, 0)) :=
  (hb.block _ (by simp)).trans (heap_alloc_new _ _)
/-- where a region's leaf leaves the state -/
theorem EqSt.leaf {W w o w5 wf : World} {k g gc gw gv : Nat} {c : Nat → Nat} {D0 D E X : Dk.D} {sw sv v : Value} (h : EqSt W k c w g gc gw gv D0 D E sw sv) (hw : w.heap.size ≤ o.heap.size) (hb : Below w.heap.size w wf) (hr : RfD (eqNew c w o) w5 v X) (hs : w5.heap.size ≤ wf.heap.size) (hk : ∀ b, b < w5.heap.size → eqNew c w o b = 0 → wf.heap[b]? = w5.heap[b]?) :
    EqSt W k (eqNew c w o) wf g gc gw gv D0 D E sw sv ∧ RfD (eqNew c w o) wf v X :=
  ⟨h.chg (m := 11) (Chg.of_below' hb (fun _ hx => eqNew_old hw hx)) (by decide) (by decide) (by decide) (by decide), hr.keep hs (fun b hx h0 => ⟨hk b hx h0, h0⟩)⟩
/-- the box made before the callee -/
theorem EqSt.leaf_store {W w o w5 : World} {k b g gc gw gv : Nat} {c : Nat → Nat} {D0 D E X : Dk.D} {sw sv v v0 v1 v2 x0 x1 x2 : Value} (h : EqSt W k c w g gc gw gv D0 D E sw sv) (hw : Below w.heap.size w o) (ho : Below o.heap.size o w5) (hr : RfD (eqNew c w o) w5 v X) (hbw : w.heap.size ≤ b) (hbo : b < o.heap.size)
    (row : w5.heap[b]? = some (.cells #[x0, x1, x2] 27 (0, 0))) :
    (((w5.setCell ⟨b, 0, none⟩ v0).setCell ⟨b, 1, none⟩ v1).setCell ⟨b, 2, none⟩ v2).heap[b]? = some (.cells #[v0, v1, v2] 27 (0, 0)) ∧ EqSt W k (eqNew c w o) (((w5.setCell ⟨b, 0, none⟩ v0).setCell ⟨b, 1, none⟩ v1).setCell ⟨b, 2, none⟩ v2) g gc gw gv D0 D E sw sv ∧ RfD (eqNew c w o) (((w5.setCell ⟨b, 0, none⟩ v0).setCell ⟨b, 1, none⟩ v1).setCell ⟨b, 2, none⟩ v2) v X ∧ eqNew c w o b ≠ 5 := by
  have hgr := rf_store3_grown (w := w5) (b := b) (v0 := v0) (v1 := v1) (v2 := v2)
  have hl := hw.trans (ho.mono hw.size)
  obtain ⟨q1, q2⟩ := h.leaf hw.size (hl.grown hgr hl.size (by intro x hx; cases hx; exact hbw)) hr hgr.size (fun x hx h0 => hgr.block x hx (by intro e; injection e with e; subst e; rw [eqNew_mid hbw hbo] at h0; cases h0))
  exact ⟨rf_store3 row, q1, q2, by rw [eqNew_mid hbw hbo]; decide⟩
/-- the box made behind the callee -/
theorem EqSt.leaf_new {W w o w5 : World} {k g gc gw gv : Nat} {c : Nat → Nat} {D0 D E X : Dk.D} {sw sv v : Value} (h : EqSt W k c w g gc gw gv D0 D E sw sv) (hw : Below w.heap.size w o) (ho : Below o.heap.size o w5) (hr : RfD (eqNew c w o) w5 v X) (ob : Obj) :
    EqSt W k (eqNew c w o) (w5.alloc ob) g gc gw gv D0 D E sw sv ∧ RfD (eqNew c w o) (w5.alloc ob) v X ∧ eqNew c w o w5.heap.size ≠ 5 := by
  have hl := hw.trans (ho.mono hw.size)
  have ha : Below w5.heap.size w5 (w5.alloc ob) := (Below.refl _ _).alloc (Nat.le_refl _) _
  obtain ⟨q1, q2⟩ := h.leaf hw.size (hl.trans (ha.mono hl.size)) hr ha.size (fun x hx _ => ha.block x hx)
  exact ⟨q1, q2, by unfold eqNew; rw [pnt_new ho.size]; decide⟩

/-- what stays through a step of the round -/
theorem eq_R_step {W4 w w3 : World} {gv pg po : Nat} {y0 y1 y2 z0 z1 z2 z3 z4 : Value} (h : Below W4.heap.size W4 w ∧ w.cell? ⟨gv, 0, none⟩ = some y0 ∧ w.cell? ⟨gv, 1, none⟩ = some y1 ∧ w.cell? ⟨gv, 2, none⟩ = some y2 ∧ w.cell? ⟨pg, po, none⟩ = some z0 ∧ w.cell? ⟨pg, po + 1, none⟩ = some z1 ∧ w.cell? ⟨pg, po + 2, none⟩ = some z2 ∧ w.cell? ⟨pg, po + 3, none⟩ = some z3 ∧ w.cell? ⟨pg, po + 4, none⟩ = some z4)
    (hb : Below w.heap.size w w3) :
    Below W4.heap.size W4 w3 ∧ w3.cell? ⟨gv, 0, none⟩ = some y0 ∧ w3.cell? ⟨gv, 1, none⟩ = some y1 ∧ w3.cell? ⟨gv, 2, none⟩ = some y2 ∧ w3.cell? ⟨pg, po, none⟩ = some z0 ∧ w3.cell? ⟨pg, po + 1, none⟩ = some z1 ∧ w3.cell? ⟨pg, po + 2, none⟩ = some z2 ∧ w3.cell? ⟨pg, po + 3, none⟩ = some z3 ∧ w3.cell? ⟨pg, po + 4, none⟩ = some z4 := by
  obtain ⟨h1, b0, b1, b2, c0, c1, c2, c3, c4⟩ := h
  exact ⟨h1.trans (hb.mono h1.size), (hb.cell (World.block_lt_of_cell? w _ b0)).trans b0, (hb.cell (World.block_lt_of_cell? w _ b1)).trans b1, (hb.cell (World.block_lt_of_cell? w _ b2)).trans b2,
    (hb.cell (World.block_lt_of_cell? w _ c0)).trans c0, (hb.cell (World.block_lt_of_cell? w _ c1)).trans c1, (hb.cell (World.block_lt_of_cell? w _ c2)).trans c2, (hb.cell (World.block_lt_of_cell? w _ c3)).trans c3, (hb.cell (World.block_lt_of_cell? w _ c4)).trans c4⟩

/-- what stays through the five questions -/
theorem eq_S_step {W4 w w3 : World} {gw gv : Nat} {x0 x1 x2 y0 y1 y2 : Value} (h : Below W4.heap.size W4 w ∧ w.cell? ⟨gw, 0, none⟩ = some x0 ∧ w.cell? ⟨gw, 1, none⟩ = some x1 ∧ w.cell? ⟨gw, 2, none⟩ = some x2 ∧ w.cell? ⟨gv, 0, none⟩ = some y0 ∧ w.cell? ⟨gv, 1, none⟩ = some y1 ∧ w.cell? ⟨gv, 2, none⟩ = some y2)
    (hb : Below w.heap.size w w3) :
    Below W4.heap.size W4 w3 ∧ w3.cell? ⟨gw, 0, none⟩ = some x0 ∧ w3.cell? ⟨gw, 1, none⟩ = some x1 ∧ w3.cell? ⟨gw, 2, none⟩ = some x2 ∧ w3.cell? ⟨gv, 0, none⟩ = some y0 ∧ w3.cell? ⟨gv, 1, none⟩ = some y1 ∧ w3.cell? ⟨gv, 2, none⟩ = some y2 := by
  obtain ⟨h1, a0, a1, a2, b0, b1, b2⟩ := h
  exact ⟨h1.trans (hb.mono h1.size), (hb.cell (World.block_lt_of_cell? w _ a0)).trans a0, (hb.cell (World.block_lt_of_cell? w _ a1)).trans a1, (hb.cell (World.block_lt_of_cell? w _ a2)).trans a2,
    (hb.cell (World.block_lt_of_cell? w _ b0)).trans b0, (hb.cell (World.block_lt_of_cell? w _ b1)).trans b1, (hb.cell (World.block_lt_of_cell? w _ b2)).trans b2⟩

/-- the colours 0, 1, 5, 7 alone -/
def eqCol5 (c : Nat → Nat) (b : Nat) : Nat := if c b = 0 then 0 else if c b = 1 then 1 else if c b = 5 then 5 else 7
theorem eqCol5_zero {c : Nat → Nat} {b : Nat} (h : c b = 0) : eqCol5 c b = 0 := by unfold eqCol5; rw [if_pos h]
theorem eqCol5_one {c : Nat → Nat} {b : Nat} (h : c b = 1) : eqCol5 c b = 1 := by unfold eqCol5; rw [if_neg (by omega), if_pos h]
theorem eqCol5_five {c : Nat → Nat} {b : Nat} (h : c b = 5) : eqCol5 c b = 5 := by unfold eqCol5; rw [if_neg (by omega), if_neg (by omega), if_pos h]
theorem eqCol5_seven {c : Nat → Nat} {b : Nat} (h : c b = 7) : eqCol5 c b = 7 := by unfold eqCol5; rw [if_neg (by omega), if_neg (by omega), if_neg (by omega)]
theorem eqCol5_free (c : Nat → Nat) (b : Nat) : eqCol5 c b ≠ 13 ∧ eqCol5 c b ≠ 17 := by unfold eqCol5; split <;> (try split) <;> (try split) <;> omega
theorem EqSt.col5 {W w : World} {k g gc gw gv : Nat} {c : Nat → Nat} {D0 D E : Dk.D} {sw sv : Value} (h : EqSt W k c w g gc gw gv D0 D E sw sv) : EqSt W k (eqCol5 c) w g gc gw gv D0 D E sw sv :=
  ⟨h.d.recol (fun _ h => eqCol5_zero h) (fun _ h => eqCol5_one h), h.cl.recol (fun _ h => eqCol5_zero h) (fun _ h => eqCol5_five h),
    h.rw.keep (Nat.le_refl _) (fun _ _ h0 => ⟨rfl, eqCol5_zero h0⟩), h.rv.keep (Nat.le_refl _) (fun _ _ h0 => ⟨rfl, eqCol5_zero h0⟩), h.roww, h.rowv, eqCol5_seven h.colw, eqCol5_seven h.colv, h.ne, h.neww, h.newv,
    ⟨h.kn.1, fun b hb => eqCol5_zero (h.kn.2 b hb)⟩, h.good, h.goodv, h.nice⟩

set_option maxRecDepth 100000 in
set_option maxHeartbeats 4000000 in
theorem law_equal (W : World) (v0 v1 : Value) (l m : List Dk.Raw) (hl : OpsAt W v0 l) (hm : OpsAt W v1 m) :
    Calls Tryz.prog 9 #[v0, v1] W fun e W' => e = .returned (.bool true) ∧ Below W.heap.size W W' := by
  have n0 := dk_run (RunCtx.first W 1 7 (by decide) (by decide) (by decide)) v0 l hl
  have HM := Lib.hid hm
  have HL := Lib.hid hl
  obtain ⟨a0, cap0, rfl, hpl, hp⟩ := hm
  have HP := Lib.hid hp
  have HN0 := Lib.hid (Dk.runD_nice l)
  have HN1 := Lib.hid (Dk.runD_nice m)
  clear hl hp
  go_enter Tryz.func9, Tryz.ntmps9
  go_wp2_with fail
  refine n0.mono ?_
  rintro e W1 ⟨c1, g, v, rfl, d1, r1, gd, b1, cols⟩
  have K1 : Kn W W1 c1 := ⟨b1, cols⟩
  obtain ⟨D, hD⟩ : ∃ D, D = Dk.runD l := ⟨_, rfl⟩
  have HD0 := Lib.hid hD
  rw [← hD] at d1 r1 gd HN0
  obtain ⟨sa, sn, sc, rfl⟩ := r1.form
  clear n0 b1 cols hD
  have hA := Chg.alloc (i := 7) (c := c1) (W := W1) (.cells #[.slice sa sn sc, .int .i64 D.norm.bud, .bool D.norm.down] 27) 7
  have d2 := (d1.chg hA (by decide) (by decide)).recol (c' := eqCol (pnt c1 W1.heap.size 7)) (fun _ h => eqCol_zero h) (fun _ h => eqCol_one h)
  have r2 := (r1.chg hA (by decide)).keep (c' := eqCol (pnt c1 W1.heap.size 7)) (Nat.le_refl _) (fun _ _ h0 => ⟨rfl, eqCol_zero h0⟩)
  have K2 : Kn W _ (eqCol (pnt c1 W1.heap.size 7)) := ⟨(K1.chg hA (by decide)).1, fun b hb => eqCol_zero ((K1.chg hA (by decide)).2 b hb)⟩
  have row := heap_alloc_new W1 (.cells #[.slice sa sn sc, .int .i64 D.norm.bud, .bool D.norm.down] 27)
  have col : eqCol (pnt c1 W1.heap.size 7) W1.heap.size = 7 := eqCol_seven (pnt_new (Nat.le_refl _))
  have free := eqCol_free (pnt c1 W1.heap.size 7)
  obtain ⟨gw, hgw⟩ : ∃ gw, gw = W1.heap.size := ⟨_, rfl⟩
  have hnw : W.heap.size ≤ gw := by rw [hgw]; exact K1.1.size
  obtain ⟨W2, hW2⟩ : ∃ W2, W2 = W1.alloc (.cells #[.slice sa sn sc, .int .i64 D.norm.bud, .bool D.norm.down] 27) := ⟨_, rfl⟩
  rw [← hW2] at hA d2 r2 K2 row
  generalize eqCol (pnt c1 W1.heap.size 7) = c2 at *
  rw [← hgw] at row col
  have n1 := dk_run (W0 := W) (W := W2) (i0 := 3) (j0 := 9) (cc := c2) ⟨by decide, by decide, by decide, fun b _ => free b, K2⟩ (.slice a0 m.length cap0) m HM.out
  have HW2 := Lib.hid hW2
  have HGW := Lib.hid hgw
  have HROW := Lib.hid row
  have HR2 := Lib.hid r2
  have HD2 := Lib.hid d2
  have HK2 := Lib.hid K2
  have HNW := Lib.hid hnw
  clear hA d2 r2 row hW2 d1 r1 K1 hgw free K2 hnw
  go_wp2_with fail
  rw [← HW2.out, ← HGW.out]
  refine n1.mono ?_
  rintro e W3 ⟨c3, g2, v, rfl, o3, r3, gd3, b3, cols3⟩
  obtain ⟨E, hE⟩ : ∃ E, E = Dk.runD m := ⟨_, rfl⟩
  rw [← hE] at o3 r3 gd3 HN1
  obtain ⟨ta, tn, tc, rfl⟩ := r3.form
  clear n1 hE
  have h3 : Chg 11 c2 c3 W2 W3 := Chg.of_below' b3 cols3
  have hB := Chg.alloc (i := 11) (c := c3) (W := W3) (.cells #[.slice ta tn tc, .int .i64 E.norm.bud, .bool E.norm.down] 27) 7
  have d4 := (HD2.out.chg h3 (by decide) (by decide)).chg hB (by decide) (by decide)
  have o4 := o3.chg hB (by decide) (by decide)
  have rw4 := (HR2.out.chg h3 (by decide)).chg hB (by decide)
  have rv4 := r3.chg hB (by decide)
  have K4 := (HK2.out.chg h3 (by decide)).chg hB (by decide)
  have roww3 := (h3.block _ (Array.getElem?_eq_some_iff.1 HROW.out).1 (by rw [col]; decide)).trans HROW.out
  have colw3 := (h3.col _ (Array.getElem?_eq_some_iff.1 HROW.out).1).trans col
  have gwlt := (Array.getElem?_eq_some_iff.1 roww3).1
  have roww4 := (hB.block _ gwlt (by rw [colw3]; decide)).trans roww3
  have colw4 := (hB.col _ gwlt).trans colw3
  have rowv4 := heap_alloc_new W3 (.cells #[.slice ta tn tc, .int .i64 E.norm.bud, .bool E.norm.down] 27)
  have colv4 : pnt c3 W3.heap.size 7 W3.heap.size = 7 := pnt_new (Nat.le_refl _)
  obtain ⟨gv, hgv⟩ : ∃ gv, gv = W3.heap.size := ⟨_, rfl⟩
  have hnv : W.heap.size ≤ gv := by rw [hgv]; exact (HK2.out.chg h3 (by decide)).1.size
  have hnwv : gw ≠ gv := by omega
  obtain ⟨W4, hW4⟩ : ∃ W4, W4 = W3.alloc (.cells #[.slice ta tn tc, .int .i64 E.norm.bud, .bool E.norm.down] 27) := ⟨_, rfl⟩
  rw [← hW4] at d4 o4 rw4 rv4 K4 roww4 rowv4
  generalize pnt c3 W3.heap.size 7 = c4 at *
  rw [← hgv] at rowv4 colv4
  have HW4 := Lib.hid hW4
  have HGV := Lib.hid hgv
  clear h3 hB o3 r3 b3 cols3 roww3 colw3 gwlt hW4 hgv HD2 HR2 HROW HK2 col
  have mD : D.fs.length ≤ 40 := gd.many
  have mE : E.fs.length ≤ 40 := gd3.many
  obtain ⟨r0, hr0⟩ : ∃ r0 : Bool, (r0 = true ↔ D.budget = E.budget ∧ D.down = E.down ∧ D.fs = E.fs) := by
    by_cases h : D.budget = E.budget ∧ D.down = E.down ∧ D.fs = E.fs
    · exact ⟨true, by simp [h]⟩
    · exact ⟨false, by simp [h]⟩
  have hr1 : r0 = true ↔ E.budget = D.budget ∧ E.down = D.down ∧ E.fs = D.fs := hr0.trans ⟨fun h => ⟨h.1.symm, h.2.1.symm, h.2.2.symm⟩, fun h => ⟨h.1.symm, h.2.1.symm, h.2.2.symm⟩⟩
  have HQ1 : Hid (∀ o, Below W4.heap.size W4 o → Calls Tryz.prog 34 #[.pointer (some ⟨g, 0, none⟩), .pointer (some ⟨g2, 0, none⟩)] o fun e w' => e = .returned (.bool r0) ∧ Below o.heap.size o w') :=
    Lib.hid (fun o h => (dk_Equal (d4.keepB h) (o4.keepB h) (by omega) (by omega) d4.rising o4.rising).mono (fun e w' ⟨r, he, hr, hb⟩ => ⟨by rw [he, Dk.bool_same hr hr0 Iff.rfl], hb⟩))
  have HQ2 : Hid (∀ o, Below W4.heap.size W4 o → Calls Tryz.prog 35 #[.agg #[.slice sa sn sc, .int .i64 D.norm.bud, .bool D.norm.down], .agg #[.slice ta tn tc, .int .i64 E.norm.bud, .bool E.norm.down]] o fun e w' => e = .returned (.bool r0) ∧ Below o.heap.size o w') :=
    Lib.hid (fun o h => (rf_Same (rw4.below h) (rv4.below h)).mono (fun e w' ⟨r, he, hr, hb⟩ => ⟨by rw [he, Dk.bool_same hr hr0 (Dk.eq_asks D E (Dk.norm_budget D) (Dk.norm_budget E)).symm], hb⟩))
  have HQ3 : Hid (∀ o, Below W4.heap.size W4 o → Calls Tryz.prog 34 #[.pointer (some ⟨g2, 0, none⟩), .pointer (some ⟨g, 0, none⟩)] o fun e w' => e = .returned (.bool r0) ∧ Below o.heap.size o w') :=
    Lib.hid (fun o h => (dk_Equal (o4.keepB h) (d4.keepB h) (by omega) (by omega) o4.rising d4.rising).mono (fun e w' ⟨r, he, hr, hb⟩ => ⟨by rw [he, Dk.bool_same hr hr1 Iff.rfl], hb⟩))
  have HQ4 : Hid (∀ o, Below W4.heap.size W4 o → Calls Tryz.prog 35 #[.agg #[.slice ta tn tc, .int .i64 E.norm.bud, .bool E.norm.down], .agg #[.slice sa sn sc, .int .i64 D.norm.bud, .bool D.norm.down]] o fun e w' => e = .returned (.bool r0) ∧ Below o.heap.size o w') :=
    Lib.hid (fun o h => (rf_Same (rv4.below h) (rw4.below h)).mono (fun e w' ⟨r, he, hr, hb⟩ => ⟨by rw [he, Dk.bool_same hr hr1 (Dk.eq_asks E D (Dk.norm_budget E) (Dk.norm_budget D)).symm], hb⟩))
  have HQ5 : Hid (∀ o, Below W4.heap.size W4 o → Calls Tryz.prog 34 #[.pointer (some ⟨g, 0, none⟩), .pointer none] o fun e w' => e = .returned (.bool false) ∧ Below o.heap.size o w') :=
    Lib.hid (fun o _ => (dk_EqualNil o g).mono (fun e w' ⟨he, hw⟩ => ⟨he, by rw [← hw]; exact Below.refl _ _⟩))
  have HD4 := Lib.hid d4
  have HRW4 := Lib.hid rw4
  have HRV4 := Lib.hid rv4
  have HK4 := Lib.hid K4
  have HB4 := Lib.hid hnv
  have HNE := Lib.hid hnwv
  have HROWW := Lib.hid roww4
  have HROWV := Lib.hid rowv4
  have hB0 : Below W4.heap.size W4 W4 := Below.refl _ _
  clear hnv hnwv d4 o4 rw4 rv4 K4 hr0 hr1
  obtain ⟨x0, x1, x2⟩ := row_cells3 roww4
  obtain ⟨y0, y1, y2⟩ := row_cells3 rowv4
  clear roww4 rowv4
  cases r0
  all_goals
    go_wp2_with fail
    rw [← HW4.out, ← HGV.out]
    go_region_held3 (fun w' => Below W4.heap.size W4 w' ∧ w'.cell? ⟨gw, 0, none⟩ = some (.slice sa sn sc) ∧ w'.cell? ⟨gw, 1, none⟩ = some (.int .i64 D.norm.bud) ∧ w'.cell? ⟨gw, 2, none⟩ = some (.bool D.norm.down) ∧ w'.cell? ⟨gv, 0, none⟩ = some (.slice ta tn tc) ∧ w'.cell? ⟨gv, 1, none⟩ = some (.int .i64 E.norm.bud) ∧ w'.cell? ⟨gv, 2, none⟩ = some (.bool E.norm.down))
      (first | assumption | exact Below.drew (by assumption) | (refine ⟨?_, ?_, ?_, ?_, ?_, ?_, ?_⟩ <;> first | assumption | exact Below.drew (by assumption) | go_keep) | go_keep)
      (first
        | (go_at_call 34; with_reducible refine (HQ1.out _ (by apply And.left; assumption)).mono ?_; rintro e w3 ⟨rfl, hb3⟩; have hS3 := eq_S_step (by assumption) hb3)
        | (go_at_call 34; with_reducible refine (HQ3.out _ (by apply And.left; assumption)).mono ?_; rintro e w3 ⟨rfl, hb3⟩; have hS3 := eq_S_step (by assumption) hb3)
        | (go_at_call 34; with_reducible refine (HQ5.out _ (by apply And.left; assumption)).mono ?_; rintro e w3 ⟨rfl, hb3⟩; have hS3 := eq_S_step (by assumption) hb3)
        | (go_at_call 35; with_reducible refine (HQ2.out _ (by apply And.left; assumption)).mono ?_; rintro e w3 ⟨rfl, hb3⟩; have hS3 := eq_S_step (by assumption) hb3)
        | (go_at_call 35; with_reducible refine (HQ4.out _ (by apply And.left; assumption)).mono ?_; rintro e w3 ⟨rfl, hb3⟩; have hS3 := eq_S_step (by assumption) hb3))
    obtain ⟨hb5, -⟩ := hS3
    clear HQ1 HQ2 HQ3 HQ4 HQ5 hB0 x0 x1 x2 y0 y1 y2
    have nC := dk_Clone (HD4.out.keepB hb5) 5 (by decide) (by decide) (by omega)
    have HB5 := Lib.hid hb5
    clear hb5
    go_wp2_with fail
    refine nC.mono ?_
    rintro e w6 ⟨gc, c6, rfl, da, b6, cols6⟩
    have h6 : Chg 11 c4 c6 W4 w6 := (Chg.of_below_same HB5.out).trans (Chg.of_below' b6 cols6)
    have S6 : EqSt W 40 c6 w6 g gc gw gv D D E (.slice sa sn sc) (.slice ta tn tc) :=
      ⟨HD4.out.chg h6 (by decide) (by decide), da, HRW4.out.chg h6 (by decide), HRV4.out.chg h6 (by decide), (h6.block _ (Array.getElem?_eq_some_iff.1 HROWW.out).1 (by rw [colw4]; decide)).trans HROWW.out, (h6.block _ (Array.getElem?_eq_some_iff.1 HROWV.out).1 (by rw [colv4]; decide)).trans HROWV.out,
        (h6.col _ (Array.getElem?_eq_some_iff.1 HROWW.out).1).trans colw4, (h6.col _ (Array.getElem?_eq_some_iff.1 HROWV.out).1).trans colv4, HNE.out, HNW.out, HB4.out, HK4.out.chg h6 (by decide), gd, gd3, HN1.out⟩
    have HS6 := Lib.hid S6
    have HQ1 : Hid (∀ o, Below w6.heap.size w6 o → Calls Tryz.prog 34 #[.pointer (some ⟨gc, 0, none⟩), .pointer (some ⟨g, 0, none⟩)] o fun e w' => e = .returned (.bool true) ∧ Below o.heap.size o w') :=
      Lib.hid (fun o h => (dk_Equal (S6.cl.keepB h) (S6.d.keepB h) (by omega) (by omega) S6.cl.rising S6.d.rising).mono (fun e w' ⟨r, he, hr, hb⟩ => ⟨by rw [he, hr.2 ⟨rfl, rfl, rfl⟩], hb⟩))
    have HQ2 : Hid (∀ o, Below w6.heap.size w6 o → Calls Tryz.prog 34 #[.pointer (some ⟨g, 0, none⟩), .pointer (some ⟨gc, 0, none⟩)] o fun e w' => e = .returned (.bool true) ∧ Below o.heap.size o w') :=
      Lib.hid (fun o h => (dk_Equal (S6.d.keepB h) (S6.cl.keepB h) (by omega) (by omega) S6.d.rising S6.cl.rising).mono (fun e w' ⟨r, he, hr, hb⟩ => ⟨by rw [he, hr.2 ⟨rfl, rfl, rfl⟩], hb⟩))
    clear nC S6 da b6 cols6 h6 HB5 HD4 HRW4 HRV4 HROWW HROWV colw4 colv4 HK4 HB4 HNW HNE
    have hB0 : Below w6.heap.size w6 w6 := Below.refl _ _
    go_wp2_with fail
    refine (HQ1.out _ (Below.refl _ _)).mono ?_
    rintro e w7 ⟨rfl, b7⟩
    go_wp2_with fail
    refine (HQ2.out _ b7).mono ?_
    rintro e w8 ⟨rfl, b8⟩
    have HS8 := Lib.hid (HS6.out.below (b7.trans (b8.mono b7.size)))
    clear HQ1 HQ2 HS6 b7 b8 hB0
    go_wp2_with fail
    go_loopw [12] (fun iv wr => ∃ (i : Nat) (c : Nat → Nat) (Dc Ee : Dk.D) (sw sv : Value), iv = .int .i64 i ∧ i ≤ m.length ∧ i ≤ 40 ∧ Hid (EqSt W (40 + i) c wr g gc gw gv D Dc Ee sw sv)) (fun iv _ => m.length - (RowKit.intOf iv).toNat)
    case atStart => exact ⟨0, c6, D, E, _, _, rfl, Nat.zero_le _, by decide, HS8⟩
    case round =>
      obtain ⟨i, c, Dc, Ee, sw, sv, rfl, hi, hi40, HS⟩ := hrel
      by_cases hlt : i < m.length ∧ i < 40
      · obtain ⟨h1, h2⟩ := hlt
        obtain ⟨r, hrd⟩ : ∃ r, r = m[i] := ⟨_, rfl⟩
        obtain ⟨pg, poff, bv, rfl, hpg, hoc, hro, hrb⟩ := HP.out i r (by rw [hrd]; exact List.getElem?_eq_getElem h1)
        obtain ⟨p0, p1, p2, p3, p4⟩ := hoc.below HS.out.kn.1 hpg
        obtain ⟨ba, bc, rfl⟩ := hrb.form
        have HSM := Lib.hid (eq_small HS.out.kn r hro.k1 hro.k2 _ hrb)
        have hnn := hro.name
        have htt := hro.tn
        have hn2 := Dk.small_n r hro.n2
        unfold rawVal at HSM
        have HRB := Lib.hid hrb
        have HOC := Lib.hid hoc
        have HPG := Lib.hid hpg
        have HRO := Lib.hid hro
        clear hrb hoc hrd hro hpg
        have HDV := Lib.hid (fun o hb bv hbv => eq_Do_v HS.out (by omega) r hnn htt o hb bv hbv)
        obtain ⟨y0, y1, y2⟩ := row_cells3 HS.out.rowv
        obtain ⟨ta, tn, tc, rfl⟩ := HS.out.rv.form3
        obtain ⟨sa, sn, sc, rfl⟩ := HS.out.rw.form3
        have hB0 : Below wr.heap.size wr wr := Below.refl _ _
        have hgvl := World.block_lt_of_cell? wr _ y0
        have hpgl := World.block_lt_of_cell? wr _ p0
        simp only [] at hgvl hpgl
        go_upto_region 13 with fail
        go_cut [13, 14] (fun x k wx => ∃ (b : Nat) (c' : Nat → Nat) (va : Option Addr) (vn vc : Nat), x = .pointer (some ⟨b, 0, none⟩) ∧ k = .int .i64 (Ee.act (Dk.small r)).2 ∧ Hid (wx.heap[b]? = some (.cells #[.slice va vn vc, .int .i64 (Ee.act (Dk.small r)).1.norm.bud, .bool (Ee.act (Dk.small r)).1.norm.down] 27 (0, 0))) ∧ Hid (EqSt W (40 + i) c' wx g gc gw gv D Dc Ee (.slice sa sn sc) (.slice ta tn tc)) ∧ Hid (RfD c' wx (.agg #[.slice va vn vc, .int .i64 (Ee.act (Dk.small r)).1.norm.bud, .bool (Ee.act (Dk.small r)).1.norm.down]) (Ee.act (Dk.small r)).1.norm))
        case first =>
          go_region_held3 (fun w' => Below wr.heap.size wr w' ∧ w'.cell? ⟨gv, 0, none⟩ = some (.slice ta tn tc) ∧ w'.cell? ⟨gv, 1, none⟩ = some (.int .i64 Ee.norm.bud) ∧ w'.cell? ⟨gv, 2, none⟩ = some (.bool Ee.norm.down) ∧ w'.cell? ⟨pg, poff + i * 5, none⟩ = some (.int .i64 r.kind) ∧ w'.cell? ⟨pg, poff + i * 5 + 1, none⟩ = some (.string r.name) ∧ w'.cell? ⟨pg, poff + i * 5 + 2, none⟩ = some (.string r.to) ∧ w'.cell? ⟨pg, poff + i * 5 + 3, none⟩ = some (.int .i64 r.n) ∧ w'.cell? ⟨pg, poff + i * 5 + 4, none⟩ = some (.slice ba r.b.length bc))
            (first | assumption | exact Below.drew (by assumption) | exact eq_R_store (by assumption) hgvl hpgl (by assumption) | exact eq_R_step (by assumption) ((Below.refl _ _).alloc (Nat.le_refl _) _) | (refine ⟨?_, ?_, ?_, ?_, ?_, ?_, ?_, ?_, ?_⟩ <;> first | assumption | exact Below.drew (by assumption) | go_keep) | go_keep)
            (first
              | (go_at_call 27; refine (HSM.out _ (by apply And.left; assumption)).mono ?_; rintro e w3 ⟨xa, xn, xc, rfl, hbx, hb3⟩; have hS3 := eq_R_step (by assumption) hb3; (first | (have hbox := eq_box hb3; have hbl : wr.heap.size ≤ wr.drew.heap.size := Nat.le_refl _) | (have hbox := eq_box_d hb3; have hbl : wr.heap.size ≤ wr.heap.size := Nat.le_refl _) | skip))
              | (go_at_call 28; refine (HDV.out _ (by apply And.left; assumption) _ (by assumption)).mono ?_; rintro e w5 ⟨va, vn, vc, rfl, hr5, hb5⟩; have hS5 := eq_R_step (by assumption) hb5; (first | (have hbox := eq_box hb5; have hbl : wr.heap.size ≤ _ := eq_le (by assumption) hb5) | (have hbox := (hb5.block _ (Array.getElem?_eq_some_iff.1 hbox).1).trans hbox) | skip); (try (obtain ⟨q0, q1, q2⟩ := row_cells3 hbox; have z0 := dk_frozen _ _ 0 _ _ hbox; have z1 := dk_frozen _ _ 1 _ _ hbox; have z2 := dk_frozen _ _ 2 _ _ hbox))))
          · obtain ⟨e1, e2, -⟩ := HS.out.leaf_new (And.left hS3) hb5 hr5 (.cells #[.slice va vn vc, .int .i64 (Ee.act (Dk.small r)).1.norm.bud, .bool (Ee.act (Dk.small r)).1.norm.down] 27)
            go_wp2_with fail
            go_meet
            case rel => exact ⟨_, _, _, _, _, rfl, rfl, Lib.hid (heap_alloc_new _ _), Lib.hid e1, Lib.hid e2⟩
          · obtain ⟨e0, e1, e2, -⟩ := HS.out.leaf_store (b := w3.heap.size) (v0 := .slice va vn vc) (v1 := .int .i64 (Ee.act (Dk.small r)).1.norm.bud) (v2 := .bool (Ee.act (Dk.small r)).1.norm.down) ((And.left hS3).alloc (And.left hS3).size _) hb5 hr5 (And.left hS3).size (by simp) hbox
            go_wp2_with fail
            go_meet
            case rel => exact ⟨_, _, _, _, _, rfl, rfl, Lib.hid e0, Lib.hid e1, Lib.hid e2⟩
          · obtain ⟨e0, e1, e2, -⟩ := HS.out.leaf_store (b := wr.heap.size) (v0 := .slice va vn vc) (v1 := .int .i64 (Ee.act (Dk.small r)).1.norm.bud) (v2 := .bool (Ee.act (Dk.small r)).1.norm.down) (And.left hS3) hb5 hr5 (Nat.le_refl _) (Nat.lt_of_lt_of_le (by show wr.heap.size < (wr.alloc (.cells #[.slice none 0 0, .int .i64 0, .bool false] 27)).heap.size; simp) hb3.size) hbox
            go_wp2_with fail
            go_meet
            case rel => exact ⟨_, _, _, _, _, rfl, rfl, Lib.hid e0, Lib.hid e1, Lib.hid e2⟩
        case rest =>
          obtain ⟨b, c5, va, vn, vc, rfl, rfl, HX, HS5, HR5⟩ := hcut
          have hg5 := HS5.out.goodv.act (Dk.small r) hn2
          have hn5 := HS5.out.nice.act (Dk.small r)
          have HS6 := Lib.hid (HS5.out.putv HR5.out hg5 hn5)
          obtain ⟨x0, x1, x2⟩ := row_cells3 HX.out
          have z0 := dk_frozen _ _ 0 _ _ HS5.out.rowv
          have z1 := dk_frozen _ _ 1 _ _ HS5.out.rowv
          have z2 := dk_frozen _ _ 2 _ _ HS5.out.rowv
          obtain ⟨y0, y1, y2⟩ := row_cells3 HS5.out.rowv
          clear HR5 hg5 hn5 HSM HDV p0 p1 p2 p3 p4 hB0 hgvl hpgl
          obtain ⟨w6, hw6⟩ : ∃ w6, w6 = (((wc.setCell ⟨gv, 0, none⟩ (.slice va vn vc)).setCell ⟨gv, 1, none⟩ (.int .i64 (Ee.act (Dk.small r)).1.norm.bud)).setCell ⟨gv, 2, none⟩ (.bool (Ee.act (Dk.small r)).1.norm.down)) := ⟨_, rfl⟩
          rw [← hw6] at HS6
          have HW6 := Lib.hid hw6
          clear hw6
          go_wp2_with fail
          rw [← HW6.out]
          have HGC := Lib.hid (HS.out.good.act (Dk.small r) hn2)
          clear x0 x1 x2 y0 y1 y2 z0 z1 z2 HX HS5 HS
          obtain ⟨p0, p1, p2, p3, p4⟩ := HOC.out.below HS6.out.kn.1 HPG.out
          have HSM := Lib.hid (eq_small HS6.out.kn r HRO.out.k1 HRO.out.k2 _ HRB.out)
          unfold rawVal at HSM
          have HDW := Lib.hid (fun o hb bv hbv => eq_Do_w HS6.out (by omega) r hnn htt o hb bv hbv)
          obtain ⟨y0, y1, y2⟩ := row_cells3 HS6.out.roww
          have hB0 : Below w6.heap.size w6 w6 := Below.refl _ _
          have hgvl := World.block_lt_of_cell? w6 _ y0
          have hpgl := World.block_lt_of_cell? w6 _ p0
          simp only [] at hgvl hpgl
          go_upto_region 15 with fail
          go_cut [15, 16] (fun x k wx => ∃ (b : Nat) (c' : Nat → Nat) (ua : Option Addr) (un uc : Nat), x = .pointer (some ⟨b, 0, none⟩) ∧ k = .int .i64 (Dc.act (Dk.small r)).2 ∧ Hid (wx.heap[b]? = some (.cells #[.slice ua un uc, .int .i64 (Dc.act (Dk.small r)).1.norm.bud, .bool (Dc.act (Dk.small r)).1.norm.down] 27 (0, 0))) ∧ Hid (EqSt W (40 + i + 1) c' wx g gc gw gv D Dc (Ee.act (Dk.small r)).1 (.slice sa sn sc) (.slice va vn vc)) ∧ Hid (RfD c' wx (.agg #[.slice ua un uc, .int .i64 (Dc.act (Dk.small r)).1.norm.bud, .bool (Dc.act (Dk.small r)).1.norm.down]) (Dc.act (Dk.small r)).1.norm) ∧ c' b ≠ 5)
          case first =>
            go_region_held3 (fun w' => Below w6.heap.size w6 w' ∧ w'.cell? ⟨gw, 0, none⟩ = some (.slice sa sn sc) ∧ w'.cell? ⟨gw, 1, none⟩ = some (.int .i64 Dc.norm.bud) ∧ w'.cell? ⟨gw, 2, none⟩ = some (.bool Dc.norm.down) ∧ w'.cell? ⟨pg, poff + i * 5, none⟩ = some (.int .i64 r.kind) ∧ w'.cell? ⟨pg, poff + i * 5 + 1, none⟩ = some (.string r.name) ∧ w'.cell? ⟨pg, poff + i * 5 + 2, none⟩ = some (.string r.to) ∧ w'.cell? ⟨pg, poff + i * 5 + 3, none⟩ = some (.int .i64 r.n) ∧ w'.cell? ⟨pg, poff + i * 5 + 4, none⟩ = some (.slice ba r.b.length bc))
              (first | assumption | exact Below.drew (by assumption) | exact eq_R_store (by assumption) hgvl hpgl (by assumption) | exact eq_R_step (by assumption) ((Below.refl _ _).alloc (Nat.le_refl _) _) | (refine ⟨?_, ?_, ?_, ?_, ?_, ?_, ?_, ?_, ?_⟩ <;> first | assumption | exact Below.drew (by assumption) | go_keep) | go_keep)
              (first
                | (go_at_call 27; refine (HSM.out _ (by apply And.left; assumption)).mono ?_; rintro e w3 ⟨xa, xn, xc, rfl, hbx, hb3⟩; have hS3 := eq_R_step (by assumption) hb3; (first | (have hbox := eq_box hb3; have hbl : w6.heap.size ≤ w6.drew.heap.size := Nat.le_refl _) | (have hbox := eq_box_d hb3; have hbl : w6.heap.size ≤ w6.heap.size := Nat.le_refl _) | skip))
                | (go_at_call 28; refine (HDW.out _ (by apply And.left; assumption) _ (by assumption)).mono ?_; rintro e w5 ⟨ua, un, uc, rfl, hr5, hb5⟩; have hS5 := eq_R_step (by assumption) hb5; (first | (have hbox := eq_box hb5; have hbl : w6.heap.size ≤ _ := eq_le (by assumption) hb5) | (have hbox := (hb5.block _ (Array.getElem?_eq_some_iff.1 hbox).1).trans hbox) | skip); (try (obtain ⟨q0, q1, q2⟩ := row_cells3 hbox; have z0 := dk_frozen _ _ 0 _ _ hbox; have z1 := dk_frozen _ _ 1 _ _ hbox; have z2 := dk_frozen _ _ 2 _ _ hbox))))
            · obtain ⟨e1, e2, e3⟩ := HS6.out.leaf_new (And.left hS3) hb5 hr5 (.cells #[.slice ua un uc, .int .i64 (Dc.act (Dk.small r)).1.norm.bud, .bool (Dc.act (Dk.small r)).1.norm.down] 27)
              go_wp2_with fail
              go_meet
              case rel => exact ⟨_, _, _, _, _, rfl, rfl, Lib.hid (heap_alloc_new _ _), Lib.hid e1, Lib.hid e2, e3⟩
            · obtain ⟨e0, e1, e2, e3⟩ := HS6.out.leaf_store (b := w3.heap.size) (v0 := .slice ua un uc) (v1 := .int .i64 (Dc.act (Dk.small r)).1.norm.bud) (v2 := .bool (Dc.act (Dk.small r)).1.norm.down) ((And.left hS3).alloc (And.left hS3).size _) hb5 hr5 (And.left hS3).size (by simp) hbox
              go_wp2_with fail
              go_meet
              case rel => exact ⟨_, _, _, _, _, rfl, rfl, Lib.hid e0, Lib.hid e1, Lib.hid e2, e3⟩
            · obtain ⟨e0, e1, e2, e3⟩ := HS6.out.leaf_store (b := w6.heap.size) (v0 := .slice ua un uc) (v1 := .int .i64 (Dc.act (Dk.small r)).1.norm.bud) (v2 := .bool (Dc.act (Dk.small r)).1.norm.down) (And.left hS3) hb5 hr5 (Nat.le_refl _) (Nat.lt_of_lt_of_le (by show w6.heap.size < (w6.alloc (.cells #[.slice none 0 0, .int .i64 0, .bool false] 27)).heap.size; simp) hb3.size) hbox
              go_wp2_with fail
              go_meet
              case rel => exact ⟨_, _, _, _, _, rfl, rfl, Lib.hid e0, Lib.hid e1, Lib.hid e2, e3⟩
          case rest =>
            obtain ⟨b2, c7, ua, un, uc, rfl, rfl, HX, HS7, HR7, hcb⟩ := hcut
            clear HSM HDW p0 p1 p2 p3 p4 hB0 hgvl hpgl y0 y1 y2 HS6 HW6
            obtain ⟨p0, p1, p2, p3, p4⟩ := HOC.out.below HS7.out.kn.1 HPG.out
            have HSM := Lib.hid (eq_small HS7.out.kn r HRO.out.k1 HRO.out.k2 _ HRB.out)
            unfold rawVal at HSM
            go_wp2_with fail
            refine (HSM.out _ (Below.refl _ _)).mono ?_
            rintro e w8 ⟨xa, xn, xc, rfl, hbx, hb8⟩
            have S8 := HS7.out.below hb8
            have n9 := dk_Do S8.cl (S8.good.fits (by omega)) (Dk.small r) (Dk.small_kind r) hnn htt _ (eq_rdc S8.kn hbx) (Dk.small_b r)
            unfold opVal at n9
            have HS8 := Lib.hid S8
            have HR8 := Lib.hid (HR7.out.below hb8)
            have HX8 := Lib.hid ((hb8.block _ (Array.getElem?_eq_some_iff.1 HX.out).1).trans HX.out)
            clear S8 hb8 HX HS7 HR7 HSM p0 p1 p2 p3 p4
            go_wp2_with fail
            refine n9.mono ?_
            rintro e w9 ⟨c9, rfl, d9, h9⟩
            have hx9 := (h9.block _ (Array.getElem?_eq_some_iff.1 HX8.out).1 hcb).trans HX8.out
            have hw9 := (h9.block _ (Array.getElem?_eq_some_iff.1 HS8.out.roww).1 (by rw [HS8.out.colw]; decide)).trans HS8.out.roww
            have HS10 := Lib.hid (HS8.out.putw d9 h9 HR8.out HGC.out (Nat.le_refl _))
            obtain ⟨x0, x1, x2⟩ := row_cells3 hx9
            obtain ⟨y0, y1, y2⟩ := row_cells3 hw9
            have z0 := dk_frozen _ _ 0 _ _ hw9
            have z1 := dk_frozen _ _ 1 _ _ hw9
            have z2 := dk_frozen _ _ 2 _ _ hw9
            clear n9 d9 h9 hx9 hw9 HS8 HR8 HX8 HGC hcb
            go_wp2_with fail
            exact ⟨⟨i + 1, c9, _, _, _, _, by go_num, by omega, by omega, by rw [← Nat.add_assoc]; exact HS10⟩, by simp [RowKit.intOf]; omega⟩
      · obtain ⟨sa1, sn1, sc1, rfl⟩ := HS.out.rw.form3
        have S1 := HS.out.col5
        have n4 := dk_run (W0 := W) (W := wr) (i0 := 13) (j0 := 17) (cc := eqCol5 c) ⟨by decide, by decide, by decide, fun b _ => eqCol5_free c b, S1.kn⟩ v0 l HL.out
        have HS1 := Lib.hid S1
        clear S1 HS
        by_cases h1 : i < m.length
        all_goals
          try (have h40 : 40 ≤ i := by omega)
          clear hlt
          go_wp2_with fail
          refine n4.mono ?_
          rintro e w4 ⟨c4, g4, v4, rfl, e4, r4, gd4, b4, cols4⟩
          rw [← HD0.out] at e4 r4 gd4
          obtain ⟨fa, fn, fc, rfl⟩ := r4.form
          have S4 := HS1.out.chg (m := 11) (Chg.of_below' b4 cols4) (by decide) (by decide) (by decide) (by decide)
          have hbud := Dk.norm_bud_ge HN0.out
          have hA := Chg.alloc (i := 11) (c := c4) (W := w4) (.cells #[.slice fa fn fc, .int .i64 D.norm.bud, .bool D.norm.down] 27) 7
          have e5 := e4.chg hA (by decide) (by decide)
          have S5 := S4.chg hA (by decide) (by decide) (by decide) (by decide)
          have n5 := dk_Equal e5 S5.d (by omega) (by omega) e5.rising S5.d.rising
          have HS5 := Lib.hid S5
          clear n4 b4 cols4 r4 hA e4 e5 S4 S5 HS1 gd4
          go_wp2_with fail
          refine n5.mono ?_
          rintro e w6 ⟨r6, rfl, hr6, b6⟩
          obtain rfl : r6 = true := by simpa using hr6
          have S6 := HS5.out.below b6
          have n6 := rf_same S6.cl S6.rw (by have := S6.good.many; omega) S6.good.names
          obtain ⟨y0, y1, y2⟩ := row_cells3 S6.roww
          have HK6 := Lib.hid S6.kn.1
          clear n5 b6 HS5 S6 hr6
          go_wp2_with fail
          refine n6.mono ?_
          rintro e w7 ⟨rfl, b7⟩
          clear n6 y0 y1 y2
          go_wp2_with fail
          refine (dk_known w7).mono ?_
          rintro e w8 ⟨rfl, b8⟩
          go_wp2_with fail
          go_ret
          have k7 := HK6.out.trans (b7.mono HK6.out.size)
          exact ⟨rfl, k7.trans (b8.mono k7.size)⟩

end Go.Proofs.YtegahpgnmeobhaaGreatDoor
