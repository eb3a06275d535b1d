/-
  girolaw10.run: operations on a new disk and on the reference.
-/
import Derived.Test.YtegahpgnmeobhaaGreatDoorLawOps
namespace Go.Proofs.YtegahpgnmeobhaaGreatDoor
open Go.RowKit

namespace Dk
/-- the disk behind at most 40 operations -/
def runD (l : List Raw) : D := (l.take 40).foldl (fun d r => (d.act (small r)).1) ⟨[], -1, false⟩
def runK (l : List Raw) (k : Nat) : D := (l.take k).foldl (fun d r => (d.act (small r)).1) ⟨[], -1, false⟩
theorem runK_next (l : List Raw) (k : Nat) (h : k < l.length) : runK l (k + 1) = ((runK l k).act (small l[k])).1 := by
  unfold runK
  rw [List.take_add_one, List.getElem?_eq_getElem h, List.foldl_append]
  rfl
theorem runK_end (l : List Raw) (k : Nat) (h : ¬ (k < l.length ∧ k < 40)) (hl : k ≤ l.length) (h40 : k ≤ 40) : runK l k = runD l := by
  unfold runK runD
  by_cases h1 : k < l.length
  · obtain rfl : k = 40 := by omega
    rfl
  · rw [List.take_of_length_le (by omega), List.take_of_length_le (by omega)]
end Dk

/-- a law's beginning W0, a run's beginning Wk, colours that are free there -/
structure RunCtx (W0 Wk : World) (i j : Nat) (c0 : Nat → Nat) : Prop where
  hi : i ≠ 0
  hj : j ≠ 0
  hij : i ≠ j
  free : ∀ b, b < Wk.heap.size → c0 b ≠ i ∧ c0 b ≠ j
  kn : Kn W0 Wk c0

structure StR (W0 Wk : World) (i j : Nat) (c0 : Nat → Nat) (k : Nat) (c : Nat → Nat) (w : World) (g gw : Nat) (D : Dk.D) (sv : Value) : Prop where
  disk : DiskAt i c w g D
  ref : RfD c w (.agg #[sv, .int .i64 D.norm.bud, .bool D.norm.down]) D.norm
  row : w.heap[gw]? = some (.cells #[sv, .int .i64 D.norm.bud, .bool D.norm.down] 27 (0, 0))
  col : c gw = j
  good : Dk.Good k D
  kn : Kn W0 w c
  low : Below Wk.heap.size Wk w
  cols : ∀ b, b < Wk.heap.size → c b = c0 b
  new : Wk.heap.size < gw
  res : w.heap[Wk.heap.size]? = some (.cells #[.slice none 0 0, .int .i64 0, .bool false] 27 (0, 0))
  resc : c Wk.heap.size = j

theorem StR.paint {W0 Wk w : World} {i j k g gw : Nat} {c0 c : Nat → Nat} {D : Dk.D} {sv : Value} (h : StR W0 Wk i j c0 k c w g gw D sv) : StR W0 Wk i j c0 k (pnt c w.heap.size 0) w g gw D sv :=
  ⟨h.disk.chg (Chg.paint (i + 1) c w 0) (by omega) (by omega), h.ref.chg (Chg.paint 3 c w 0) (by decide), h.row, by rw [pnt_old (Array.getElem?_eq_some_iff.1 h.row).1]; exact h.col, h.good, h.kn.chg (Chg.paint 3 c w 0) (by decide), h.low,
    fun b hb => (pnt_old (Nat.lt_of_lt_of_le hb h.low.size)).trans (h.cols b hb), h.new, h.res, (pnt_old (Array.getElem?_eq_some_iff.1 h.res).1).trans h.resc⟩
theorem StR.below {W0 Wk w w' : World} {i j k g gw : Nat} {c0 c : Nat → Nat} {D : Dk.D} {sv : Value} (h : StR W0 Wk i j c0 k c w g gw D sv) (hb : Below w.heap.size w w') : StR W0 Wk i j c0 k c w' g gw D sv :=
  ⟨h.disk.keepB hb, h.ref.below hb, (hb.block gw (Array.getElem?_eq_some_iff.1 h.row).1).trans h.row, h.col, h.good, h.kn.chg (Chg.of_below_same (i := 3) hb) (by decide), h.low.trans (hb.mono h.low.size), h.cols, h.new, (hb.block _ (Array.getElem?_eq_some_iff.1 h.res).1).trans h.res, h.resc⟩
theorem StR.form {W0 Wk w : World} {i j k g gw : Nat} {c0 c : Nat → Nat} {D : Dk.D} {sv : Value} (h : StR W0 Wk i j c0 k c w g gw D sv) : ∃ a n cap, sv = .slice a n cap := by
  obtain ⟨a, n, cap, e⟩ := h.ref.form
  injection e with e
  have := congrArg (fun l : Array Value => l[0]?) e
  simp at this
  exact ⟨a, n, cap, this⟩
theorem StR.start {W0 Wk W1 W2 : World} {i j : Nat} {c0 c1 : Nat → Nat} {g : Nat} {sv : Value} (R : RunCtx W0 Wk i j c0) (d : DiskAt i c1 W1 g ⟨[], -1, false⟩) (k1 : Kn W0 W1 c1) (b1 : Below Wk.heap.size Wk W1) (cols : ∀ b, b < Wk.heap.size → c1 b = c0 b)
    (res : W1.heap[Wk.heap.size]? = some (.cells #[.slice none 0 0, .int .i64 0, .bool false] 27 (0, 0))) (resc : c1 Wk.heap.size = j)
    (r : RfD c1 W2 (.agg #[sv, .int .i64 (-1), .bool false]) ⟨[], -1, false⟩) (b : Below W1.heap.size W1 W2) :
    ∃ gw c', gw = W2.heap.size ∧ StR W0 Wk i j c0 0 c' (W2.alloc (.cells #[sv, .int .i64 (-1), .bool false] 27)) g gw ⟨[], -1, false⟩ sv := by
  have d2 := d.keepB b
  have k2 := k1.chg (Chg.of_below_same (i := 3) b) (by decide)
  have l2 := b1.trans (b.mono b1.size)
  have hlt := (Array.getElem?_eq_some_iff.1 res).1
  have res2 := (b.block _ hlt).trans res
  have hlt2 := (Array.getElem?_eq_some_iff.1 res2).1
  have h := Chg.alloc (i := j) (c := c1) (W := W2) (.cells #[sv, .int .i64 (-1), .bool false] 27) j
  have hA : Below W2.heap.size W2 (W2.alloc (.cells #[sv, .int .i64 (-1), .bool false] 27)) := (Below.refl _ _).alloc (Nat.le_refl _) _
  refine ⟨_, _, rfl, ⟨d2.chg h (Ne.symm R.hij) R.hj, r.chg h R.hj, heap_alloc_new _ _, pnt_new (Nat.le_refl _), Dk.Good.new, k2.chg h R.hj, l2.alloc l2.size _, fun b hb => ?_, hlt2, (hA.block _ hlt2).trans res2, (pnt_old hlt2).trans resc⟩⟩
  rw [pnt_old (Nat.lt_of_lt_of_le hb l2.size), cols b hb]

theorem StR.put {W0 Wk w : World} {i j k g gw : Nat} {c0 c : Nat → Nat} {D : Dk.D} {sv x0 x1 x2 : Value} (R : RunCtx W0 Wk i j c0) (hd : DiskAt i c w g D) (hr : RfD c w (.agg #[sv, .int .i64 D.norm.bud, .bool D.norm.down]) D.norm) (row : w.heap[gw]? = some (.cells #[x0, x1, x2] 27 (0, 0)))
    (col : c gw = j) (good : Dk.Good k D) (kn : Kn W0 w c) (low : Below Wk.heap.size Wk w) (cols : ∀ b, b < Wk.heap.size → c b = c0 b) (new : Wk.heap.size < gw)
    (res : w.heap[Wk.heap.size]? = some (.cells #[.slice none 0 0, .int .i64 0, .bool false] 27 (0, 0))) (resc : c Wk.heap.size = j) :
    StR W0 Wk i j c0 k c (((w.setCell ⟨gw, 0, none⟩ sv).setCell ⟨gw, 1, none⟩ (.int .i64 D.norm.bud)).setCell ⟨gw, 2, none⟩ (.bool D.norm.down)) g gw D sv := by
  have hgr := rf_store3_grown (w := w) (b := gw) (v0 := sv) (v1 := .int .i64 D.norm.bud) (v2 := .bool D.norm.down)
  have hrow := rf_store3 (v0 := sv) (v1 := .int .i64 D.norm.bud) (v2 := .bool D.norm.down) row
  generalize ((w.setCell ⟨gw, 0, none⟩ sv).setCell ⟨gw, 1, none⟩ (.int .i64 D.norm.bud)).setCell ⟨gw, 2, none⟩ (.bool D.norm.down) = w' at *
  have h : Chg j c c w w' := ⟨hgr.os, hgr.tape, hgr.output, hgr.size, fun b hb hc => hgr.block b hb (by intro e; cases e; exact hc col), fun _ _ => rfl⟩
  exact ⟨hd.chg h (Ne.symm R.hij) R.hj, hr.chg h R.hj, hrow, col, good, kn.chg h R.hj, low.grown hgr low.size (by intro b hb; cases hb; omega), cols, new, (hgr.block _ (Array.getElem?_eq_some_iff.1 res).1 (by intro e; cases e; omega)).trans res, resc⟩

theorem results_mid {P : Program} {fn : Func} {p u v : Tmp} {ty : TypeId} (h : fn.results = #[.tmp u, .cell p ty, .tmp v]) (tmps : Array Value) (w : World) (g : Nat) (t : TypeId) (cs : Array Value) (fr : Nat × Nat) (d : TypeDesc)
    (hp : tmps.getD p undef = .pointer (some ⟨g, 0, none⟩)) (hg : w.heap[g]? = some (.cells cs t fr))
    (hu : P.underlying ty = some d) (hd : (match d with | .struct _ | .array _ _ => true | _ => false) = true) (hi : (P.info? ty).map (·.size) = some cs.size) :
    (results fn tmps).run P w = .ok (.tuple #[tmps.getD u undef, .agg cs, tmps.getD v undef]) w := by
  have hp' : tmps[p]?.getD undef = .pointer (some ⟨g, 0, none⟩) := by simpa using hp
  simp [results, h, hp', asAddr, run_loadVar_row w g t ty cs fr d hg hu hd hi]

theorem StR.fin {W0 Wk w : World} {i j k g gw : Nat} {c0 c : Nat → Nat} {D : Dk.D} {sv : Value} (R : RunCtx W0 Wk i j c0) (h : StR W0 Wk i j c0 k c w g gw D sv) (wf : World)
    (hw : wf = (((w.setCell ⟨Wk.heap.size, 0, none⟩ sv).setCell ⟨Wk.heap.size, 1, none⟩ (.int .i64 D.norm.bud)).setCell ⟨Wk.heap.size, 2, none⟩ (.bool D.norm.down)).drew) :
    wf.heap[Wk.heap.size]? = some (.cells #[sv, .int .i64 D.norm.bud, .bool D.norm.down] 27 (0, 0)) ∧ DiskAt i c wf g D ∧ RfD c wf (.agg #[sv, .int .i64 D.norm.bud, .bool D.norm.down]) D.norm ∧ Dk.Good k D ∧ Below Wk.heap.size Wk wf ∧ ∀ b, b < Wk.heap.size → c b = c0 b := by
  have hgr := rf_store3_grown (w := w) (b := Wk.heap.size) (v0 := sv) (v1 := .int .i64 D.norm.bud) (v2 := .bool D.norm.down)
  have hrow := rf_store3 (v0 := sv) (v1 := .int .i64 D.norm.bud) (v2 := .bool D.norm.down) h.res
  generalize ((w.setCell ⟨Wk.heap.size, 0, none⟩ sv).setCell ⟨Wk.heap.size, 1, none⟩ (.int .i64 D.norm.bud)).setCell ⟨Wk.heap.size, 2, none⟩ (.bool D.norm.down) = w' at *
  have hc : Chg j c c w w' := ⟨hgr.os, hgr.tape, hgr.output, hgr.size, fun b hb hne => hgr.block b hb (by intro e; cases e; exact hne h.resc), fun _ _ => rfl⟩
  have hc2 := hc.drew
  rw [← hw] at hc2
  exact ⟨by rw [hw]; exact hrow, h.disk.chg hc2 (Ne.symm R.hij) R.hj, h.ref.chg hc2 R.hj, h.good, by rw [hw]; exact (h.low.grown hgr h.low.size (by intro b hb; cases hb; omega)).drew, h.cols⟩

set_option maxRecDepth 100000 in
set_option maxHeartbeats 4000000 in
theorem dk_run {W0 W : World} {i0 j0 : Nat} {cc : Nat → Nat} (R : RunCtx W0 W i0 j0 cc) (v0 : Value) (l : List Dk.Raw) (hl : OpsAt W0 v0 l) :
    Calls Tryz.prog 11 #[v0] W fun e W' => ∃ c' g v, e = .returned (.tuple #[.pointer (some ⟨g, 0, none⟩), v, .bool true]) ∧ DiskAt i0 c' W' g (Dk.runD l) ∧ RfD c' W' v (Dk.runD l).norm ∧ Dk.Good 40 (Dk.runD l) ∧
      Below W.heap.size W W' ∧ ∀ b, b < W.heap.size → c' b = cc b := by
  obtain ⟨a0, cap0, rfl, hpl, hp⟩ := hl
  have hA : Below W.heap.size W (W.alloc (.cells #[.slice none 0 0, .int .i64 0, .bool false] 27)) := (Below.refl _ _).alloc (Nat.le_refl _) _
  have n0 := dk_new (W.alloc (.cells #[.slice none 0 0, .int .i64 0, .bool false] 27)) i0 (pnt cc W.heap.size j0) R.hi
  have hAs : (W.alloc (.cells #[.slice none 0 0, .int .i64 0, .bool false] 27)).heap.size = W.heap.size + 1 := by simp
  have hAr := heap_alloc_new W (.cells #[.slice none 0 0, .int .i64 0, .bool false] 27)
  have HA := Lib.hid hA
  have HAS := Lib.hid hAs
  have HAR := Lib.hid hAr
  clear hA hAs hAr
  have HP := Lib.hid hp
  have HR := Lib.hid R
  clear hp R
  go_enter Tryz.func11, Tryz.ntmps11
  go_wp2_with fail
  refine n0.mono ?_
  rintro e W1 ⟨g, rfl, d1, b1⟩
  rw [HAS.out] at d1
  have res1 := (b1.block W.heap.size (by rw [HAS.out]; omega)).trans HAR.out
  have low1 := HA.out.trans (b1.mono (by rw [HAS.out]; omega))
  have k1 := (HR.out.kn.chg (Chg.of_below (i := j0) HA.out j0) HR.out.hj).chg (Chg.of_below (i := j0) b1 i0) HR.out.hj
  rw [HAS.out] at k1
  have cols1 : ∀ b, b < W.heap.size → pnt (pnt cc W.heap.size j0) (W.heap.size + 1) i0 b = cc b := fun b hb => by rw [pnt_old (by omega), pnt_old hb]
  have resc1 : pnt (pnt cc W.heap.size j0) (W.heap.size + 1) i0 W.heap.size = j0 := by rw [pnt_old (by omega), pnt_new (Nat.le_refl _)]
  generalize pnt (pnt cc W.heap.size j0) (W.heap.size + 1) i0 = c1 at *
  clear n0 b1 HAS HAR HA
  go_wp2_with fail
  refine (rf_new c1 W1).mono ?_
  rintro e W2 ⟨v, rfl, r2, b2⟩
  obtain ⟨sa, sn, sc, rfl⟩ := r2.form
  obtain ⟨gw, c2, hgw, S2⟩ := StR.start HR.out d1 k1 low1 cols1 res1 resc1 r2 b2
  have HGW := Lib.hid hgw
  have HS2 := Lib.hid S2
  clear hgw r2 d1 b2 S2 res1 low1 k1 cols1 resc1
  go_wp2_with fail
  rw [← HGW.out]
  generalize W2.alloc (.cells #[.slice sa sn sc, .int .i64 (-1), .bool false] 27) = w2 at *
  go_loopw [7] (fun iv wr => ∃ (i : Nat) (c : Nat → Nat) (sv : Value), iv = .int .i64 i ∧ i ≤ l.length ∧ i ≤ 40 ∧ Hid (StR W0 W i0 j0 cc i c wr g gw (Dk.runK l i) sv)) (fun iv _ => l.length - (RowKit.intOf iv).toNat)
  case atStart => exact ⟨0, c2, _, rfl, Nat.zero_le _, by decide, HS2⟩
  case round =>
    obtain ⟨i, c, sv, rfl, hi, hi40, HS⟩ := hrel
    by_cases hlt : i < l.length ∧ i < 40
    · obtain ⟨h1, h2⟩ := hlt
      obtain ⟨r, hrd⟩ : ∃ r, r = l[i] := ⟨_, rfl⟩
      obtain ⟨pg, poff, bv, rfl, hpg, hoc, hro, hrb⟩ := HP.out i r (by rw [hrd]; exact List.getElem?_eq_getElem h1)
      obtain ⟨p0, p1, p2, p3, p4⟩ := hoc.below HS.out.kn.1 hpg
      obtain ⟨ba, bc, rfl⟩ := hrb.form
      have n3 := dk_small wr r hro.k1 hro.k2 _ W0.heap.size (hrb.below HS.out.kn.1)
      have HRO := Lib.hid hro
      have HNX := Lib.hid (Dk.runK_next l i h1)
      rw [← hrd] at HNX
      unfold rawVal at n3
      clear hrb hoc hrd hro
      have row := HS.out.row
      obtain ⟨sa, sn, sc, rfl⟩ := HS.out.form
      generalize Dk.runK l i = D at *
      go_wp2_with fail
      refine n3.mono ?_
      rintro e w3 ⟨bv, rfl, hbv, b3⟩
      obtain ⟨ba, bc, rfl⟩ := hbv.form
      have hlen : (r.b.take 1500).length = min 1500 r.b.length := List.length_take
      rw [hlen] at hbv ⊢
      have S3 := HS.out.below b3
      clear n3 row p0 p1 p2 p3 p4 hlen
      unfold opVal
      obtain ⟨o4, ho4⟩ : ∃ o4 : Obj, o4 = .cells #[.int .i64 (Dk.small r).kind, .string (Dk.small r).name, .string (Dk.small r).to, .int .i64 (Dk.small r).n, .slice ba (min 1500 r.b.length) bc] 54 := ⟨_, rfl⟩
      have bA : Below w3.heap.size w3 (w3.alloc o4) := (Below.refl _ _).alloc (Nat.le_refl _) _
      have S4 := Lib.hid (S3.below bA)
      have HBV := Lib.hid ((hbv.below (b3.mono HS.out.kn.1.size)).below (bA.mono S3.kn.1.size))
      rw [ho4] at S4 HBV
      obtain ⟨c0, c1, c2⟩ := row_cells3 S4.out.row
      have HS3 := Lib.hid S3
      clear hbv S3 b3 HS
      go_wp2_with fail
      have hgb := heap_alloc_new w3 o4
      rw [ho4] at hgb
      generalize w3.alloc (.cells #[.int .i64 (Dk.small r).kind, .string (Dk.small r).name, .string (Dk.small r).to, .int .i64 (Dk.small r).n, .slice ba (min 1500 r.b.length) bc] 54) = w4 at *
      have S5 := S4.out.paint
      have hN := New0.pnt c w4.heap.size
      generalize pnt c w4.heap.size 0 = c5 at *
      have hG5 := S5.good
      have hF5 := hG5.fits (by omega)
      have n5 := rf_Do hN S5.ref S5.disk.rising hF5.bud (by have := hG5.many; omega) (fun n f hf => hF5.pend n f hf) (Dk.small r) (Dk.small_kind r) (HRO.out.name) (HRO.out.tn) (.slice ba (min 1500 r.b.length) bc) (RdC.of_kn' S5.kn HBV.out) (Dk.small_b r)
      unfold opVal at n5
      refine n5.mono ?_
      rintro e w5 ⟨v5, rfl, r5, b5⟩
      obtain ⟨sa5, sn5, sc5, rfl⟩ := r5.form
      have bA5 : Below w5.heap.size w5 (w5.alloc (.cells #[.slice sa5 sn5 sc5, .int .i64 (D.act (Dk.small r)).1.norm.bud, .bool (D.act (Dk.small r)).1.norm.down] 27)) := (Below.refl _ _).alloc (Nat.le_refl _) _
      have hgx := heap_alloc_new w5 (.cells #[.slice sa5 sn5 sc5, .int .i64 (D.act (Dk.small r)).1.norm.bud, .bool (D.act (Dk.small r)).1.norm.down] 27)
      have b6 := b5.trans (bA5.mono b5.size)
      have hgb6 := (b6.block _ (Array.getElem?_eq_some_iff.1 hgb).1).trans hgb
      obtain ⟨c0, c1, c2, c3, c4⟩ := row_cells5 hgb6
      have S6 := Lib.hid (S5.below b6)
      have R6 := Lib.hid (r5.below bA5)
      have HGX := Lib.hid hgx
      have HN := Lib.hid (hN _ b5.size)
      have HBV6 := Lib.hid ((HBV.out.below (b6.mono S5.kn.1.size)))
      clear n5 S4 S5 r5 b5 b6 bA5 hgx hgb hgb6 hN hG5 hF5 HBV
      go_wp2_with fail
      generalize w5.alloc (.cells #[.slice sa5 sn5 sc5, .int .i64 (D.act (Dk.small r)).1.norm.bud, .bool (D.act (Dk.small r)).1.norm.down] 27) = w6 at *
      have hG6 := S6.out.good
      have n7 := dk_Do S6.out.disk (hG6.fits (by omega)) (Dk.small r) (Dk.small_kind r) (HRO.out.name) (HRO.out.tn) (.slice ba (min 1500 r.b.length) bc) (RdC.of_kn' S6.out.kn HBV6.out) (Dk.small_b r)
      unfold opVal at n7
      have hG7 := hG6.act (Dk.small r) (Dk.small_n r HRO.out.n2)
      refine n7.mono ?_
      rintro e w7 ⟨c7, rfl, d7, h7⟩
      have R7 := R6.out.chg h7 HR.out.hi
      have K7 := S6.out.kn.chg h7 HR.out.hi
      have hgx7 := (h7.block _ (Array.getElem?_eq_some_iff.1 HGX.out).1 (by rw [HN.out]; exact (Ne.symm HR.out.hi))).trans HGX.out
      have hgw7 := (h7.block _ (Array.getElem?_eq_some_iff.1 S6.out.row).1 (by rw [S6.out.col]; exact (Ne.symm HR.out.hij))).trans S6.out.row
      have hcol7 := (h7.col _ (Array.getElem?_eq_some_iff.1 S6.out.row).1).trans S6.out.col
      have hres7 := (h7.block _ (Array.getElem?_eq_some_iff.1 S6.out.res).1 (by rw [S6.out.resc]; exact (Ne.symm HR.out.hij))).trans S6.out.res
      have hresc7 := (h7.col _ (Array.getElem?_eq_some_iff.1 S6.out.res).1).trans S6.out.resc
      have hnew7 := S6.out.new
      have hlow7 := S6.out.low.trans (h7.below S6.out.low.size (fun b hb => by rw [S6.out.cols b hb]; exact (HR.out.free b hb).1))
      have hcols7 : ∀ b, b < W.heap.size → c7 b = cc b := fun b hb => (h7.col b (Nat.lt_of_lt_of_le hb S6.out.low.size)).trans (S6.out.cols b hb)
      obtain ⟨x0, x1, x2⟩ := row_cells3 hgx7
      clear c0 c1 c2 c3 c4 n7 h7 S6 R6 HGX HN HBV6 hG6 HRO
      obtain ⟨y0, y1, y2⟩ := row_cells3 hgw7
      have z0 := dk_frozen _ _ 0 _ _ hgw7
      have z1 := dk_frozen _ _ 1 _ _ hgw7
      have z2 := dk_frozen _ _ 2 _ _ hgw7
      have S9 := StR.put HR.out d7 R7 hgw7 hcol7 hG7 K7 hlow7 hcols7 hnew7 hres7 hresc7
      have S9 := Lib.hid S9
      clear d7 R7 hgx7 hgw7 hcol7 hG7 K7 hnew7 hlow7 hcols7 hres7 hresc7
      go_wp2_with fail
      exact ⟨⟨i + 1, c7, _, by go_num, by omega, by omega, by rw [HNX.out]; exact S9⟩, by simp [RowKit.intOf]; omega⟩
    · have HE := Lib.hid (Dk.runK_end l i hlt hi hi40)
      obtain ⟨y0, y1, y2⟩ := row_cells3 HS.out.row
      obtain ⟨x0, x1, x2⟩ := row_cells3 HS.out.res
      have z0 := dk_frozen _ _ 0 _ _ HS.out.res
      have z1 := dk_frozen _ _ 1 _ _ HS.out.res
      have z2 := dk_frozen _ _ 2 _ _ HS.out.res
      obtain ⟨sa, sn, sc, rfl⟩ := HS.out.form
      generalize Dk.runK l i = D at *
      by_cases h1 : i < l.length
      all_goals
        try (have h40 : 40 ≤ i := by omega)
        clear hlt
        go_wp2_with fail
        have hne1 := HS.out.new
        have hne : W.heap.size ≠ gw := by omega
        clear hne1
        go_region_held3 (fun w' => w'.cell? ⟨gw, 0, none⟩ = some (.slice sa sn sc) ∧ w'.cell? ⟨gw, 1, none⟩ = some (.int .i64 D.norm.bud) ∧ w'.cell? ⟨gw, 2, none⟩ = some (.bool D.norm.down)) (simp [*, World.cell?_setCell_far]) (fail)
        obtain ⟨wf, hwf⟩ : ∃ wf, wf = (((wr.setCell ⟨W.heap.size, 0, none⟩ (.slice sa sn sc)).setCell ⟨W.heap.size, 1, none⟩ (.int .i64 D.norm.bud)).setCell ⟨W.heap.size, 2, none⟩ (.bool D.norm.down)).drew := ⟨_, rfl⟩
        obtain ⟨q0, q1, q2, q3, q4, q5⟩ := HS.out.fin HR.out wf hwf
        rw [← hwf]
        clear x0 x1 x2 y0 y1 y2 z0 z1 z2 hwf
        have q3 := q3.mono hi40
        rw [HE.out] at q0 q1 q2 q3 ⊢
        go_wp2_with fail
        refine bodyPost_ret (results_mid rfl _ _ W.heap.size _ _ (0, 0) _ rfl q0 Tryz.underlying27 rfl (by kernel_rfl)) rfl ?_
        exact ⟨c, g, _, rfl, q1, q2, q3, q4, q5⟩

end Go.Proofs.YtegahpgnmeobhaaGreatDoor
