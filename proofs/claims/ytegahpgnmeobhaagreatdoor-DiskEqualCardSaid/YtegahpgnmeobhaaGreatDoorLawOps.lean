/-
  DiskOperations: the walk.
-/
import Derived.Test.YtegahpgnmeobhaaGreatDoorOpsOpen
import Derived.Test.YtegahpgnmeobhaaGreatDoorDkApp1
namespace Go.Proofs.YtegahpgnmeobhaaGreatDoor
open Go.RowKit

theorem Dk.small_b (r : Dk.Raw) : (Dk.small r).b.length ≤ 1073741824 := by
  show (r.b.take 1500).length ≤ _
  rw [List.length_take]; omega

theorem RdC.of_kn' {W Wk : World} {c : Nat → Nat} {v : Value} {l : Dk.Bs} (K : Kn W Wk c) (h : RdB Wk W.heap.size v l) : RdC c Wk v l := by
  refine ⟨h.mono K.1.size, fun hne g hg => ?_⟩
  rcases h with ⟨h, _⟩ | ⟨g', off, cap, rfl, _, hg', _⟩
  · exact absurd h hne
  · simp only [Value.ownBlock, Option.some.injEq] at hg
    subst hg
    exact K.2 _ hg'
theorem row_cells3 {w : World} {g : Nat} {x0 x1 x2 : Value} {t : TypeId} (h : w.heap[g]? = some (.cells #[x0, x1, x2] t (0, 0))) : w.cell? ⟨g, 0, none⟩ = some x0 ∧ w.cell? ⟨g, 1, none⟩ = some x1 ∧ w.cell? ⟨g, 2, none⟩ = some x2 := by
  refine ⟨?_, ?_, ?_⟩ <;> simp [World.cell?, h]

theorem row_cells5 {w : World} {g : Nat} {x0 x1 x2 x3 x4 : Value} {t : TypeId} (h : w.heap[g]? = some (.cells #[x0, x1, x2, x3, x4] t (0, 0))) : w.cell? ⟨g, 0, none⟩ = some x0 ∧ w.cell? ⟨g, 1, none⟩ = some x1 ∧ w.cell? ⟨g, 2, none⟩ = some x2 ∧ w.cell? ⟨g, 3, none⟩ = some x3 ∧ w.cell? ⟨g, 4, none⟩ = some x4 := by
  refine ⟨?_, ?_, ?_, ?_, ?_⟩ <;> simp [World.cell?, h]

theorem RfD.form {c : Nat → Nat} {W : World} {v : Value} {D : Dk.D} (h : RfD c W v D) : ∃ a n cap, v = .agg #[.slice a n cap, .int .i64 D.bud, .bool D.down] := by
  obtain ⟨sv', xs, hv, _, ⟨⟨ao, cap, hs, _⟩, _⟩⟩ := h
  exact ⟨ao, xs.length, cap, by rw [hv, rfVal, hs]⟩

theorem St.start {W W1 W2 : World} {c : Nat → Nat} {g : Nat} {sv : Value} (K : Kn W W1 c) (d : DiskAt 1 c W1 g ⟨[], -1, false⟩) (r : RfD c W2 (.agg #[sv, .int .i64 (-1), .bool false]) ⟨[], -1, false⟩) (b : Below W1.heap.size W1 W2) :
    ∃ gw c', gw = W2.heap.size ∧ St W 0 c' (W2.alloc (.cells #[sv, .int .i64 (-1), .bool false] 27)) g gw ⟨[], -1, false⟩ sv := by
  have k2 := K.chg (Chg.of_below_same (i := 3) b) (by decide)
  have d2 := d.keepB b
  have h := Chg.alloc (i := 3) (c := c) (W := W2) (.cells #[sv, .int .i64 (-1), .bool false] 27) 7
  exact ⟨_, _, rfl, ⟨d2.chg h (by decide) (by decide), r.chg h (by decide), heap_alloc_new _ _, pnt_new (Nat.le_refl _), Dk.Good.new, k2.chg h (by decide), k2.1.size⟩⟩

theorem St.put {W w : World} {k g gw : Nat} {c : Nat → Nat} {D : Dk.D} {sv x0 x1 x2 : Value} (hd : DiskAt 1 c w g D) (hr : RfD c w (.agg #[sv, .int .i64 D.norm.bud, .bool D.norm.down]) D.norm) (row : w.heap[gw]? = some (.cells #[x0, x1, x2] 27 (0, 0)))
    (col : c gw = 7) (good : Dk.Good k D) (kn : Kn W w c) (new : W.heap.size ≤ gw) :
    St W k c (((w.setCell ⟨gw, 0, none⟩ sv).setCell ⟨gw, 1, none⟩ (.int .i64 D.norm.bud)).setCell ⟨gw, 2, none⟩ (.bool D.norm.down)) g gw D sv := by
  have hgr := rf_store3_grown (w := w) (b := gw) (v0 := sv) (v1 := .int .i64 D.norm.bud) (v2 := .bool D.norm.down)
  have hrow := rf_store3 (v0 := sv) (v1 := .int .i64 D.norm.bud) (v2 := .bool D.norm.down) row
  have hlt := (Array.getElem?_eq_some_iff.1 row).1
  generalize ((w.setCell ⟨gw, 0, none⟩ sv).setCell ⟨gw, 1, none⟩ (.int .i64 D.norm.bud)).setCell ⟨gw, 2, none⟩ (.bool D.norm.down) = w' at *
  obtain ⟨g1, g2, g3, g4, g5⟩ := hgr
  have h : Chg 7 c c w w' := ⟨g1, g2, g3, g4, fun b hb hc => g5 b hb (by intro e; cases e; exact hc col), fun _ _ => rfl⟩
  exact ⟨hd.chg h (by decide) (by decide), hr.chg h (by decide), hrow, col, good, kn.chg h (by decide), new⟩

set_option maxRecDepth 100000 in
set_option maxHeartbeats 4000000 in
theorem law_ops (W : World) (v0 : Value) (l : List Dk.Raw) (hl : OpsAt W v0 l) :
    Calls Tryz.prog 6 #[v0] W fun e W' => e = .returned (.bool true) ∧ Below W.heap.size W W' := by
  obtain ⟨a0, cap0, rfl, hpl, hp⟩ := hl
  have n0 := dk_new W 1 (fun _ => 0) (by decide)
  have HP := Lib.hid hp
  clear hp
  go_enter Tryz.func6, Tryz.ntmps6
  go_wp2_with fail
  refine n0.mono ?_
  rintro e W1 ⟨g, rfl, d1, b1⟩
  have K1 : Kn W W1 (pnt (fun _ => 0) W.heap.size 1) := ⟨b1, fun b hb => pnt_old hb⟩
  generalize pnt (fun _ => 0) W.heap.size 1 = c1 at *
  clear n0 b1
  go_wp2_with fail
  refine (rf_new c1 W1).mono ?_
  rintro e W2 ⟨v, rfl, r2, b2⟩
  obtain ⟨sa, sn, sc, rfl⟩ := r2.form
  go_wp2_with fail
  obtain ⟨gw, c2, hgw, S2⟩ := St.start K1 d1 r2 b2
  rw [← hgw]
  generalize W2.alloc (.cells #[.slice sa sn sc, .int .i64 (-1), .bool false] 27) = w2 at *
  clear hgw r2 d1 b2 K1
  go_loopw [5] (fun iv wr => ∃ (i : Nat) (c : Nat → Nat) (D : Dk.D) (sv : Value), iv = .int .i64 i ∧ i ≤ l.length ∧ i ≤ 40 ∧ Hid (St W i c wr g gw D sv)) (fun iv _ => l.length - (RowKit.intOf iv).toNat)
  case atStart => exact ⟨0, c2, _, _, rfl, Nat.zero_le _, by decide, Lib.hid S2⟩
  case round =>
    obtain ⟨i, c, D, sv, rfl, hi, hi40, HS⟩ := hrel
    by_cases hlt : i < l.length ∧ i < 40
    · obtain ⟨h1, h2⟩ := hlt
      obtain ⟨r, hrd⟩ : ∃ r, r = l[i] := ⟨_, rfl⟩
      obtain ⟨pg, poff, bv, rfl, hpg, hoc, hro, hrb⟩ := HP.out i r (by rw [hrd]; exact List.getElem?_eq_getElem h1)
      obtain ⟨p0, p1, p2, p3, p4⟩ := hoc.below HS.out.kn.1 hpg
      obtain ⟨ba, bc, rfl⟩ := hrb.form
      have n3 := dk_small wr r hro.k1 hro.k2 _ W.heap.size (hrb.below HS.out.kn.1)
      have HRO := Lib.hid hro
      unfold rawVal at n3
      clear hrb hoc hrd hro
      have row := HS.out.row
      obtain ⟨sa, sn, sc, rfl⟩ := HS.out.form
      go_wp2_with fail
      refine n3.mono ?_
      rintro e w3 ⟨bv, rfl, hbv, b3⟩
      obtain ⟨ba, bc, rfl⟩ := hbv.form
      have hlen : (r.b.take 1500).length = min 1500 r.b.length := List.length_take
      rw [hlen] at hbv ⊢
      have S3 := HS.out.below b3
      clear n3 row p0 p1 p2 p3 p4 hlen
      unfold opVal
      obtain ⟨o4, ho4⟩ : ∃ o4 : Obj, o4 = .cells #[.int .i64 (Dk.small r).kind, .string (Dk.small r).name, .string (Dk.small r).to, .int .i64 (Dk.small r).n, .slice ba (min 1500 r.b.length) bc] 54 := ⟨_, rfl⟩
      have bA : Below w3.heap.size w3 (w3.alloc o4) := (Below.refl _ _).alloc (Nat.le_refl _) _
      have S4 := Lib.hid (S3.below bA)
      have HBV := Lib.hid ((hbv.below (b3.mono HS.out.kn.1.size)).below (bA.mono S3.kn.1.size))
      rw [ho4] at S4 HBV
      obtain ⟨c0, c1, c2⟩ := row_cells3 S4.out.row
      have HS3 := Lib.hid S3
      clear hbv S3 b3 HS
      go_wp2_with fail
      have hgb := heap_alloc_new w3 o4
      rw [ho4] at hgb
      generalize w3.alloc (.cells #[.int .i64 (Dk.small r).kind, .string (Dk.small r).name, .string (Dk.small r).to, .int .i64 (Dk.small r).n, .slice ba (min 1500 r.b.length) bc] 54) = w4 at *
      have S5 := S4.out.paint
      have hN := New0.pnt c w4.heap.size
      generalize pnt c w4.heap.size 0 = c5 at *
      have hG5 := S5.good
      have hF5 := hG5.fits (by omega)
      have n5 := rf_Do hN S5.ref S5.disk.rising hF5.bud (by have := hG5.many; omega) (fun n f hf => hF5.pend n f hf) (Dk.small r) (Dk.small_kind r) (HRO.out.name) (HRO.out.tn) (.slice ba (min 1500 r.b.length) bc) (RdC.of_kn' S5.kn HBV.out) (Dk.small_b r)
      unfold opVal at n5
      refine n5.mono ?_
      rintro e w5 ⟨v5, rfl, r5, b5⟩
      obtain ⟨sa5, sn5, sc5, rfl⟩ := r5.form
      have bA5 : Below w5.heap.size w5 (w5.alloc (.cells #[.slice sa5 sn5 sc5, .int .i64 (D.act (Dk.small r)).1.norm.bud, .bool (D.act (Dk.small r)).1.norm.down] 27)) := (Below.refl _ _).alloc (Nat.le_refl _) _
      have hgx := heap_alloc_new w5 (.cells #[.slice sa5 sn5 sc5, .int .i64 (D.act (Dk.small r)).1.norm.bud, .bool (D.act (Dk.small r)).1.norm.down] 27)
      have b6 := b5.trans (bA5.mono b5.size)
      have hgb6 := (b6.block _ (Array.getElem?_eq_some_iff.1 hgb).1).trans hgb
      obtain ⟨c0, c1, c2, c3, c4⟩ := row_cells5 hgb6
      have S6 := Lib.hid (S5.below b6)
      have R6 := Lib.hid (r5.below bA5)
      have HGX := Lib.hid hgx
      have HN := Lib.hid (hN _ b5.size)
      have HBV6 := Lib.hid ((HBV.out.below (b6.mono S5.kn.1.size)))
      clear n5 S4 S5 r5 b5 b6 bA5 hgx hgb hgb6 hN hG5 hF5 HBV
      go_wp2_with fail
      generalize w5.alloc (.cells #[.slice sa5 sn5 sc5, .int .i64 (D.act (Dk.small r)).1.norm.bud, .bool (D.act (Dk.small r)).1.norm.down] 27) = w6 at *
      have hG6 := S6.out.good
      have n7 := dk_Do S6.out.disk (hG6.fits (by omega)) (Dk.small r) (Dk.small_kind r) (HRO.out.name) (HRO.out.tn) (.slice ba (min 1500 r.b.length) bc) (RdC.of_kn' S6.out.kn HBV6.out) (Dk.small_b r)
      unfold opVal at n7
      have hG7 := hG6.act (Dk.small r) (Dk.small_n r HRO.out.n2)
      refine n7.mono ?_
      rintro e w7 ⟨c7, rfl, d7, h7⟩
      have R7 := R6.out.chg h7 (by decide)
      have K7 := S6.out.kn.chg h7 (by decide)
      have hgx7 := (h7.block _ (Array.getElem?_eq_some_iff.1 HGX.out).1 (by rw [HN.out]; decide)).trans HGX.out
      have hgw7 := (h7.block _ (Array.getElem?_eq_some_iff.1 S6.out.row).1 (by rw [S6.out.col]; decide)).trans S6.out.row
      have hcol7 := (h7.col _ (Array.getElem?_eq_some_iff.1 S6.out.row).1).trans S6.out.col
      have hnew7 := S6.out.new
      have n8 := rf_same d7 R7 (by have := hG7.many; omega) hG7.names
      obtain ⟨x0, x1, x2⟩ := row_cells3 hgx7
      clear c0 c1 c2 c3 c4 n7 h7 S6 R6 HGX HN HBV6 hG6 HRO
      go_wp2_with fail
      refine n8.mono ?_
      rintro e w8 ⟨rfl, b8⟩
      have hgx8 := (b8.block _ (Array.getElem?_eq_some_iff.1 hgx7).1).trans hgx7
      have hgw8 := (b8.block _ (Array.getElem?_eq_some_iff.1 hgw7).1).trans hgw7
      have S9 := Lib.hid (St.put (d7.keepB b8) (R7.below b8) hgw8 hcol7 hG7 (K7.chg (Chg.of_below_same (i := 3) b8) (by decide)) hnew7)
      obtain ⟨x0, x1, x2⟩ := row_cells3 hgx8
      obtain ⟨y0, y1, y2⟩ := row_cells3 hgw8
      have z0 := dk_frozen _ _ 0 _ _ hgw8
      have z1 := dk_frozen _ _ 1 _ _ hgw8
      have z2 := dk_frozen _ _ 2 _ _ hgw8
      clear n8 d7 R7 hgx7 hgw7 hgx8 hgw8 hcol7 hG7 K7 hnew7 b8
      go_wp2_with fail
      exact ⟨⟨i + 1, c7, _, _, by go_num, by omega, by omega, S9⟩, by simp [RowKit.intOf]; omega⟩
    · by_cases h1 : i < l.length
      all_goals
        try (have h40 : 40 ≤ i := by omega)
        go_wp2_with fail
        refine (dk_known wr).mono ?_
        rintro e W3 ⟨rfl, hb⟩
        go_wp2_with fail
        go_ret
        exact ⟨rfl, HS.out.kn.1.trans (hb.mono HS.out.kn.1.size)⟩

end Go.Proofs.YtegahpgnmeobhaaGreatDoor
