/-
  Equal: bytes, writes, lists of writes, files.
-/
import Derived.Test.YtegahpgnmeobhaaGreatDoorDkApp1
import Derived.Test.YtegahpgnmeobhaaGreatDoorDkTrunc
namespace Go.Proofs.YtegahpgnmeobhaaGreatDoor
open Go.RowKit

theorem dk_entE1 : ∀ args w, (callFunc 64 args).run Tryz.prog w = .ok (.enter 64 args) w := enters_of Tryz.func64 (by kernel_rfl) rfl
theorem dk_entE2 : ∀ args w, (callFunc 67 args).run Tryz.prog w = .ok (.enter 67 args) w := enters_of Tryz.func67 (by kernel_rfl) rfl

set_option maxHeartbeats 1000000 in
theorem eq_bytes {W : World} {B1 B2 : Nat} {v1 v2 : Value} {a b : Dk.Bs} (h1 : RdB W B1 v1 a) (h2 : RdB W B2 v2 b) :
    Calls Tryz.prog 65 #[v1, v2] W fun e W' => e = .returned (.bool (a == b)) ∧ W = W' := by
  have q1 := dk_conv h1 W rfl
  have q2 := dk_conv h2 W rfl
  obtain ⟨a1, c1, rfl⟩ := h1.form
  obtain ⟨a2, c2, rfl⟩ := h2.form
  clear h1 h2
  go_enter Tryz.func65, Tryz.ntmps65
  go_wp2_with fail
  go_ret
  exact ⟨rfl, rfl⟩

def Dk.wrEq (x y : Dk.Wr) : Bool := x.off == y.off && x.b == y.b
theorem Dk.wrEq_iff (x y : Dk.Wr) : Dk.wrEq x y = true ↔ x = y := by
  obtain ⟨a, b⟩ := x
  obtain ⟨c, d⟩ := y
  simp [Dk.wrEq]

/-- bytes that are read stay where old blocks stay -/
theorem RdB.below2 {W W' : World} {B : Nat} {v : Value} {l : Dk.Bs} (h : RdB W B v l) (hb : Below W.heap.size W W') : RdB W' W'.heap.size v l := by
  rcases h with h | ⟨g, off, cap, hv, hc, _, hgs, hx⟩
  · exact .inl h
  · have := hb.size
    exact .inr ⟨g, off, cap, hv, hc, by omega, by omega, fun j c hj => (hb.cell (p := ⟨g, off + j, none⟩) hgs).trans (hx j c hj)⟩

set_option maxHeartbeats 1000000 in
theorem eq_write {W : World} {B1 B2 : Nat} {v1 v2 : Value} (x y : Dk.Wr) (h1 : RdB W B1 v1 x.b) (h2 : RdB W B2 v2 y.b) :
    Calls Tryz.prog 67 #[.agg #[.int .i64 x.off, v1], .agg #[.int .i64 y.off, v2]] W fun e W' => e = .returned (.bool (Dk.wrEq x y)) ∧ Below W.heap.size W W' := by
  obtain ⟨xo, xb⟩ := x
  obtain ⟨yo, yb⟩ := y
  unfold Dk.wrEq
  simp only [] at h1 h2 ⊢
  have bB : Below W.heap.size W ((W.alloc (.cells #[.int .i64 xo, v1] 103)).alloc (.cells #[.int .i64 yo, v2] 103)) := ((Below.refl _ _).alloc (Nat.le_refl _) _).alloc (by simp) _
  have BB := Lib.hid bB
  have hbe : ∀ W', Below W.heap.size W W' → Calls Tryz.prog 65 #[v1, v2] W' fun e W2 => e = .returned (.bool (xb == yb)) ∧ W' = W2 := fun W' hb => eq_bytes (h1.below2 hb) (h2.below2 hb)
  have HBE := Lib.hid hbe
  clear bB hbe h1 h2
  by_cases ho : xo = yo
  · subst ho
    generalize (xb == yb) = r at *
    go_enter Tryz.func67, Tryz.ntmps67
    go_wp2_with fail
    refine (HBE.out _ BB.out).mono ?_
    rintro e w2 ⟨rfl, rfl⟩
    go_wp2_with fail
    go_ret
    exact ⟨by simp, BB.out⟩
  · have ho2 : (xo == yo) = false := by simpa using ho
    have ho3 : ((xo : Int) == (yo : Int)) = false := by simp; omega
    rw [ho2]
    generalize (xb == yb) = r at *
    clear ho ho2
    go_enter Tryz.func67, Tryz.ntmps67
    go_wp2_with fail
    go_ret
    exact ⟨by simp, BB.out⟩

theorem list_eq_of_take {α : Type} {l m : List α} {n : Nat} (hl : l.length = n) (hm : m.length = n) (h : l.take n = m.take n) : l = m := by
  rwa [List.take_of_length_le (by omega), List.take_of_length_le (by omega)] at h
theorem take_next {α : Type} {l m : List α} {k : Nat} (hl : k < l.length) (hm : k < m.length) (h : l.take k = m.take k) (he : l[k] = m[k]) : l.take (k + 1) = m.take (k + 1) := by
  rw [List.take_add_one, List.take_add_one, h, List.getElem?_eq_getElem hl, List.getElem?_eq_getElem hm, he]

set_option maxRecDepth 100000 in
set_option maxHeartbeats 4000000 in
theorem eq_writes {W : World} {p1 p2 : Value} {l m : List Dk.Wr} {vs us : List Value} (h1 : PendIs W W.heap.size p1 l vs) (w1 : WrOk W W.heap.size l vs) (h2 : PendIs W W.heap.size p2 m us) (w2 : WrOk W W.heap.size m us) (hl : l.length ≤ 65536) :
    Calls Tryz.prog 66 #[p1, p2, .func (.func 67) #[] #[]] W fun e W' => ∃ r : Bool, e = .returned (.bool r) ∧ (r = true ↔ l = m) ∧ Below W.heap.size W W' := by
  obtain ⟨a1, c1, rfl, hc1, x1⟩ := h1
  obtain ⟨a2, c2, rfl, hc2, x2⟩ := h2
  have HE := dk_entE2
  have HX1 := Lib.hid x1
  have HX2 := Lib.hid x2
  have HW1 := Lib.hid w1
  have HW2 := Lib.hid w2
  clear x1 x2 w1 w2
  by_cases hlm : l.length = m.length
  · rw [hlm]
    rw [hlm] at hl hc1
    have HLM := Lib.hid hlm
    obtain ⟨n, hn⟩ : ∃ n, n = m.length := ⟨_, rfl⟩
    have HN := Lib.hid hn
    rw [← hn] at hc1 hc2 hl ⊢
    clear hlm hn
    go_enter Tryz.func66, Tryz.ntmps66
    go_wp2_with fail
    go_loopw [17] (fun iv wr => ∃ i : Nat, iv = .int .i64 i ∧ i ≤ n ∧ Hid (l.take i = m.take i) ∧ Hid (Below W.heap.size W wr)) (fun iv _ => n - (RowKit.intOf iv).toNat)
    case atStart => exact ⟨0, rfl, Nat.zero_le _, Lib.hid (by simp), Lib.hid (Below.refl _ _)⟩
    case round =>
      obtain ⟨k, rfl, hk, HT, HB⟩ := hrel
      by_cases hlt : k < n
      · have hk1 : k < l.length := by rw [HLM.out, ← HN.out]; exact hlt
        have hk2 : k < m.length := by rw [← HN.out]; exact hlt
        obtain ⟨g1, rfl, hg1, y1⟩ := HX1.out (by omega)
        obtain ⟨g2, rfl, hg2, y2⟩ := HX2.out (by omega)
        have hv1 : k < vs.length := by rw [HW1.out.1]; exact hk1
        have hv2 : k < us.length := by rw [HW2.out.1]; exact hk2
        obtain ⟨e1, e2⟩ := wrCells_at l vs k l[k] vs[k] (List.getElem?_eq_getElem hk1) (List.getElem?_eq_getElem hv1)
        obtain ⟨e3, e4⟩ := wrCells_at m us k m[k] us[k] (List.getElem?_eq_getElem hk2) (List.getElem?_eq_getElem hv2)
        obtain ⟨o1, -, -⟩ := HW1.out.2 k l[k] vs[k] (List.getElem?_eq_getElem hk1) (List.getElem?_eq_getElem hv1)
        obtain ⟨o2, -, -⟩ := HW2.out.2 k m[k] us[k] (List.getElem?_eq_getElem hk2) (List.getElem?_eq_getElem hv2)
        have d1 := (HB.out.cell (p := ⟨g1, k * 2, none⟩) hg1).trans (y1 _ _ e1)
        have d2 := (HB.out.cell (p := ⟨g1, k * 2 + 1, none⟩) hg1).trans (y1 _ _ e2)
        have d3 := (HB.out.cell (p := ⟨g2, k * 2, none⟩) hg2).trans (y2 _ _ e3)
        have d4 := (HB.out.cell (p := ⟨g2, k * 2 + 1, none⟩) hg2).trans (y2 _ _ e4)
        have hcall : ∀ W', Below W.heap.size W W' → Calls Tryz.prog 67 #[.agg #[.int .i64 l[k].off, vs[k]], .agg #[.int .i64 m[k].off, us[k]]] W' fun e W2 => e = .returned (.bool (Dk.wrEq l[k] m[k])) ∧ Below W'.heap.size W' W2 := fun W' hb => eq_write l[k] m[k] (o1.below2 hb) (o2.below2 hb)
        have HC := Lib.hid hcall
        have hfin : Hid (Dk.wrEq l[k] m[k] = true → l.take (k + 1) = m.take (k + 1)) := Lib.hid (fun h => take_next hk1 hk2 HT.out ((Dk.wrEq_iff _ _).1 h))
        have hbad : Hid (Dk.wrEq l[k] m[k] = false → l ≠ m) := Lib.hid (fun h e => by
          subst e
          have := (Dk.wrEq_iff l[k] l[k]).2 rfl
          rw [this] at h; cases h)
        obtain ⟨ob1, hob1⟩ : ∃ o, o = (l[k].off : Int) := ⟨_, rfl⟩
        obtain ⟨ob2, hob2⟩ : ∃ o, o = (m[k].off : Int) := ⟨_, rfl⟩
        rw [← hob1] at d1 HC
        rw [← hob2] at d3 HC
        obtain ⟨ba1, bc1, hb1⟩ := o1.form
        obtain ⟨ba2, bc2, hb2⟩ := o2.form
        rw [hb1] at d2 HC
        rw [hb2] at d4 HC
        clear hb1 hb2
        generalize l[k].b.length = bn1 at *
        generalize m[k].b.length = bn2 at *
        generalize Dk.wrEq l[k] m[k] = r at *
        have i1 : (0 : Int) ≤ k := by omega
        have i2 : (k : Int) < n := by omega
        have d5 : (wr.alloc (.cells #[.int .i64 ob1, .slice ba1 bn1 bc1] 103)).cell? ⟨g2, k * 2, none⟩ = some (.int .i64 ob2) := Lib.cell?_alloc_some _ d3
        have d6 : (wr.alloc (.cells #[.int .i64 ob1, .slice ba1 bn1 bc1] 103)).cell? ⟨g2, k * 2 + 1, none⟩ = some (.slice ba2 bn2 bc2) := Lib.cell?_alloc_some _ d4
        have hB2 : Below W.heap.size W ((wr.alloc (.cells #[.int .i64 ob1, .slice ba1 bn1 bc1] 103)).alloc (.cells #[.int .i64 ob2, .slice ba2 bn2 bc2] 103)) := (HB.out.alloc HB.out.size _).alloc (by have := HB.out.size; simp; omega) _
        have HB2 := Lib.hid hB2
        clear hB2
        clear hob1 hob2 e1 e2 e3 e4 o1 o2 y1 y2 hv1 hv2 hk1 hk2 hcall
        have HF := hfin
        have HG := hbad
        clear hfin hbad
        go_wp2_with fail
        refine (HC.out _ HB2.out).mono ?_
        rintro e w5 ⟨rfl, hb5⟩
        have HB5 := Lib.hid (HB2.out.trans (hb5.mono HB2.out.size))
        clear hb5 HC
        cases r with
        | true =>
          have HT2 := Lib.hid (HF.out rfl)
          clear HF HG
          go_wp2_with fail
          exact ⟨⟨k + 1, by go_num, by omega, HT2, HB5⟩, by simp [RowKit.intOf]; omega⟩
        | false =>
          have hne := HG.out rfl
          clear HF HG
          go_wp2_with fail
          go_ret
          exact ⟨false, rfl, by simp [hne], HB5.out⟩
      · obtain rfl : k = n := by omega
        go_wp2_with fail
        go_ret
        exact ⟨true, rfl, by simp; exact list_eq_of_take (by rw [HLM.out, ← HN.out]) HN.out.symm HT.out, HB.out⟩
  · have hne : ((l.length : Int) == (m.length : Int)) = false := by simp; omega
    have hne2 : l ≠ m := fun e => hlm (by rw [e])
    clear hlm
    go_enter Tryz.func66, Tryz.ntmps66
    go_wp2_with fail
    go_ret
    exact ⟨false, rfl, by simp [hne2], Below.refl _ _⟩

set_option maxRecDepth 100000 in
set_option maxHeartbeats 600000 in
/-- two files -/
theorem eq_files {c c' : Nat → Nat} {W : World} {x y : Fe} (h1 : FeAt c W x) (h2 : FeAt c' W y) :
    Calls Tryz.prog 64 #[.pointer (some ⟨x.g, 0, none⟩), .pointer (some ⟨y.g, 0, none⟩)] W fun e W' => ∃ r : Bool, e = .returned (.bool r) ∧ (r = true ↔ x.f = y.f) ∧ Below W.heap.size W W' := by
  obtain ⟨xn, xg, xd, xp, xv, ⟨fd, fp⟩⟩ := x
  obtain ⟨yn, yg, yd, yp, yv, ⟨gd, gp⟩⟩ := y
  have r1 := h1.row
  have r2 := h2.row
  have g1 := h1.same (W' := W.drew) rfl
  have g2 := h2.same (W' := W.drew) rfl
  have hb : Calls Tryz.prog 65 #[xd, yd] W.drew fun e w' => e = .returned (.bool (fd == gd)) ∧ w' = W.drew := (eq_bytes (W := W.drew) g1.dur.1 g2.dur.1).mono (fun _ _ h => ⟨h.1, h.2.symm⟩)
  have hw := eq_writes g1.is g1.wr.ok g2.is g2.wr.ok g1.many
  obtain ⟨da, dc, hd1⟩ := h1.dur.1.form
  obtain ⟨ea, ec, hd2⟩ := h2.dur.1.form
  obtain ⟨pa, pc, hp1, -, -⟩ := h1.is
  obtain ⟨qa, qc, hp2, -, -⟩ := h2.is
  simp only [] at r1 r2 hb hw hd1 hd2 hp1 hp2 ⊢
  subst hd1 hd2 hp1 hp2
  have x0 : W.cell? ⟨xg, 0, none⟩ = some (.slice da fd.length dc) := by rw [cell_of_row _ _ _ _ _ _ r1]; rfl
  have x1 : W.cell? ⟨xg, 1, none⟩ = some (.slice pa fp.length pc) := by rw [cell_of_row _ _ _ _ _ _ r1]; rfl
  have y0 : W.cell? ⟨yg, 0, none⟩ = some (.slice ea gd.length ec) := by rw [cell_of_row _ _ _ _ _ _ r2]; rfl
  have y1 : W.cell? ⟨yg, 1, none⟩ = some (.slice qa gp.length qc) := by rw [cell_of_row _ _ _ _ _ _ r2]; rfl
  have hbq : ∀ n, Calls Tryz.prog 65 #[.slice da fd.length dc, .slice ea gd.length ec] (W.drewN n) fun e w' => e = .returned (.bool (fd == gd)) ∧ w' = W.drewN n := fun n => (eq_bytes (W := W.drewN n) (h1.same (W' := W.drewN n) rfl).dur.1 (h2.same (W' := W.drewN n) rfl).dur.1).mono (fun _ _ h => ⟨h.1, h.2.symm⟩)
  have HBQ := Lib.hid hbq
  clear hbq
  have HW := Lib.hid hw
  have HB := Lib.hid hb
  have HE := dk_entE2
  have hiff : Hid ((fd == gd) = true ↔ fd = gd) := Lib.hid (by simp)
  have hcong : Hid (((⟨fd, fp⟩ : Dk.Fl) = ⟨gd, gp⟩) ↔ fd = gd ∧ fp = gp) := Lib.hid (by simp)
  clear hw hb h1 h2 r1 r2 g1 g2
  rw [hcong.out]
  generalize (fd == gd) = r at *
  cases r with
  | true =>
    have he := Lib.hid (hiff.out.1 rfl)
    go_enter Tryz.func64, Tryz.ntmps64
    go_wp2_with fail
    refine wp_region_still_tail 18 (by kernel_rfl) (by kernel_rfl) ?_
    simp only [List.take_succ_cons, List.take_zero, List.drop_succ_cons, List.drop_zero]
    change wpStill _ _ (World.drew _) _ _ _
    repeat still_step
    still_call HB.out
    repeat still_step
    refine wpStill_nil ?_
    go_wp2_with fail
    refine HW.out.mono ?_
    rintro e w2 ⟨r, rfl, hr, hb2⟩
    have HB2 := Lib.hid ((Below.refl W.heap.size W).drew.trans (hb2.mono (Nat.le_refl _)))
    have HR := Lib.hid hr
    clear hb2 hr
    go_wp2_with fail
    go_ret
    exact ⟨r, rfl, by rw [HR.out]; simp [he.out], HB2.out⟩
  | false =>
    have he : Hid (¬ (fd = gd)) := Lib.hid (fun e => by have := hiff.out.2 e; cases this)
    clear HB
    go_enter Tryz.func64, Tryz.ntmps64
    go_wp2_with fail
    go_quiet ((go_at_call 65; exact Calls.quiet_of_same (HBQ.out _)))
    go_wp2_with fail
    go_ret
    exact ⟨false, rfl, by simp [he.out], dk_below_drewN (Below.refl _ _) _⟩

end Go.Proofs.YtegahpgnmeobhaaGreatDoor
