/-
  THE REFERENCE: Restart.
-/
import Derived.Test.YtegahpgnmeobhaaGreatDoorRfWith
import Derived.Test.YtegahpgnmeobhaaGreatDoorRfPieces
import Derived.Test.YtegahpgnmeobhaaGreatDoorRfRestPlain
namespace Go.Proofs.YtegahpgnmeobhaaGreatDoor
open Go.RowKit

theorem Chg.of_below_same {i : Nat} {c : Nat → Nat} {W W' : World} (hb : Below W.heap.size W W') : Chg i c c W W' := ⟨hb.os, hb.tape, hb.output, hb.size, fun b h _ => hb.block b h, fun _ _ => rfl⟩
theorem drop_cons_at {α : Type} {xs : List α} {i : Nat} (hi : i < xs.length) (ys : List α) : ys ++ xs.drop i = ys ++ [xs[i]] ++ xs.drop (i + 1) := by
  rw [List.drop_eq_getElem_cons hi, List.append_assoc]; rfl
theorem set_at {α : Type} {xs : List α} {i : Nat} (hi : i < xs.length) (ys : List α) (hy : ys.length = i) (x : α) : (ys ++ xs.drop i).set i x = ys ++ [x] ++ xs.drop (i + 1) := by
  rw [List.drop_eq_getElem_cons hi, List.set_append_right _ _ (by omega), hy, Nat.sub_self, List.set_cons_zero, List.append_assoc]; rfl

structure RsInv (c1 : Nat → Nat) (W1 : World) (B : Nat) (v : Value) (xs : List Re) (l : Dk.Bs) (at0 i : Nat) (ys : List Re) (wr : World) : Prop where
  chg : W1.grownBy wr v.ownBlock
  cg : ∀ g, v.ownBlock = some g → c1 g = 1
  own : wr.ownsRow B 37 3 v xs.length (reCells (ys ++ xs.drop i))
  ats : ∀ y ∈ ys, ReAt c1 wr y
  len : ys.length = i
  pl : Dk.restartFs ((xs.map Re.ent).take i) l = (ys.map Re.ent, l.drop at0)
  atb : at0 ≤ i * 70000

theorem RsInv.keep {c1 : Nat → Nat} {W1 : World} {B : Nat} {v : Value} {xs : List Re} {l : Dk.Bs} {at0 i : Nat} {ys : List Re} {wr : World} (h : RsInv c1 W1 B v xs l at0 i ys wr) : ∀ b, b < W1.heap.size → c1 b = 0 → wr.heap[b]? = W1.heap[b]? ∧ c1 b = 0 :=
  fun b hb h0 => ⟨h.chg.block b hb (fun e => by rw [h.cg b e.symm] at h0; cases h0), h0⟩
theorem grownBy_below {W w w' : World} {row : Option Nat} (h : W.grownBy w row) (hb : Below w.heap.size w w') : W.grownBy w' row :=
  ⟨hb.os.trans h.os, hb.tape.trans h.tape, hb.output.trans h.output, Nat.le_trans h.size hb.size, fun k hk hne => (hb.block k (Nat.lt_of_lt_of_le hk h.size)).trans (h.block k hk hne)⟩
theorem grownBy_trans {W w w' : World} {row : Option Nat} (h : W.grownBy w row) (hb : w.grownBy w' row) : W.grownBy w' row :=
  ⟨hb.os.trans h.os, hb.tape.trans h.tape, hb.output.trans h.output, Nat.le_trans h.size hb.size, fun k hk hne => (hb.block k (Nat.lt_of_lt_of_le hk h.size) hne).trans (h.block k hk hne)⟩

theorem RsInv.skip {c1 : Nat → Nat} {W1 : World} {B : Nat} {v : Value} {xs : List Re} {l : Dk.Bs} {at0 i : Nat} {ys : List Re} {wr wr' : World} (h : RsInv c1 W1 B v xs l at0 i ys wr) (hi : i < xs.length) (hp : xs[i].f.pend = []) (hx : ReAt c1 wr xs[i])
    (hb : Below wr.heap.size wr wr') : RsInv c1 W1 B v xs l at0 (i + 1) (ys ++ [xs[i]]) wr' := by
  refine ⟨grownBy_below h.chg hb, h.cg, ?_, fun y hy => ?_, by rw [List.length_append, h.len]; rfl, ?_, Nat.le_trans h.atb (Nat.mul_le_mul_right _ (Nat.le_succ _))⟩
  · have := h.own.kept (dk_grown_of_below none hb) (by cases hv : v.ownBlock <;> simp)
    rwa [drop_cons_at hi] at this
  · rcases List.mem_append.1 hy with hy | hy
    · exact (h.ats y hy).below hb
    · simp at hy; subst hy; exact hx.below hb
  · have := Dk.restart_step (xs.map Re.ent) (ys.map Re.ent) l i at0 xs[i].nm xs[i].f (by rw [List.getElem?_map, List.getElem?_eq_getElem hi]; rfl) h.pl
    rw [if_pos hp, if_pos hp] at this
    rw [this, List.map_append]
    rfl

theorem RsInv.put {c1 : Nat → Nat} {W1 : World} {B : Nat} {v : Value} {xs : List Re} {l : Dk.Bs} {at0 i : Nat} {ys : List Re} {wr w' : World} (h : RsInv c1 W1 B v xs l at0 i ys wr) (hi : i < xs.length) (hp : ¬ xs[i].f.pend = []) (hx : ReAt c1 wr xs[i])
    (hb : Below wr.heap.size wr w') (fin : Dk.Bs) (dv : Value) (hd : RdC c1 w' dv fin) (hfin : fin = Dk.contents xs[i].f.dur (Dk.surv xs[i].f.pend (l.drop at0)).1) (hsz : fin.length ≤ 16777216) (g cap : Nat) (hv : v = .slice (some ⟨g, 0, none⟩) xs.length cap) :
    RsInv c1 W1 B v xs l (at0 + Dk.used xs[i].f.pend (Dk.chc l at0)) (i + 1) (ys ++ [⟨xs[i].nm, dv, .slice none 0 0, [], ⟨fin, []⟩⟩])
      (((w'.setCell ⟨g, i * 3, none⟩ (.string ⟨xs[i].nm.toArray⟩)).setCell ⟨g, i * 3 + 1, none⟩ dv).setCell ⟨g, i * 3 + 2, none⟩ (.slice none 0 0)) := by
  subst hv
  have ho := h.own.kept (dk_grown_of_below none hb) (Or.inr (by simp [Value.ownBlock]))
  obtain ⟨o1, g1⟩ := ho.stored (i * 3) (.string ⟨xs[i].nm.toArray⟩)
  obtain ⟨o2, g2⟩ := o1.stored (i * 3 + 1) dv
  obtain ⟨o3, g3⟩ := o2.stored (i * 3 + 2) (.slice none 0 0)
  have hgr : w'.grownBy (((w'.setCell ⟨g, i * 3, none⟩ (.string ⟨xs[i].nm.toArray⟩)).setCell ⟨g, i * 3 + 1, none⟩ dv).setCell ⟨g, i * 3 + 2, none⟩ (.slice none 0 0)) (some g) :=
    dk_grown_setCell _ _ _ _ _ (dk_grown_setCell _ _ _ _ _ (dk_grown_setCell _ _ _ _ _ ⟨rfl, rfl, rfl, Nat.le_refl _, fun _ _ _ => rfl⟩))
  have hg1 := h.cg g rfl
  have hkp : ∀ b, b < w'.heap.size → c1 b = 0 → (((w'.setCell ⟨g, i * 3, none⟩ (.string ⟨xs[i].nm.toArray⟩)).setCell ⟨g, i * 3 + 1, none⟩ dv).setCell ⟨g, i * 3 + 2, none⟩ (.slice none 0 0)).heap[b]? = w'.heap[b]? ∧ c1 b = 0 :=
    fun b hb' h0 => ⟨hgr.block b hb' (fun e => by cases e; rw [hg1] at h0; cases h0), h0⟩
  refine ⟨grownBy_trans (grownBy_below h.chg hb) hgr, h.cg, ?_, fun y hy => ?_, by rw [List.length_append, h.len]; rfl, ?_, ?_⟩
  · have hlen : i < (ys ++ xs.drop i).length := by rw [List.length_append, List.length_drop, h.len]; omega
    have := reCells_set (ys ++ xs.drop i) i ⟨xs[i].nm, dv, .slice none 0 0, [], ⟨fin, []⟩⟩ hlen
    rw [set_at hi ys h.len] at this
    rw [this] at o3
    exact o3
  · rcases List.mem_append.1 hy with hy | hy
    · exact ((h.ats y hy).below hb).keep hgr.size hkp
    · simp at hy
      subst hy
      exact ⟨hd.keep hgr.size hkp, PendC.nil, WrC.nil, hsz, Nat.zero_le _, hx.nm⟩
  · have := Dk.restart_step (xs.map Re.ent) (ys.map Re.ent) l i at0 xs[i].nm xs[i].f (by rw [List.getElem?_map, List.getElem?_eq_getElem hi]; rfl) h.pl
    rw [if_neg hp, if_neg hp, ← hfin] at this
    rw [this, List.map_append]
    rfl
  · have := h.atb
    have := hx.many
    unfold Dk.used
    split <;> omega

theorem ReAt.write {c : Nat → Nat} {W : World} {x : Re} (h : ReAt c W x) {wa : Option Addr} {wc : Nat} (hwv : x.wv = .slice wa x.f.pend.length wc) (k : Nat) (hk : k < x.f.pend.length) : ∃ wg bv, wa = some ⟨wg, 0, none⟩ ∧ x.f.pend.length ≤ wc ∧
    W.cell? ⟨wg, k * 2, none⟩ = some (.int .i64 x.f.pend[k].off) ∧ W.cell? ⟨wg, k * 2 + 1, none⟩ = some bv ∧ RdB W W.heap.size bv x.f.pend[k].b ∧ 0 < x.f.pend[k].b.length ∧ x.f.pend[k].off + x.f.pend[k].b.length ≤ 16777216 := by
  obtain ⟨⟨wo, wcap, hv, hcap, hx⟩, _⟩ := h.pend
  rw [hwv] at hv
  injection hv with h1 _ h3
  subst h1 h3
  obtain ⟨wg, rfl, hwg, hwc⟩ := hx (by omega)
  have hvk : k < x.vs.length := by rw [h.wr.1]; exact hk
  obtain ⟨e1, e2⟩ := wrCells_at x.f.pend x.vs k x.f.pend[k] x.vs[k] (List.getElem?_eq_getElem hk) (List.getElem?_eq_getElem hvk)
  obtain ⟨o1, o2, o3⟩ := h.wr.2 k x.f.pend[k] x.vs[k] (List.getElem?_eq_getElem hk) (List.getElem?_eq_getElem hvk)
  exact ⟨wg, x.vs[k], rfl, hcap, hwc _ _ e1, hwc _ _ e2, o1.1, o2, o3⟩
theorem RdB.takeN {W : World} {B : Nat} {v : Value} {l : Dk.Bs} (h : RdB W B v l) : ∃ a cap, v = .slice a l.length cap ∧ l.length ≤ cap ∧ ∀ n, n ≤ l.length → RdB W B (.slice a n cap) (l.take n) := by
  rcases h with ⟨rfl, a, cap, rfl⟩ | ⟨g, off, cap, hv, hc, hg, hgs, hx⟩
  · refine ⟨a, cap, rfl, Nat.zero_le _, fun n hn => ?_⟩
    obtain rfl : n = 0 := by simpa using hn
    exact .inl ⟨by simp, a, cap, rfl⟩
  · refine ⟨some ⟨g, off, none⟩, cap, hv, hc, fun n hn => .inr ⟨g, off, cap, by rw [List.length_take, Nat.min_eq_left hn], by rw [List.length_take]; omega, hg, hgs, fun j c hj => hx j c ?_⟩⟩
    rw [List.getElem?_take] at hj
    split at hj
    · exact hj
    · cases hj

theorem rf_choiceZ (w : World) (v : Value) (l : Dk.Bs) (z : Int) (h0 : 0 ≤ z) (h : RdB w w.heap.size v l) (hl : l.length ≤ 140737488355328) : Calls Tryz.prog 61 #[v, .int .i64 z] w fun e W' => e = .returned (.int .i64 (Dk.chc l z.toNat)) ∧ W' = w := by
  obtain ⟨k, rfl⟩ := Int.eq_ofNat_of_zero_le h0
  exact rf_choice w v l k h hl
theorem rf_choiceN (w : World) (n : Nat) (v : Value) (l : Dk.Bs) (z : Int) (h0 : 0 ≤ z) (h : RdB w w.heap.size v l) (hl : l.length ≤ 140737488355328) : Calls Tryz.prog 61 #[v, .int .i64 z] (w.drewN n) fun e W' => e = .returned (.int .i64 (Dk.chc l z.toNat)) ∧ W' = w.drewN n := by
  obtain ⟨k, rfl⟩ := Int.eq_ofNat_of_zero_le h0
  exact rf_choice (w.drewN n) v l k (h.below (dk_below_drewN (Below.refl _ _) n)) hl

set_option maxRecDepth 100000 in
set_option maxHeartbeats 1000000 in
theorem rf_restart {c : Nat → Nat} {W : World} {sv lv : Value} {xs : List Re} {l : Dk.Bs} (bud : Int) (down : Bool) (hc : New0 c W.heap.size) (h : RfAt c W sv xs) (hl : RdC c W lv l) (hll : l.length ≤ 140737488355328) :
    Calls Tryz.prog 32 #[.agg #[sv, .int .i64 bud, .bool down], lv] W fun e W' => ∃ sv' ys, e = .returned (.agg #[sv', .int .i64 (-1), .bool false]) ∧
      ys.map Re.ent = (Dk.restartFs (xs.map Re.ent) l).1 ∧ RfAt c W' sv' ys ∧ Below W.heap.size W W' := by
  have hlen := h.2.2
  obtain ⟨ao, cap, rfl, hcap, _⟩ := h.source
  obtain ⟨W0, hW0⟩ : ∃ W0, W0 = (W.alloc (.cells #[.slice ao xs.length cap, .int .i64 bud, .bool down] 27)).alloc (.cells #[.slice none 0 0, .int .i64 0, .bool false] 27) := ⟨_, rfl⟩
  have hz : W0.heap.size = W.heap.size + 2 := by rw [hW0]; simp
  have hb0 : Below W.heap.size W W0 := by rw [hW0]; exact ((Below.refl _ _).alloc (Nat.le_refl _) _).alloc (by simp) _
  have r1 : W0.heap[W.heap.size]? = some (.cells #[.slice ao xs.length cap, .int .i64 bud, .bool down] 27 (0, 0)) := by
    rw [hW0, Below.heap_alloc _ _ _ (by simp)]; exact heap_alloc_new W _
  have r2 : W0.heap[W.heap.size + 1]? = some (.cells #[.slice none 0 0, .int .i64 0, .bool false] 27 (0, 0)) := by
    rw [hW0]; exact rf_new2 W _ _
  have hcp := rf_copied bud down (h.below hb0)
  have HCP := Lib.hid hcp
  have HW0 := Lib.hid hW0
  have HZ := Lib.hid hz
  have HB0 := Lib.hid hb0
  have R1 := Lib.hid r1
  have R2 := Lib.hid r2
  have HA := Lib.hid h
  have HL := Lib.hid hl
  have HC := Lib.hid hc
  obtain ⟨la, lc, rfl⟩ := hl.1.form
  clear hcp hW0 hz hb0 r1 r2 h hl hc
  go_enter Tryz.func32, Tryz.ntmps32
  go_wp2_with fail
  rw [← HW0.out]
  refine HCP.out.mono ?_
  rintro e w1 ⟨sv1, rfl, hown1, hb1⟩
  have q1 := (hb1.block W.heap.size (by rw [HZ.out]; omega)).trans R1.out
  have f0 := dk_frozen w1 W.heap.size 0 _ _ q1
  have f1 := dk_frozen w1 W.heap.size 1 _ _ q1
  have f2 := dk_frozen w1 W.heap.size 2 _ _ q1
  have d0 : w1.cell? ⟨W.heap.size, 0, none⟩ = some (.slice ao xs.length cap) := by rw [cell_of_row w1 _ _ _ _ _ q1]; rfl
  have d1 : w1.cell? ⟨W.heap.size, 1, none⟩ = some (.int .i64 bud) := by rw [cell_of_row w1 _ _ _ _ _ q1]; rfl
  have d2 : w1.cell? ⟨W.heap.size, 2, none⟩ = some (.bool down) := by rw [cell_of_row w1 _ _ _ _ _ q1]; rfl
  obtain ⟨a1, p1, rfl⟩ := rf_own_form hown1
  have HO1 := Lib.hid hown1
  have HB1 := Lib.hid hb1
  have Q1 := Lib.hid q1
  clear hown1 hb1 q1
  go_wp2_with fail
  have hz := HZ.out
  have ho1 := HO1.out
  obtain ⟨W1, hW1⟩ : ∃ W1, W1 = ((((w1.setCell ⟨W.heap.size, 0, none⟩ (.slice a1 xs.length p1)).setCell ⟨W.heap.size, 1, none⟩ (.int .i64 bud)).setCell ⟨W.heap.size, 2, none⟩ (.bool down)).setCell ⟨W.heap.size, 2, none⟩ (.bool false)).setCell ⟨W.heap.size, 1, none⟩ (.int .i64 (-1)) := ⟨_, rfl⟩
  rw [← hW1]
  have hg1 : w1.grownBy W1 (some W.heap.size) := by
    rw [hW1]
    exact dk_grown_setCell _ _ _ _ _ (dk_grown_setCell _ _ _ _ _ (dk_grown_setCell _ _ _ _ _ (dk_grown_setCell _ _ _ _ _ (dk_grown_setCell _ _ _ _ _ ⟨rfl, rfl, rfl, Nat.le_refl _, fun _ _ _ => rfl⟩))))
  have hrow : W1.heap[W.heap.size]? = some (.cells #[.slice a1 xs.length p1, .int .i64 (-1), .bool false] 27 (0, 0)) := by
    have s3 := rf_store3 (v0 := .slice a1 xs.length p1) (v1 := .int .i64 bud) (v2 := .bool down) Q1.out
    have s4 := dk_setCell _ W.heap.size 2 _ _ (.bool false) s3
    have s5 := dk_setCell _ W.heap.size 1 _ _ (.int .i64 (-1)) s4
    rw [hW1]
    exact s5
  have hown2 := ho1.kept hg1 (by right; intro e; have := (ho1.lt _ e).1; omega)
  have hs1 : w1.heap.size ≤ W1.heap.size := hg1.size
  have hB1 := HB1.out
  have hsz1 := hB1.size
  have hbW : Below W.heap.size W W1 := ⟨hg1.os.trans (hB1.os.trans HB0.out.os), hg1.tape.trans (hB1.tape.trans HB0.out.tape), hg1.output.trans (hB1.output.trans HB0.out.output), by omega,
    fun k hk => (hg1.block k (by omega) (fun e => by cases e; omega)).trans ((hB1.block k (by omega)).trans (HB0.out.block k hk))⟩
  obtain ⟨c1, hc1⟩ : ∃ c1 : Nat → Nat, c1 = fun b => if (Value.slice a1 xs.length p1).ownBlock = some b then 1 else if b = W.heap.size + 1 then 2 else c b := ⟨_, rfl⟩
  have hcold : ∀ b, b < W.heap.size + 1 → c1 b = c b := fun b hb => by
    rw [hc1]; simp only []; rw [if_neg, if_neg (by omega)]; intro e; have := (ho1.lt _ e).1; omega
  have hcback : ∀ b, c1 b = 0 → b ≠ W.heap.size + 1 ∧ c b = 0 := fun b h0 => by
    rw [hc1] at h0; simp only [] at h0
    split at h0
    · cases h0
    · split at h0
      · cases h0
      · exact ⟨by assumption, h0⟩
  have hk : ∀ b, b < W.heap.size → c b = 0 → W1.heap[b]? = W.heap[b]? ∧ c1 b = 0 := fun b hb h0 => ⟨hbW.block b hb, (hcold b (by omega)).trans h0⟩
  have hxs : ∀ x ∈ xs, ReAt c1 W1 x := fun x hx => (HA.out.2.1 x hx).keep hbW.size hk
  have hl1 := HL.out.keep hbW.size hk
  have hn1 : New0 c1 W1.heap.size := fun b hb => by
    rw [hc1]; simp only []; rw [if_neg, if_neg (by omega)]
    · exact HC.out b (by omega)
    · intro e; have := (ho1.lt _ e).2; omega
  have hcb : c1 W.heap.size = 0 := by rw [hcold _ (by omega)]; exact HC.out _ (Nat.le_refl _)
  have hcg : ∀ g, (Value.slice a1 xs.length p1).ownBlock = some g → c1 g = 1 := fun g e => by
    rw [hc1]; simp only []; rw [if_pos e]
  have hinv : RsInv c1 W1 W0.heap.size (.slice a1 xs.length p1) xs l 0 0 [] W1 := ⟨⟨rfl, rfl, rfl, Nat.le_refl _, fun _ _ _ => rfl⟩, hcg, by simpa using hown2, by simp, rfl, by simp [Dk.restartFs], by omega⟩
  have hrow2 : W1.heap[W.heap.size + 1]? = some (.cells #[.slice none 0 0, .int .i64 0, .bool false] 27 (0, 0)) := (hg1.block _ (by omega) (by simp)).trans ((HB1.out.block _ (by omega)).trans R2.out)
  have HROW2 := Lib.hid hrow2
  have HCBK := Lib.hid hcback
  have HINV := Lib.hid hinv
  have HXS := Lib.hid hxs
  have HL1 := Lib.hid hl1
  have HN1 := Lib.hid hn1
  have HCB := Lib.hid hcb
  have HROW := Lib.hid hrow
  have HBW := Lib.hid hbW
  have HC1 := Lib.hid hc1
  have HS1 := Lib.hid hs1
  clear ho1 hW1 hg1 hrow hrow2 hcback hown2 hs1 hB1 hsz1 hbW hc1 hcold hk hxs hl1 hn1 hcb hinv hcg f0 f1 f2 d0 d1 d2
  go_loopw [5, 6] (fun av iv wr => ∃ (at0 i : Nat) (ys : List Re), av = .int .i64 at0 ∧ iv = .int .i64 i ∧ i ≤ xs.length ∧ Hid (RsInv c1 W1 W0.heap.size (.slice a1 xs.length p1) xs l at0 i ys wr)) (fun _ iv _ => xs.length - (RowKit.intOf iv).toNat)
  case atStart => exact ⟨0, 0, [], rfl, rfl, Nat.zero_le _, HINV⟩
  case round =>
    obtain ⟨at0, i, ys, rfl, rfl, hi, HI⟩ := hrel
    clear HINV
    have hwz : W.heap.size < W1.heap.size := (Array.getElem?_eq_some_iff.1 HROW.out).1
    have q0 := (HI.out.keep W.heap.size hwz HCB.out).1.trans HROW.out
    have e0 : wr.cell? ⟨W.heap.size, 0, none⟩ = some (.slice a1 xs.length p1) := by rw [cell_of_row wr _ _ _ _ _ q0]; rfl
    have hatb := HI.out.atb
    by_cases hlt : i < xs.length
    · obtain ⟨g, cap', hv, hgB, hgl⟩ := HI.out.own.form (by omega)
      injection hv with hv1 _ hv3
      subst hv1 hv3
      have hxi : (ys ++ xs.drop i)[i]? = some xs[i] := by
        rw [List.getElem?_append_right (by rw [HI.out.len]; omega), HI.out.len, Nat.sub_self, List.getElem?_drop, Nat.add_zero, List.getElem?_eq_getElem hlt]
      obtain ⟨x1, x2, x3⟩ := reCells_at _ _ _ hxi
      have y1 := (HI.out.own.cellAt (i * 3) (by omega)).trans x1
      have y2 := (HI.out.own.cellAt (i * 3 + 1) (by omega)).trans x2
      have y3 := (HI.out.own.cellAt (i * 3 + 2) (by omega)).trans x3
      have hX := (HXS.out xs[i] (List.getElem_mem hlt)).keep HI.out.chg.size HI.out.keep
      obtain ⟨wa, wc, hwv, hwn⟩ := hX.pend.form
      obtain ⟨da, dc, hdv⟩ := hX.dur.1.form
      rw [hwv] at y3
      rw [hdv] at y2
      have i1 : (0 : Int) ≤ i := by omega
      have i2 : (i : Int) < xs.length := by omega
      clear x1 x2 x3 hxi
      by_cases hp : xs[i].f.pend = []
      · have hn0 : xs[i].f.pend.length = 0 := by rw [hp]; rfl
        rw [hn0] at y3
        have HSK := Lib.hid (fun wr' hb => HI.out.skip (wr' := wr') hlt hp hX hb)
        clear hn0 hwn hwv hX HXS hdv
        go_wp2_with fail
        refine ⟨⟨at0, i + 1, _, rfl, by go_num, by omega, Lib.hid (HSK.out _ ((Below.refl _ _).alloc (Nat.le_refl _) _))⟩, by simp [RowKit.intOf]; omega⟩
      · obtain ⟨wo, rfl⟩ : ∃ wo : World, wo = wr := ⟨_, rfl⟩
        have hpl : 0 < xs[i].f.pend.length := List.length_pos_iff.2 hp
        obtain ⟨wg, _, hwa, hwcl, _⟩ := hX.write hwv 0 hpl
        subst hwa
        have HWV := Lib.hid hwv
        have hn0 : ((xs[i].f.pend.length : Int) == 0) = false := by rw [beq_eq_false_iff_ne]; omega
        have hPUT := fun w' hb fin dv hd hfin hsz => HI.out.put (w' := w') hlt hp hX hb fin dv hd hfin hsz g p1 rfl
        obtain ⟨wf, hwf⟩ : ∃ wf, wf = wo.alloc (.cells #[.string ⟨xs[i].nm.toArray⟩, .slice da xs[i].f.dur.length dc, .slice (some ⟨wg, 0, none⟩) xs[i].f.pend.length wc] 37) := ⟨_, rfl⟩
        have hbf : Below wo.heap.size wo wf := by rw [hwf]; exact (Below.refl _ _).alloc (Nat.le_refl _) _
        have hrf : wf.heap[wo.heap.size]? = some (.cells #[.string ⟨xs[i].nm.toArray⟩, .slice da xs[i].f.dur.length dc, .slice (some ⟨wg, 0, none⟩) xs[i].f.pend.length wc] 37 (0, 0)) := by rw [hwf]; exact heap_alloc_new _ _
        have hfs : wf.heap.size = wo.heap.size + 1 := by rw [hwf]; simp
        have hLr := HL1.out.keep HI.out.chg.size HI.out.keep
        have hF : ∀ wz, Below wf.heap.size wf wz → Below wo.heap.size wo wz ∧ wz.cell? ⟨W.heap.size, 0, none⟩ = some (.slice (some ⟨g, 0, none⟩) xs.length p1) ∧
            wz.cell? ⟨wo.heap.size, 0, none⟩ = some (.string ⟨xs[i].nm.toArray⟩) ∧ wz.cell? ⟨wo.heap.size, 1, none⟩ = some (.slice da xs[i].f.dur.length dc) ∧ wz.cell? ⟨wo.heap.size, 2, none⟩ = some (.slice (some ⟨wg, 0, none⟩) xs[i].f.pend.length wc) ∧
            wz.cell? ⟨g, i * 3, none⟩ = some (.string ⟨xs[i].nm.toArray⟩) ∧ wz.cell? ⟨g, i * 3 + 1, none⟩ = some (.slice da xs[i].f.dur.length dc) ∧ wz.cell? ⟨g, i * 3 + 2, none⟩ = some (.slice (some ⟨wg, 0, none⟩) xs[i].f.pend.length wc) ∧
            wz.frozen? ⟨g, i * 3, none⟩ = false ∧ wz.frozen? ⟨g, i * 3 + 1, none⟩ = false ∧ wz.frozen? ⟨g, i * 3 + 2, none⟩ = false ∧ RdB wz wz.heap.size (.slice la l.length lc) l ∧ New0 c1 wz.heap.size ∧ ReAt c1 wz xs[i] := fun wz hb => by
          have hbr : Below wo.heap.size wo wz := hbf.trans (hb.mono (by omega))
          have qf := (hb.block wo.heap.size (by omega)).trans hrf
          have hwr := World.block_lt_of_cell? wo _ e0
          refine ⟨hbr, (hbr.cell (p := ⟨W.heap.size, 0, none⟩) hwr).trans e0, ?_, ?_, ?_, (hbr.cell (p := ⟨g, i * 3, none⟩) hgl).trans y1, (hbr.cell (p := ⟨g, i * 3 + 1, none⟩) hgl).trans y2, (hbr.cell (p := ⟨g, i * 3 + 2, none⟩) hgl).trans y3,
            (hbr.frozen (p := ⟨g, i * 3, none⟩) hgl).trans (HI.out.own.frozenAt _), (hbr.frozen (p := ⟨g, i * 3 + 1, none⟩) hgl).trans (HI.out.own.frozenAt _), (hbr.frozen (p := ⟨g, i * 3 + 2, none⟩) hgl).trans (HI.out.own.frozenAt _), (hLr.below hbr).1, HN1.out.mono (Nat.le_trans HI.out.chg.size hbr.size), hX.below hbr⟩
          · rw [cell_of_row wz _ _ _ _ _ qf]; rfl
          · rw [cell_of_row wz _ _ _ _ _ qf]; rfl
          · rw [cell_of_row wz _ _ _ _ _ qf]; rfl
        have hsz := hX.size
        have hcl := Dk.chc_lt l at0
        have hdl : xs[i].f.dur.length ≤ 16777216 := Nat.le_trans (Dk.contents_dur_le xs[i].f.dur xs[i].f.pend) hsz
        have HF := Lib.hid hF
        have HPUT := Lib.hid hPUT
        have HWF := Lib.hid hwf
        have HFS := Lib.hid hfs
        have HSZ := Lib.hid hsz
        have hrc := rf_choice wf (.slice la l.length lc) l at0 (hF wf (Below.refl _ _)).2.2.2.2.2.2.2.2.2.2.2.1 hll
        obtain ⟨v3, w3, hrun, hown3, hb3⟩ := rf_copyB (hF wf (Below.refl _ _)).2.2.2.2.2.2.2.2.2.2.2.2.2.dur.1 (by omega) 23
        rw [hdv] at hrun
        have HRUN := Lib.hid hrun
        have HO3 := Lib.hid hown3
        have HB3 := Lib.hid hb3
        have HRC := Lib.hid hrc
        have fb1 := (hF wf (Below.refl _ _)).2.2.2.1
        have fb1' : (wf.alloc (.cells #[] 5)).cell? ⟨wo.heap.size, 1, none⟩ = some (.slice da xs[i].f.dur.length dc) := ((((Below.refl wf.heap.size wf).alloc (Nat.le_refl _) (.cells #[] 5)).cell (p := ⟨wo.heap.size, 1, none⟩) (by rw [hfs]; simp)).trans fb1)
        have b1 : (0 : Int) ≤ (at0 : Int) + 1 := by omega
        clear hF hPUT hwf hfs hsz hrun hown3 hb3 hrc hX HXS hbf hrf hLr hdv hwv hwn hp fb1 q0
        go_wp2_with fail
        rw [← HWF.out]
        refine HRC.out.mono ?_
        rintro e w4 ⟨rfl, rfl⟩
        obtain ⟨a3, c3, rfl⟩ := rf_own_form HO3.out
        have HR3 := Lib.hid (HF.out w3 HB3.out).2.2.2.2.2.2.2.2.2.2.2.1
        have hfw := (HF.out w3 HB3.out).2.2.2.2.1
        by_cases hev : Dk.chc l at0 % 2 = 0
        · have hev2 : (((Dk.chc l at0 : Nat) : Int) % 2 == 0) = true := by rw [beq_iff_eq]; omega
          obtain ⟨n, hn⟩ : ∃ n, n = Dk.chc l (at0 + 1) % (xs[i].f.pend.length + 1) := ⟨_, rfl⟩
          have hnl : n ≤ xs[i].f.pend.length := by rw [hn]; have := Nat.mod_lt (Dk.chc l (at0 + 1)) (show 0 < xs[i].f.pend.length + 1 by omega); omega
          have hpm := (HF.out w3 HB3.out).2.2.2.2.2.2.2.2.2.2.2.2.2.many
          have hcl1 := Dk.chc_lt l (at0 + 1)
          have hcl2 := Dk.chc_lt l (at0 + 2)
          have t1 : ((at0 : Int) + 1).toNat = at0 + 1 := by omega
          have t2 : ((at0 : Int) + 1 + 1).toNat = at0 + 2 := by omega
          have t3 : ((at0 : Int) + 2).toNat = at0 + 2 := by omega
          have z2 : (0 : Int) ≤ (at0 : Int) + 1 + 1 := by omega
          have z3 : (0 : Int) ≤ (at0 : Int) + 2 := by omega
          have m1 : ((Dk.chc l (at0 + 1) : Nat) : Int).tmod ((xs[i].f.pend.length : Int) + 1) = (n : Int) := by
            rw [Int.tmod_eq_emod_of_nonneg (by omega), hn]; simp
          have m2 : ((Dk.chc l (at0 + 1) : Nat) : Int) % ((xs[i].f.pend.length : Int) + 1) = (n : Int) := by rw [hn]; simp
          have k1 : IntKind.i64.wrap ((at0 : Int) + 1 + 1) = (at0 : Int) + 1 + 1 := IntWalk.i64_in _ (by omega)
          have k2 : IntKind.i64.wrap ((xs[i].f.pend.length : Int) + 1) = (xs[i].f.pend.length : Int) + 1 := IntWalk.i64_in _ (by omega)
          have HN := Lib.hid hn
          have HEV := Lib.hid hev
          have HU : Hid (Dk.used xs[i].f.pend (Dk.chc l at0) = 3) := Lib.hid (by unfold Dk.used; rw [if_pos hev])
          clear hn hev
          go_wp2_with (at_builtin; refine Lib.wpList_append_run _ rfl _ _ _ _ rfl _ _ rfl rfl _ _ HRUN.out ?_)
          clear fb1'
          go_quiet ((go_at_call 61; exact Calls.quiet_of_same (rf_choiceN w3 _ _ l _ (by omega) HR3.out hll)))
          clear m1 m2 k1 k2
          go_wp2_with fail
          rw [t1, t2]
          have HBd : Hid (Below w4.heap.size w4 (w3.drewN nq)) := Lib.hid (dk_below_drewN HB3.out nq)
          have HDd : Hid (RdC c1 (w3.drewN nq) (.slice a3 xs[i].f.dur.length c3) xs[i].f.dur) := Lib.hid ((RdC.own0 HO3.out (HF.out w4 (Below.refl _ _)).2.2.2.2.2.2.2.2.2.2.2.2.1).below (dk_below_drewN (Below.refl _ _) nq))
          generalize w3.drewN nq = wd at *
          clear t1 t2 t3 z2 z3 HR3 HO3 HB3 hfw b1
          go_loopw [9, 12] (fun dv kv wr => ∃ k : Nat, kv = .int .i64 k ∧ k ≤ n ∧ Hid (RdC c1 wr dv (Dk.contents xs[i].f.dur (xs[i].f.pend.take k))) ∧ Hid (Below w4.heap.size w4 wr)) (fun _ kv _ => n - (RowKit.intOf kv).toNat)
          case atStart => exact ⟨0, rfl, Nat.zero_le _, HDd, HBd⟩
          case round =>
            obtain ⟨k, rfl, hk, HD, HB⟩ := hrel
            clear HDd HBd
            obtain ⟨da', dc', rfl⟩ := HD.out.1.form
            have hall := HF.out wr HB.out
            obtain ⟨hbr, q0, q1, q2, q3, q4, q5, q6, q7, q8, q9, q10, q11, q12⟩ := hall
            have hdk := Dk.contents_take_le xs[i].f.dur xs[i].f.pend k
            have hsz := HSZ.out
            unfold Dk.Fl.contents at hsz
            by_cases hkn : k < n
            · have hkl : k < xs[i].f.pend.length := by omega
              obtain ⟨_, bv, hw0, _, d1, d2, hrd, hpos, hbd⟩ := q12.write HWV.out k hkl
              cases hw0
              have hap := rf_apply wr.drew _ bv (Dk.contents xs[i].f.dur (xs[i].f.pend.take k)) xs[i].f.pend[k].b xs[i].f.pend[k].off HD.out.1.at_drew hrd.at_drew (by omega) (by omega)
              rw [Dk.rapply_pos _ _ _ hpos, show Dk.over (Dk.contents xs[i].f.dur (xs[i].f.pend.take k)) xs[i].f.pend[k].off xs[i].f.pend[k].b = Dk.contents xs[i].f.dur (xs[i].f.pend.take (k + 1)) from (Dk.contents_take _ _ k hkl).symm] at hap
              obtain ⟨ba, bc, rfl⟩ := hrd.form
              have HAP := Lib.hid hap
              have HQ11 := Lib.hid q11
              generalize xs[i].f.pend[k].off = off at *
              generalize xs[i].f.pend[k].b.length = bl at *
              have i3 : (k : Int) < xs[i].f.pend.length := by omega
              clear hap hrd q0 q1 q2 q4 q5 q6 q7 q8 q9 q10 q11 q12 hsz hdk hbd
              go_wp2_with fail
              refine wp_region_still_tail 13 (by kernel_rfl) (by kernel_rfl) ?_
              simp only [List.take_succ_cons, List.take_zero, List.drop_succ_cons, List.drop_zero]
              change wpStill _ _ (World.drew _) _ _ _
              repeat still_step
              refine wpStill_nil ?_
              go_wp2_with fail
              refine HAP.out.mono ?_
              rintro e w5 ⟨v5, rfl, hown5, hb5⟩
              have HD5 := Lib.hid (RdC.own0 hown5 HQ11.out)
              have HB5 := Lib.hid (HB.out.drew.trans (hb5.mono HB.out.size))
              obtain ⟨a5, c5, rfl⟩ := rf_own_form hown5
              clear hown5 hb5
              go_wp2_with fail
              refine ⟨⟨k + 1, by go_num, by omega, HD5, HB5⟩, by simp [RowKit.intOf] <;> omega⟩
            · obtain rfl : k = n := by omega
              by_cases hkl : k < xs[i].f.pend.length
              · obtain ⟨_, bv, hw0, _, d1, d2, hrd, hpos, hbd⟩ := q12.write HWV.out k hkl
                cases hw0
                obtain ⟨kk, hkk⟩ : ∃ kk, kk = Dk.chc l (at0 + 2) % (xs[i].f.pend[k].b.length + 1) := ⟨_, rfl⟩
                have hkkl : kk ≤ xs[i].f.pend[k].b.length := by rw [hkk]; have := Nat.mod_lt (Dk.chc l (at0 + 2)) (show 0 < xs[i].f.pend[k].b.length + 1 by omega); omega
                have hfin : Dk.contents xs[i].f.dur (Dk.surv xs[i].f.pend (l.drop at0)).1 = Dk.rapply (Dk.contents xs[i].f.dur (xs[i].f.pend.take k)) xs[i].f.pend[k].off (xs[i].f.pend[k].b.take kk) := by
                  rw [Dk.surv_even _ _ _ _ HEV.out (fun w hw => by
                    obtain ⟨j, hj⟩ := List.getElem?_of_mem hw
                    obtain ⟨hj1, hj2⟩ := List.getElem?_eq_some_iff.1 hj
                    have := q12.write HWV.out j hj1
                    obtain ⟨_, _, _, _, _, _, _, hpos, _⟩ := this
                    rw [← hj2]; exact hpos), ← HN.out, List.getElem?_eq_getElem hkl]
                  simp only []
                  rw [← hkk]
                obtain ⟨ba, bc, rfl, hbc, htk⟩ := hrd.takeN
                have hap := rf_apply wr.drew _ _ (Dk.contents xs[i].f.dur (xs[i].f.pend.take k)) (xs[i].f.pend[k].b.take kk) xs[i].f.pend[k].off HD.out.1.at_drew (htk kk hkkl).at_drew (by omega) (by rw [List.length_take]; omega)
                rw [← hfin] at hap
                have hfs : (Dk.contents xs[i].f.dur (Dk.surv xs[i].f.pend (l.drop at0)).1).length ≤ 16777216 := by
                  rw [hfin, Dk.rapply_length]
                  split
                  · omega
                  · rw [List.length_take]; omega
                obtain ⟨fin, hfd⟩ : ∃ fin, fin = Dk.contents xs[i].f.dur (Dk.surv xs[i].f.pend (l.drop at0)).1 := ⟨_, rfl⟩
                rw [← hfd] at hap hfs
                have HFD := Lib.hid hfd
                have HAP := Lib.hid hap
                have HQ11 := Lib.hid q11
                have m1 : ((Dk.chc l (at0 + 2) : Nat) : Int).tmod ((xs[i].f.pend[k].b.length : Int) + 1) = (kk : Int) := by
                  rw [Int.tmod_eq_emod_of_nonneg (by omega), hkk]; simp
                have m2 : ((Dk.chc l (at0 + 2) : Nat) : Int) % ((xs[i].f.pend[k].b.length : Int) + 1) = (kk : Int) := by rw [hkk]; simp
                have i3 : (k : Int) < xs[i].f.pend.length := by omega
                have i4 : (0 : Int) ≤ (kk : Int) := by omega
                have i5 : (kk : Int) ≤ bc := by omega
                have i6 : kk ≤ bc := by omega
                generalize xs[i].f.pend[k].off = off at *
                generalize xs[i].f.pend[k].b.length = bl at *
                have k2 : IntKind.i64.wrap ((bl : Int) + 1) = (bl : Int) + 1 := IntWalk.i64_in _ (by omega)
                have k3 : ¬ ((bl : Int) + 1 = 0) := by omega
                have k4 : (((bl : Int) + 1) == 0) = false := by rw [beq_eq_false_iff_ne]; omega
                clear hap hrd htk hkk hfin hfd q0 q1 q2 q4 q5 q6 q7 q8 q9 q10 q11 q12 hsz hdk hbd
                go_wp2_with fail
                refine wp_region_still_tail 24 (by kernel_rfl) (by kernel_rfl) ?_
                simp only [List.take_succ_cons, List.take_zero, List.drop_succ_cons, List.drop_zero]
                change wpStill _ _ (World.drew _) _ _ _
                repeat still_step
                refine wpStill_nil ?_
                go_wp2_with fail
                refine HAP.out.mono ?_
                rintro e w5 ⟨v5, rfl, hown5, hb5⟩
                have HD5 := Lib.hid (RdC.own0 hown5 HQ11.out)
                have HB5 := Lib.hid (HB.out.drew.trans (hb5.mono HB.out.size))
                obtain ⟨a5, c5, rfl⟩ := rf_own_form hown5
                clear hown5 hb5 m1 m2 k2 k3 k4 i4 i5 i6 d1 d2
                obtain ⟨hbr5, s0, s1, s2, s3, s4, s5, s6, s7, s8, s9, s10, s11, s12⟩ := HF.out w5 HB5.out
                have hput := HPUT.out w5 hbr5 fin _ HD5.out HFD.out hfs
                rw [show Dk.used xs[i].f.pend (Dk.chc l at0) = 3 from HU.out] at hput
                have HP := Lib.hid hput
                clear hput hbr5 s10 s11 s12
                go_wp2_with fail
                refine ⟨⟨at0 + 3, i + 1, _, by go_num, by go_num, by omega, HP⟩, by simp [RowKit.intOf] <;> omega⟩
              · have hkn2 : k = xs[i].f.pend.length := by omega
                obtain ⟨fin, hfd⟩ : ∃ fin, fin = Dk.contents xs[i].f.dur (Dk.surv xs[i].f.pend (l.drop at0)).1 := ⟨_, rfl⟩
                have hfin : fin = Dk.contents xs[i].f.dur (xs[i].f.pend.take k) := by
                  rw [hfd, Dk.surv_even _ _ _ _ HEV.out (fun w hw => by
                    obtain ⟨j, hj⟩ := List.getElem?_of_mem hw
                    obtain ⟨hj1, hj2⟩ := List.getElem?_eq_some_iff.1 hj
                    have := q12.write HWV.out j hj1
                    obtain ⟨_, _, _, _, _, _, _, hpos, _⟩ := this
                    rw [← hj2]; exact hpos), ← HN.out, List.getElem?_eq_none (by omega)]
                have hfs : fin.length ≤ 16777216 := by rw [hfin]; omega
                have HFD := Lib.hid hfd
                rw [← hfin] at HD
                have hdl2 : (Dk.contents xs[i].f.dur (xs[i].f.pend.take k)).length = fin.length := by rw [hfin]
                rw [hdl2]
                have HD5 := HD
                have HB5 := HB
                clear hfin hfd q0 q1 q2 q3 q4 q5 q6 q7 q8 q9 q10 q11 q12 hsz hdk hdl2 hbr HD HB
                obtain ⟨hbr5, s0, s1, s2, s3, s4, s5, s6, s7, s8, s9, s10, s11, s12⟩ := HF.out wr HB5.out
                have hput := HPUT.out wr hbr5 fin _ HD5.out HFD.out hfs
                rw [show Dk.used xs[i].f.pend (Dk.chc l at0) = 3 from HU.out] at hput
                have HP := Lib.hid hput
                clear hput hbr5 s10 s11 s12
                go_wp2_with fail
                refine ⟨⟨at0 + 3, i + 1, _, by go_num, by go_num, by omega, HP⟩, by simp [RowKit.intOf] <;> omega⟩
        · have hev2 : (((Dk.chc l at0 : Nat) : Int) % 2 == 0) = false := by rw [beq_eq_false_iff_ne]; omega
          have hpm := (HF.out w3 HB3.out).2.2.2.2.2.2.2.2.2.2.2.2.2.many
          have HEV := Lib.hid hev
          have HU : Hid (Dk.used xs[i].f.pend (Dk.chc l at0) = 1 + xs[i].f.pend.length) := Lib.hid (by unfold Dk.used; rw [if_neg hev])
          clear hev
          go_wp2_with (at_builtin; refine Lib.wpList_append_run _ rfl _ _ _ _ rfl _ _ rfl rfl _ _ HRUN.out ?_)
          clear fb1'
          have HDd : Hid (RdC c1 w3 (.slice a3 xs[i].f.dur.length c3) xs[i].f.dur) := Lib.hid (RdC.own0 HO3.out (HF.out w4 (Below.refl _ _)).2.2.2.2.2.2.2.2.2.2.2.2.1)
          clear HR3 HO3 hfw b1
          go_loopw [5, 9, 13] (fun av dv kv wr => ∃ k : Nat, av = .int .i64 (at0 + 1 + k : Nat) ∧ kv = .int .i64 k ∧ k ≤ xs[i].f.pend.length ∧ Hid (RdC c1 wr dv (Dk.contents xs[i].f.dur (Dk.oddS (xs[i].f.pend.take k) (l.drop (at0 + 1))).1)) ∧ Hid (Below w4.heap.size w4 wr)) (fun _ _ kv _ => xs[i].f.pend.length - (RowKit.intOf kv).toNat)
          case atStart => exact ⟨0, by go_num, rfl, Nat.zero_le _, HDd, HB3⟩
          case round =>
            obtain ⟨k, rfl, rfl, hk, HD, HB⟩ := hrel
            clear HDd HB3
            obtain ⟨da', dc', rfl⟩ := HD.out.1.form
            obtain ⟨hbr, q0, q1, q2, q3, q4, q5, q6, q7, q8, q9, q10, q11, q12⟩ := HF.out wr HB.out
            have hwin : ∀ m, (Dk.contents xs[i].f.dur (Dk.oddS (xs[i].f.pend.take m) (l.drop (at0 + 1))).1).length ≤ 16777216 := fun m => by
              refine Dk.contents_within _ _ hdl (Dk.oddS_within _ _ fun w hw => ?_)
              obtain ⟨j, hj⟩ := List.getElem?_of_mem (List.mem_of_mem_take hw)
              obtain ⟨hj1, hj2⟩ := List.getElem?_eq_some_iff.1 hj
              obtain ⟨_, _, _, _, _, _, _, hpos, hbd⟩ := q12.write HWV.out j hj1
              rw [← hj2]
              exact ⟨hpos, hbd⟩
            have hwk := hwin k
            by_cases hkl : k < xs[i].f.pend.length
            · obtain ⟨_, bv, hw0, _, d1, d2, hrd, hpos, hbd⟩ := q12.write HWV.out k hkl
              cases hw0
              have hpc := rf_pieces (c := c1) wr.drew _ bv (Dk.contents xs[i].f.dur (Dk.oddS (xs[i].f.pend.take k) (l.drop (at0 + 1))).1) xs[i].f.pend[k].b xs[i].f.pend[k].off (Dk.chc l (at0 + 1 + k)) q11 (HD.out.below (Below.refl _ _).drew) hrd.at_drew (Dk.chc_lt _ _) hwk hbd
              have hch := rf_choiceZ wr.drew (.slice la l.length lc) l ((at0 : Int) + 1 + k) (by omega) q10.at_drew hll
              have t1 : ((at0 : Int) + 1 + k).toNat = at0 + 1 + k := by omega
              rw [t1] at hch
              rw [show (⟨xs[i].f.pend[k].off, xs[i].f.pend[k].b⟩ : Dk.Wr) = xs[i].f.pend[k] from rfl, ← Dk.chc_drop, ← Dk.oddS_take _ _ _ _ hkl, Dk.chc_drop] at hpc
              obtain ⟨ba, bc, rfl⟩ := hrd.form
              have HPC := Lib.hid hpc
              have HCH := Lib.hid hch
              have i3 : (k : Int) < xs[i].f.pend.length := by omega
              rw [show ((at0 + 1 + k : Nat) : Int) = (at0 : Int) + 1 + k by omega]
              generalize xs[i].f.pend[k].off = off at *
              generalize xs[i].f.pend[k].b.length = bl at *
              clear hpc hch hrd hwin hwk q0 q1 q2 q4 q5 q6 q7 q8 q9 q10 q11 q12 hbd t1
              go_wp2_with fail
              refine wp_region_still_tail 9 (by kernel_rfl) (by kernel_rfl) ?_
              simp only [List.take_succ_cons, List.take_zero, List.drop_succ_cons, List.drop_zero]
              change wpStill _ _ (World.drew _) _ _ _
              repeat still_step
              still_call HCH.out
              refine wpStill_nil ?_
              go_wp2_with fail
              refine HPC.out.mono ?_
              rintro e w5 ⟨v5, rfl, hd5, hb5⟩
              have HD5 := Lib.hid hd5
              have HB5 := Lib.hid (HB.out.drew.trans (hb5.mono HB.out.size))
              obtain ⟨a5, c5, rfl⟩ := hd5.1.form
              clear hd5 hb5
              go_wp2_with fail
              refine ⟨⟨k + 1, by go_num, by go_num, by omega, HD5, HB5⟩, by simp [RowKit.intOf] <;> omega⟩
            · obtain rfl : k = xs[i].f.pend.length := by omega
              rw [List.take_length] at HD hwk
              obtain ⟨fin, hfd⟩ : ∃ fin, fin = Dk.contents xs[i].f.dur (Dk.surv xs[i].f.pend (l.drop at0)).1 := ⟨_, rfl⟩
              have hfin : fin = Dk.contents xs[i].f.dur (Dk.oddS xs[i].f.pend (l.drop (at0 + 1))).1 := by rw [hfd, Dk.surv_odd _ _ _ HEV.out]
              rw [← hfin] at HD
              have hfs : fin.length ≤ 16777216 := by rw [hfin]; exact hwk
              have HFD := Lib.hid hfd
              rw [List.take_length, ← hfin]
              have HD5 := HD
              have HB5 := HB
              rw [show ((at0 + 1 + xs[i].f.pend.length : Nat) : Int) = (at0 : Int) + 1 + xs[i].f.pend.length by omega]
              clear hfin hfd q0 q1 q2 q3 q4 q5 q6 q7 q8 q9 q10 q11 q12 hwin hwk hbr HD HB
              obtain ⟨hbr5, s0, s1, s2, s3, s4, s5, s6, s7, s8, s9, s10, s11, s12⟩ := HF.out wr HB5.out
              have hput := HPUT.out wr hbr5 fin _ HD5.out HFD.out hfs
              rw [show Dk.used xs[i].f.pend (Dk.chc l at0) = 1 + xs[i].f.pend.length from HU.out] at hput
              have HP := Lib.hid hput
              clear hput hbr5 s10 s11 s12
              go_wp2_with fail
              refine ⟨⟨at0 + (1 + xs[i].f.pend.length), i + 1, _, by go_num, by go_num, by omega, HP⟩, by simp [RowKit.intOf] <;> omega⟩
    · obtain rfl : i = xs.length := by omega
      have hwz2 : W.heap.size + 1 < W1.heap.size := (Array.getElem?_eq_some_iff.1 HROW2.out).1
      have hne2 : (Value.slice a1 xs.length p1).ownBlock ≠ some (W.heap.size + 1) := fun e => by have := (HO1.out.lt _ e).1; omega
      have z0 := (HI.out.chg.block (W.heap.size + 1) hwz2 (fun e => hne2 e.symm)).trans HROW2.out
      have e1 : wr.cell? ⟨W.heap.size, 1, none⟩ = some (.int .i64 (-1)) := by rw [cell_of_row wr _ _ _ _ _ q0]; rfl
      have e2 : wr.cell? ⟨W.heap.size, 2, none⟩ = some (.bool false) := by rw [cell_of_row wr _ _ _ _ _ q0]; rfl
      have g0 := dk_frozen wr (W.heap.size + 1) 0 _ _ z0
      have g1 := dk_frozen wr (W.heap.size + 1) 1 _ _ z0
      have g2 := dk_frozen wr (W.heap.size + 1) 2 _ _ z0
      have c0 : wr.cell? ⟨W.heap.size + 1, 0, none⟩ = some (.slice none 0 0) := by rw [cell_of_row wr _ _ _ _ _ z0]; rfl
      have c1' : wr.cell? ⟨W.heap.size + 1, 1, none⟩ = some (.int .i64 0) := by rw [cell_of_row wr _ _ _ _ _ z0]; rfl
      have c2 : wr.cell? ⟨W.heap.size + 1, 2, none⟩ = some (.bool false) := by rw [cell_of_row wr _ _ _ _ _ z0]; rfl
      have Z0 := Lib.hid z0
      have HNE2 := Lib.hid hne2
      clear q0 z0 hne2 HXS
      go_wp2_with fail
      have hr3 := rf_store3 (v0 := .slice a1 xs.length p1) (v1 := .int .i64 (-1)) (v2 := .bool false) Z0.out
      have hgr := rf_store3_grown (w := wr) (b := W.heap.size + 1) (v0 := .slice a1 xs.length p1) (v1 := .int .i64 (-1)) (v2 := .bool false)
      have hs3 := HI.out.own.kept hgr (Or.inr HNE2.out)
      rw [List.drop_length, List.append_nil] at hs3
      refine bodyPost_ret (results_cell_row rfl _ _ (W.heap.size + 1) _ _ (0, 0) _ rfl hr3 Tryz.underlying27 rfl (by kernel_rfl)) rfl ?_
      have hpl := HI.out.pl
      rw [List.take_of_length_le (by simp)] at hpl
      have hln := HI.out.len
      refine ⟨_, ys, rfl, by rw [hpl], RfAt.own0 (B := W0.heap.size) (by rw [← hln] at hs3 ⊢; exact hs3) (HC.out.mono (by omega)) (fun y hy => (HI.out.ats y hy).keep hgr.size (fun b hb h0 => ?_)) (by omega), ?_⟩
      · obtain ⟨h1, h2⟩ := HCBK.out b h0
        exact ⟨hgr.block b hb (fun e => by cases e; exact h1 rfl), h2⟩
      · have hb1 : Below W.heap.size W wr := HBW.out.grown HI.out.chg HBW.out.size (fun k hk => by have := (HO1.out.lt k hk).1; omega)
        exact ((hb1.setCell (by simp) _).setCell (by simp) _).setCell (by simp) _

end Go.Proofs.YtegahpgnmeobhaaGreatDoor
