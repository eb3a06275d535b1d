/-
  Parse: the ways out before the first token.
  Parse: the main way (printed by wip/gen/par.py).
-/
import Derived.Test.YthijakidnkhbnaaGreatDoorPsRest
import Derived.Test.YthijakidnkhbnaaGreatDoorOrd
import Derived.Laws.Tables
import Derived.Laws.Rows
import Derived.Deep.DeepCutAuto
import Derived.Deep.CutBlock

namespace Go.Proofs.YthijakidnkhbnaaGreatDoor
open Go.RowKit

theorem pr_results3 {P : Program} {fn : Func} {p u v : Tmp} {ty : TypeId} (h : fn.results = #[.cell p ty, .tmp u, .tmp v]) (tmps : Array Value) (w : World) (g : Nat) (t : TypeId) (cs : Array Value) (fr : Nat × Nat) (d : TypeDesc)
    (hp : tmps.getD p undef = .pointer (some ⟨g, 0, none⟩)) (hg : w.heap[g]? = some (.cells cs t fr))
    (hu : P.underlying ty = some d) (hd : (match d with | .struct _ | .array _ _ => true | _ => false) = true) (hi : (P.info? ty).map (·.size) = some cs.size) :
    (results fn tmps).run P w = .ok (.tuple #[.agg cs, tmps.getD u undef, tmps.getD v undef]) w := by
  have hp' : tmps[p]?.getD undef = .pointer (some ⟨g, 0, none⟩) := by simpa using hp
  simp [results, h, hp', asAddr, run_loadVar_row w g t ty cs fr d hg hu hd hi]

theorem below_setRow {w W : World} {g : Nat} (h : Below g w W) (_hg : Nat.le g g) (cs : Array Value) : Below g w (W.setRow g cs) := by
  refine ⟨h.os, h.tape, h.output, by have := h.size; simpa [World.setRow] using this, fun j hj => ?_⟩
  have hne : g ≠ j := by omega
  have : (W.setRow g cs).heap[j]? = W.heap[j]? := by simp [World.setRow, Array.getElem?_modify, hne]
  rw [this]
  exact h.block j hj

theorem setRow_ne (W : World) (g j : Nat) (cs : Array Value) (h : g ≠ j) : (W.setRow g cs).heap[j]? = W.heap[j]? := by simp [World.setRow, Array.getElem?_modify, h]

def zeroReq : Array Value := reqCells {} nilL
theorem reqCells_one (Q : Ps.Req) (a : Option Addr) (n c : Nat) : (reqCells Q (.slice a n c)).all (·.oneCell') = true := by
  rw [← Array.all_toList]
  simp [reqCells, insCells, amdCells, Value.oneCell']
theorem zeroReq_one : zeroReq.all (·.oneCell') = true := reqCells_one _ _ _ _

set_option maxRecDepth 100000 in
set_option maxHeartbeats 1000000 in
theorem ps_parseTok (w : World) (s : ByteArray) (at_ x : Int) (hx : ¬ x = 0)
    (n1 : Hid (∀ W, Below w.heap.size w W → Calls Tryz.prog 19 #[.string s] W fun e W' => ∃ v, e = .returned (.tuple #[v, .int .i64 at_, .int .i64 x]) ∧ Below W.heap.size W W')) :
    Calls Tryz.prog 9 #[.string s] w fun e W' => e = .returned (.tuple #[.agg zeroReq, .int .i64 at_, .int .i64 x]) ∧ Below w.heap.size w W' := by
  obtain ⟨g, hg⟩ : ∃ g, g = w.heap.size := ⟨_, rfl⟩
  go_enter Tryz.func9, Tryz.ntmps9
  go_wp2_with fail
  refine (n1.out _ ((Below.refl _ _).alloc (Nat.le_refl _) _)).mono ?_
  rintro e w1 ⟨v, rfl, hb⟩
  obtain ⟨W1, hW1⟩ : ∃ W1, W1 = w.alloc (.cells zeroReq 29) := ⟨_, rfl⟩
  have hb1 : Below W1.heap.size W1 w1 := by rw [hW1]; exact hb
  have hrow1 : W1.heap[g]? = some (.cells zeroReq 29 (0, 0)) := by rw [hW1, hg]; exact ps_alloc_new w _
  have hrow : w1.heap[g]? = some (.cells zeroReq 29 (0, 0)) := (hb1.block g (Array.getElem?_eq_some_iff.1 hrow1).1).trans hrow1
  have HB := Lib.hid hb1
  have HR := Lib.hid hrow
  clear hb hb1 hrow1 hrow n1
  have HG := Lib.hid hg
  have HW := Lib.hid hW1
  clear hg hW1
  go_upto_region 3 with fail
  refine wp_region_lit ?_
  refine wpList_plain rfl (fun K hK => ?_)
  go_simp
  refine hK _ _ ?_
  clear hK K
  refine wpList_plain rfl (fun K hK => ?_)
  go_simp
  refine hK _ _ ?_
  clear hK K
  refine wpList_plain rfl (fun K hK => ?_)
  go_simp
  refine hK _ _ ?_
  clear hK K
  refine wpList_store_row rfl _ _ _ rfl g zeroReq (by rw [HG.out]; rfl) rfl _ _ HR.out (by kernel_rfl) rfl zeroReq_one ?_
  go_wp2_with fail
  refine bodyPost_ret (pr_results3 rfl _ _ g _ zeroReq (0, 0) _ (by rw [HG.out]; rfl) (setRow_heap w1 g _ zeroReq _ _ HR.out) Tryz.underlying29 rfl (by kernel_rfl)) rfl ?_
  refine ⟨rfl, ?_⟩
  have hB1 : Below g W1 w1 := HB.out.mono (by rw [HW.out, HG.out]; exact ((Below.refl _ _).alloc (Nat.le_refl _) _).size)
  have hB0 : Below w.heap.size w W1 := by rw [HW.out]; exact (Below.refl _ _).alloc (Nat.le_refl _) _
  rw [← HG.out] at hB0 ⊢
  exact below_setRow (hB0.trans hB1) (Nat.le_refl _) zeroReq

/-- the row of a reader without tokens -/
def rdNil (la : Option Addr) (lc : Nat) (e : Int) : Array Value := #[.slice la 0 lc, .int .i64 0, .int .i64 0, .int .i64 e]

set_option maxRecDepth 100000 in
set_option maxHeartbeats 400000 in
theorem ps_moreNil (W : World) (r : Nat) (la : Option Addr) (lc : Nat) (e : Int) (b1 : Bool) (hrow : W.heap[r]? = some (.cells (rdNil la lc e) 68 (0, 0))) (h1 : (e == 0) = b1) :
    Calls Tryz.prog 25 #[.pointer (some ⟨r, 0, none⟩)] W fun x W' => x = .returned (.bool false) ∧ ∃ k, W' = W.drewN k := by
  have k0 : W.cell? ⟨r, 0, none⟩ = some (.slice la 0 lc) := by rw [cell_of_row _ _ _ _ _ _ hrow]; rfl
  have k1 : W.cell? ⟨r, 1, none⟩ = some (.int .i64 0) := by rw [cell_of_row _ _ _ _ _ _ hrow]; rfl
  have k3 : W.cell? ⟨r, 3, none⟩ = some (.int .i64 e) := by rw [cell_of_row _ _ _ _ _ _ hrow]; rfl
  clear hrow
  cases b1
  all_goals
    go_enter Tryz.func25, Tryz.ntmps25
    go_wp2_with fail
    go_quiet (fail)
    go_wp2_with fail
    go_ret
    exact ⟨rfl, _, rfl⟩

set_option maxRecDepth 100000 in
set_option maxHeartbeats 400000 in
theorem ps_needNil (W : World) (r : Nat) (la : Option Addr) (lc : Nat) (hrow : W.heap[r]? = some (.cells (rdNil la lc 0) 68 (0, 0))) :
    Calls Tryz.prog 20 #[.pointer (some ⟨r, 0, none⟩)] W fun x W' => x = .returned (.bool false) ∧ W'.heap[r]? = some (.cells (rdNil la lc 4) 68 (0, 0)) ∧ Tch r r W W' := by
  have n1 := ps_moreNil W r la lc 0 true hrow rfl
  have HR := Lib.hid hrow
  clear hrow
  go_enter Tryz.func20, Tryz.ntmps20
  go_wp2_with fail
  refine n1.mono ?_
  rintro x w ⟨rfl, k, rfl⟩
  obtain ⟨w, hw0⟩ : ∃ w, w = W.drewN k := ⟨_, rfl⟩
  have hr : w.heap[r]? = some (.cells (rdNil la lc 0) 68 (0, 0)) := by rw [hw0]; exact HR.out
  have k0 : w.cell? ⟨r, 0, none⟩ = some (.slice la 0 lc) := by rw [cell_of_row _ _ _ _ _ _ hr]; rfl
  have k3 : w.cell? ⟨r, 3, none⟩ = some (.int .i64 0) := by rw [cell_of_row _ _ _ _ _ _ hr]; rfl
  have f3 := ps_frozen 3 hr
  have HT : Hid (Tch r r W w) := Lib.hid (by rw [hw0]; exact Tch.drewN _ _ _ _)
  have HRW := Lib.hid hr
  rw [← hw0]
  clear n1 hw0 hr HR
  go_wp2_with fail
  go_ret
  exact ⟨rfl, ps_setCell w r 3 _ _ _ HRW.out, HT.out.setCell 3 _⟩

set_option maxRecDepth 100000 in
set_option maxHeartbeats 1000000 in
/-- no token: the request is short -/
theorem ps_parseNone (w : World) (s : ByteArray) (at_ : Int)
    (n1 : Hid (∀ W, Below w.heap.size w W → Calls Tryz.prog 19 #[.string s] W fun e W' => ∃ la lc, e = .returned (.tuple #[.slice la 0 lc, .int .i64 at_, .int .i64 0]) ∧ Below W.heap.size W W')) :
    Calls Tryz.prog 9 #[.string s] w fun e W' => e = .returned (.tuple #[.agg zeroReq, .int .i64 0, .int .i64 4]) ∧ Below w.heap.size w W' := by
  obtain ⟨g, hg⟩ : ∃ g, g = w.heap.size := ⟨_, rfl⟩
  go_enter Tryz.func9, Tryz.ntmps9
  go_wp2_with fail
  refine (n1.out _ ((Below.refl _ _).alloc (Nat.le_refl _) _)).mono ?_
  rintro e w1 ⟨la, lc, rfl, hb⟩
  obtain ⟨W1, hW1⟩ : ∃ W1, W1 = w.alloc (.cells zeroReq 29) := ⟨_, rfl⟩
  have hb1 : Below W1.heap.size W1 w1 := by rw [hW1]; exact hb
  have hrow1 : W1.heap[g]? = some (.cells zeroReq 29 (0, 0)) := by rw [hW1, hg]; exact ps_alloc_new w _
  have hrow : w1.heap[g]? = some (.cells zeroReq 29 (0, 0)) := (hb1.block g (Array.getElem?_eq_some_iff.1 hrow1).1).trans hrow1
  have HB := Lib.hid hb1
  have HR := Lib.hid hrow
  clear hb hb1 hrow1 hrow n1
  have HG := Lib.hid hg
  have HW := Lib.hid hW1
  clear hg hW1
  obtain ⟨W2, hW2⟩ : ∃ W2, W2 = (w1.alloc (.cells (rdNil la lc 0) 68)).alloc (.cells zeroReq 29) := ⟨_, rfl⟩
  obtain ⟨r, hr⟩ : ∃ r, r = w1.heap.size := ⟨_, rfl⟩
  have hrr : W2.heap[r]? = some (.cells (rdNil la lc 0) 68 (0, 0)) := by
    rw [hW2, hr, ((Below.refl _ _).alloc (Nat.le_refl _) (.cells zeroReq 29)).block _ (by simp)]
    exact ps_alloc_new w1 _
  have hb2 : Below w1.heap.size w1 W2 := by rw [hW2]; exact ((Below.refl _ _).alloc (Nat.le_refl _) _).alloc (by simp) _
  have n2 := ps_needNil W2 r la lc hrr
  have HR2 := Lib.hid (hr)
  have HB2 := Lib.hid hb2
  unfold rdNil zeroReq reqCells insCells amdCells at hW2
  simp only [List.cons_append, List.nil_append] at hW2
  rw [hW2, hr] at n2
  clear hrr hb2 hr
  go_wp2_with fail
  refine n2.mono ?_
  rw [← hW2]
  rintro e w2 ⟨rfl, hr2, hT2⟩
  clear n2 hW2
  rw [← HR2.out] at hr2 hT2 ⊢
  have n3 := ps_moreNil w2 r la lc 4 false hr2 rfl
  have k2 : w2.cell? ⟨r, 2, none⟩ = some (.int .i64 0) := by rw [cell_of_row _ _ _ _ _ _ hr2]; rfl
  have k3 : w2.cell? ⟨r, 3, none⟩ = some (.int .i64 4) := by rw [cell_of_row _ _ _ _ _ _ hr2]; rfl
  have HT2 := Lib.hid hT2
  have HR3 := Lib.hid hr2
  clear hr2 hT2
  go_wp2_with fail
  refine n3.mono ?_
  rintro e w3 ⟨rfl, k, rfl⟩
  have e2 : (w2.drewN k).cell? ⟨r, 2, none⟩ = some (.int .i64 0) := k2
  have e3 : (w2.drewN k).cell? ⟨r, 3, none⟩ = some (.int .i64 4) := k3
  clear n3 k2 k3
  go_upto_region 22 with fail
  have hg1 : g < w1.heap.size := (Array.getElem?_eq_some_iff.1 HR.out).1
  have hgr : g ≠ r := by have := HR2.out; omega
  have hRg : (w2.drewN k).heap[g]? = some (.cells zeroReq 29 (0, 0)) := by
    have h1 : W2.heap[g]? = some (.cells zeroReq 29 (0, 0)) := (HB2.out.block g hg1).trans HR.out
    exact (HT2.out.block g (Array.getElem?_eq_some_iff.1 h1).1 hgr hgr).trans h1
  obtain ⟨W5, hW5⟩ : ∃ W5, W5 = (w2.drewN k).drew := ⟨_, rfl⟩
  have d2 : W5.cell? ⟨r, 2, none⟩ = some (.int .i64 0) := by rw [hW5]; exact e2
  have d3 : W5.cell? ⟨r, 3, none⟩ = some (.int .i64 4) := by rw [hW5]; exact e3
  have h2 : (W5.setRow g zeroReq).cell? ⟨r, 2, none⟩ = some (.int .i64 0) := (World.cell?_of_block (a := ⟨r, 2, none⟩) (setRow_ne W5 g r zeroReq hgr)).trans d2
  have h3 : (W5.setRow g zeroReq).cell? ⟨r, 3, none⟩ = some (.int .i64 4) := (World.cell?_of_block (a := ⟨r, 3, none⟩) (setRow_ne W5 g r zeroReq hgr)).trans d3
  refine Ord.wp_region_text2 (fun b w => w = if b then W5.setRow g zeroReq else W5) 9 rfl (by kernel_rfl) (by kernel_rfl) (by rw [hW5]; rfl) ?_
  have HRG : Hid (W5.heap[g]? = some (.cells zeroReq 29 (0, 0))) := Lib.hid (by rw [hW5]; exact hRg)
  have HW5 := Lib.hid hW5
  clear hRg hW5 e2 e3
  refine Ord.text_pure (v := ?_) rfl rfl (fun w => ?_) (fun K hK => ?_)
  rotate_left
  · (go_simp; first | done | exact rfl)
  go_simp
  refine hK _ ?_
  clear hK K
  refine Ord.text_pure (v := ?_) rfl rfl (fun w => ?_) (fun K hK => ?_)
  rotate_left
  · (go_simp; first | done | exact rfl)
  go_simp
  refine hK _ ?_
  clear hK K
  refine Ord.text_pure (v := ?_) rfl rfl (fun w => ?_) (fun K hK => ?_)
  rotate_left
  · (go_simp; first | done | exact rfl)
  go_simp
  refine hK _ ?_
  clear hK K
  refine Ord.text_pure (v := ?_) rfl rfl (fun w => ?_) (fun K hK => ?_)
  rotate_left
  · (go_simp; first | done | exact rfl)
  go_simp
  refine hK _ ?_
  clear hK K
  refine Ord.text_read (v := ?_) rfl rfl (fun b w hS => ?_) (fun K hK => ?_)
  rotate_left
  · (cases b <;> (simp only [Bool.false_eq_true, if_true, if_false] at hS; rw [hS]; go_simp; first | done | exact rfl))
  go_simp
  refine hK _ ?_
  clear hK K
  refine Ord.text_pure (v := ?_) rfl rfl (fun w => ?_) (fun K hK => ?_)
  rotate_left
  · (go_simp; first | done | exact rfl)
  go_simp
  refine hK _ ?_
  clear hK K
  refine Ord.text_pure (v := ?_) rfl rfl (fun w => ?_) (fun K hK => ?_)
  rotate_left
  · (go_simp; first | done | exact rfl)
  go_simp
  refine hK _ ?_
  clear hK K
  refine Ord.text_pure (v := ?_) rfl rfl (fun w => ?_) (fun K hK => ?_)
  rotate_left
  · (go_simp; first | done | exact rfl)
  go_simp
  refine hK _ ?_
  clear hK K
  refine Ord.text_read (v := ?_) rfl rfl (fun b w hS => ?_) (fun K hK => ?_)
  rotate_left
  · (cases b <;> (simp only [Bool.false_eq_true, if_true, if_false] at hS; rw [hS]; go_simp; first | done | exact rfl))
  go_simp
  refine hK _ ?_
  clear hK K
  refine Ord.text_store_row rfl rfl _ _ _ rfl rfl g zeroReq (by rw [HG.out]; rfl) rfl _ _ (fun w hS => by simp only [Bool.false_eq_true, if_false] at hS; rw [hS]; exact HRG.out) (by kernel_rfl) rfl zeroReq_one (fun w hS => by simp only [Bool.false_eq_true, if_false] at hS; rw [hS]; rfl) ?_
  refine Ord.text_pure (v := ?_) rfl rfl (fun w => ?_) (fun K hK => ?_)
  rotate_left
  · (go_simp; first | done | exact rfl)
  go_simp
  refine hK _ ?_
  clear hK K
  refine Ord.text_pure (v := ?_) rfl rfl (fun w => ?_) (fun K hK => ?_)
  rotate_left
  · (go_simp; first | done | exact rfl)
  go_simp
  refine hK _ ?_
  clear hK K
  refine Ord.text_end (fun w hS => ?_)
  have hS : w = W5.setRow g zeroReq := hS
  subst hS
  go_wp2_with fail
  refine bodyPost_ret (pr_results3 rfl _ _ g _ zeroReq (0, 0) _ (by rw [HG.out]; rfl) (setRow_heap W5 g _ zeroReq _ _ HRG.out) Tryz.underlying29 rfl (by kernel_rfl)) rfl ?_
  refine ⟨rfl, ?_⟩
  have hgw : g = w.heap.size := HG.out
  have hB0 : Below w.heap.size w W1 := by rw [HW.out]; exact (Below.refl _ _).alloc (Nat.le_refl _) _
  have hB1 : Below w.heap.size w w1 := hB0.trans (HB.out.mono hB0.size)
  have hB2 := hB1.trans (HB2.out.mono hB1.size)
  have hB3 : Below w.heap.size w w2 := hB2.trans (HT2.out.below (by have := HR2.out; omega) (by have := HR2.out; omega) hB2.size)
  have hB5 : Below w.heap.size w W5 := by rw [HW5.out]; exact (below_drewN' hB3 k).drew
  rw [← hgw] at hB5 ⊢
  exact below_setRow hB5 (Nat.le_refl _) zeroReq

end Go.Proofs.YthijakidnkhbnaaGreatDoor

namespace Go.Proofs.YthijakidnkhbnaaGreatDoor
open Go.RowKit

theorem pr_storeRow {P : Program} (w : World) (g : Nat) (t : TypeId) (c c' : Array Value) (hg : w.heap[g]? = some (.cells c t (0, 0))) (hi : (P.info? t).map (·.size) = some c'.size) (ho : c.size = c'.size) (h1 : c'.all (·.oneCell') = true) :
    (storeCells ⟨g, 0, none⟩ c'.toList 0).run P w = .ok () (w.setRow g c') := by
  have := run_storeVar_row (P := P) w g t t c c' hg hi ho h1
  cases hq : P.info? t with
  | none => simp [hq] at hi
  | some i =>
    have hs : c'.size = i.size := by simp [hq] at hi; omega
    simpa [storeVar, sizeOf, typeInfo, hq, Value.cells, hs] using this

/-- the middle: the verb is looked for, the rest of the line is read -/
inductive ParMid (r q : Nat) (t : ByteArray) (P3 P7 : World → Prop) : Prop
  | found (P4 P5 P6 : Nat → World → Prop) (j0 : Nat) (v0 : ByteArray) (fn : Nat) (x : ByteArray) (a : Nat) (hj0 : fmRows[j0]? = some (v0, fn)) (htx : (v0.toList == t.toList) = true) (hlow : ∀ (j : Nat) (y : ByteArray × Nat), j < j0 → fmRows[j]? = some y → (y.1.toList == t.toList) = false)
      (eg : ∀ args w, (callFunc fn args).run Tryz.prog w = .ok (.enter fn args) w) (hw1 : wrap64 ((a : Int) + 1) = (a : Int) + 1)
      (s5 : Hid (∀ w w', P3 w → w' = w.alloc (.cells #[.string v0, .func (.func fn) #[] #[]] 74) → (w'.cell? ⟨r, 1, none⟩ = some (.int .i64 a) ∧ w'.frozen? ⟨r, 1, none⟩ = false) ∧ P4 w.heap.size (w'.setCell ⟨r, 1, none⟩ (.int .i64 ((a : Int) + 1)))))
      (n6 : Hid (∀ w b, P4 b w → Calls Tryz.prog 23 #[.pointer (some ⟨r, 0, none⟩)] w fun e W' => e = .returned (.string x) ∧ P5 b W'))
      (s6 : Hid (∀ w b, P5 b w → ((∃ u, w.cell? ⟨q, 2, none⟩ = some u) ∧ w.frozen? ⟨q, 2, none⟩ = false) ∧ P6 b (w.setCell ⟨q, 2, none⟩ (.string x))))
      (k6 : Hid (∀ w b, P6 b w → w.cell? ⟨b, 1, none⟩ = some (.func (.func fn) #[] #[])))
      (n7 : Hid (∀ w b, P6 b w → Calls Tryz.prog fn #[.pointer (some ⟨r, 0, none⟩), .pointer (some ⟨q, 0, none⟩)] w fun e W' => e = .returned (.tuple #[]) ∧ P7 W'))
  | none (hall : ∀ (j : Nat) (y : ByteArray × Nat), fmRows[j]? = some y → (y.1.toList == t.toList) = false) (n7 : Hid (∀ w, P3 w → Calls Tryz.prog 24 #[.pointer (some ⟨r, 0, none⟩), .int .i64 30] w fun e W' => e = .returned (.tuple #[]) ∧ P7 W'))

/-- the end: an error, or a request that is checked -/
inductive ParEnd (g r q tb : Nat) (P9 : World → Prop) (Post : Value → Int → Int → World → Prop) : Prop
  | err (o e0 : Int) (hgrr : g ≠ r) (hE : Hid (∀ w, P9 w → (e0 == 0) = false ∧ (w.heap[g]? = some (.cells zeroReq 29 (0, 0)) ∧ w.cell? ⟨r, 2, none⟩ = some (.int .i64 o) ∧ w.cell? ⟨r, 3, none⟩ = some (.int .i64 e0)) ∧ Post (.agg zeroReq) o e0 (w.drew.setRow g zeroReq)))
  | subBad (x1 x2 : ByteArray) (o c : Int) (hc : (c == 0) = false) (hgtt : g ≠ tb)
      (hS : Hid (∀ w, P9 w → ∃ (Q : Ps.Req) (qa : Option Addr) (qn qc : Nat), w.cell? ⟨r, 3, none⟩ = some (.int .i64 0) ∧ w.cell? ⟨q, 0, none⟩ = some (.int .i64 0) ∧ w.cell? ⟨q, 5, none⟩ = some (.string x1) ∧ w.cell? ⟨q, 2, none⟩ = some (.string x2) ∧ ((∃ u, w.cell? ⟨q, 1, none⟩ = some u) ∧ (∃ u, w.cell? ⟨q, 3, none⟩ = some u) ∧ w.frozen? ⟨q, 1, none⟩ = false ∧ w.frozen? ⟨q, 3, none⟩ = false ∧ (w.setCell ⟨q, 1, none⟩ (.string x1)).frozen? ⟨q, 3, none⟩ = false) ∧
        ((w.setCell ⟨q, 1, none⟩ (.string x1)).setCell ⟨q, 3, none⟩ (.string x2)).heap[q]? = some (.cells (reqCells Q (.slice qa qn qc)) 29 (0, 0)) ∧
        Calls Tryz.prog 26 #[.agg (reqCells Q (.slice qa qn qc))] ((w.setCell ⟨q, 1, none⟩ (.string x1)).setCell ⟨q, 3, none⟩ (.string x2)) fun e W' => e = .returned (.int .i64 c) ∧ W'.heap[g]? = some (.cells zeroReq 29 (0, 0)) ∧ W'.cell? ⟨tb, 2, none⟩ = some (.int .i64 o) ∧ Post (.agg zeroReq) o c (W'.drew.setRow g zeroReq)))
  | subOk (x1 x2 : ByteArray)
      (hS : Hid (∀ w, P9 w → ∃ (Q : Ps.Req) (qa : Option Addr) (qn qc : Nat), w.cell? ⟨r, 3, none⟩ = some (.int .i64 0) ∧ w.cell? ⟨q, 0, none⟩ = some (.int .i64 0) ∧ w.cell? ⟨q, 5, none⟩ = some (.string x1) ∧ w.cell? ⟨q, 2, none⟩ = some (.string x2) ∧ ((∃ u, w.cell? ⟨q, 1, none⟩ = some u) ∧ (∃ u, w.cell? ⟨q, 3, none⟩ = some u) ∧ w.frozen? ⟨q, 1, none⟩ = false ∧ w.frozen? ⟨q, 3, none⟩ = false ∧ (w.setCell ⟨q, 1, none⟩ (.string x1)).frozen? ⟨q, 3, none⟩ = false) ∧
        ((w.setCell ⟨q, 1, none⟩ (.string x1)).setCell ⟨q, 3, none⟩ (.string x2)).heap[q]? = some (.cells (reqCells Q (.slice qa qn qc)) 29 (0, 0)) ∧
        Calls Tryz.prog 26 #[.agg (reqCells Q (.slice qa qn qc))] ((w.setCell ⟨q, 1, none⟩ (.string x1)).setCell ⟨q, 3, none⟩ (.string x2)) fun e W' => e = .returned (.int .i64 0) ∧ W'.heap[g]? = some (.cells zeroReq 29 (0, 0)) ∧ W'.heap[q]? = some (.cells (reqCells Q (.slice qa qn qc)) 29 (0, 0)) ∧ Post (.agg (reqCells Q (.slice qa qn qc))) 0 0 (W'.setRow g (reqCells Q (.slice qa qn qc)))))
  | opBad (op : Int) (hop : (op == 0) = false) (o c : Int) (hc : (c == 0) = false) (hgtt : g ≠ tb)
      (hS : Hid (∀ w, P9 w → ∃ (Q : Ps.Req) (qa : Option Addr) (qn qc : Nat), w.cell? ⟨r, 3, none⟩ = some (.int .i64 0) ∧ w.cell? ⟨q, 0, none⟩ = some (.int .i64 op) ∧ w.heap[q]? = some (.cells (reqCells Q (.slice qa qn qc)) 29 (0, 0)) ∧
        Calls Tryz.prog 26 #[.agg (reqCells Q (.slice qa qn qc))] w fun e W' => e = .returned (.int .i64 c) ∧ W'.heap[g]? = some (.cells zeroReq 29 (0, 0)) ∧ W'.cell? ⟨tb, 2, none⟩ = some (.int .i64 o) ∧ Post (.agg zeroReq) o c (W'.drew.setRow g zeroReq)))
  | opOk (op : Int) (hop : (op == 0) = false)
      (hS : Hid (∀ w, P9 w → ∃ (Q : Ps.Req) (qa : Option Addr) (qn qc : Nat), w.cell? ⟨r, 3, none⟩ = some (.int .i64 0) ∧ w.cell? ⟨q, 0, none⟩ = some (.int .i64 op) ∧ w.heap[q]? = some (.cells (reqCells Q (.slice qa qn qc)) 29 (0, 0)) ∧
        Calls Tryz.prog 26 #[.agg (reqCells Q (.slice qa qn qc))] w fun e W' => e = .returned (.int .i64 0) ∧ W'.heap[g]? = some (.cells zeroReq 29 (0, 0)) ∧ W'.heap[q]? = some (.cells (reqCells Q (.slice qa qn qc)) 29 (0, 0)) ∧ Post (.agg (reqCells Q (.slice qa qn qc))) 0 0 (W'.setRow g (reqCells Q (.slice qa qn qc)))))

/-- all that follows the tokens -/
inductive ParTail (g tb n cap : Nat) (w1 : World) (Post : Value → Int → Int → World → Prop) : Prop
  | mk (t : ByteArray) (P1 P2 P7 P8 P9 : World → Prop) (P3 : Nat → World → Prop) (b : Bool) (hn : 0 < n)
    (n2 : Calls Tryz.prog 20 #[.pointer (some ⟨w1.heap.size, 0, none⟩)] ((w1.alloc (.cells (rdCells tb n cap 0 0 0) 68)).alloc (.cells zeroReq 29)) fun e W' => e = .returned (.bool true) ∧ P1 W')
    (n3 : Hid (∀ w, P1 w → Calls Tryz.prog 21 #[.pointer (some ⟨w1.heap.size, 0, none⟩)] w fun e W' => e = .returned (.string t) ∧ P2 W'))
    (h3 : Hid (∀ w w', P2 w → w' = w.alloc (.cells fmCells.toArray 74) → P3 w.heap.size w'))
    (h3a : Hid (∀ fb w cs, P3 fb w → P3 fb (w.alloc (.cells cs 74))))
    (h3c : Hid (∀ fb w, P3 fb w → ∀ (j : Nat) (x : ByteArray × Nat), fmRows[j]? = some x → w.cell? ⟨fb, j * 2, none⟩ = some (.string x.1) ∧ w.cell? ⟨fb, j * 2 + 1, none⟩ = some (.func (.func x.2) #[] #[])))
    (mid : Hid (∀ fb, ParMid w1.heap.size (w1.heap.size + 1) t (P3 fb) P7))
    (n8 : Hid (∀ w, P7 w → Calls Tryz.prog 25 #[.pointer (some ⟨w1.heap.size, 0, none⟩)] w fun e W' => e = .returned (.bool b) ∧ P8 W'))
    (n9 : Hid (b = true → ∀ w, P8 w → Calls Tryz.prog 24 #[.pointer (some ⟨w1.heap.size, 0, none⟩), .int .i64 30] w fun e W' => e = .returned (.tuple #[]) ∧ P9 W'))
    (n9b : Hid (b = false → ∀ w, P8 w → P9 w))
    (fin : ParEnd g w1.heap.size (w1.heap.size + 1) tb P9 Post)

set_option maxRecDepth 100000 in
set_option maxHeartbeats 16000000 in
theorem ps_parseMain (w : World) (s : ByteArray) (Post : Value → Int → Int → World → Prop)
    (n1 : Hid (∀ g, g = w.heap.size → Calls Tryz.prog 19 #[.string s] (w.alloc (.cells zeroReq 29)) fun e W' => ∃ tb n cap at_, e = .returned (.tuple #[.slice (some ⟨tb, 0, none⟩) n cap, .int .i64 at_, .int .i64 0]) ∧ ParTail g tb n cap W' Post)) :
    Calls Tryz.prog 9 #[.string s] w fun e W' => ∃ rv o x, e = .returned (.tuple #[rv, .int .i64 o, .int .i64 x]) ∧ Post rv o x W' := by
  obtain ⟨g, hg⟩ : ∃ g, g = w.heap.size := ⟨_, rfl⟩
  have m1 := n1.out g hg
  unfold zeroReq reqCells insCells amdCells at m1
  simp only [List.cons_append, List.nil_append] at m1
  go_enter Tryz.func9, Tryz.ntmps9
  rw [hg] at m1
  go_wp2_with fail
  refine m1.mono ?_
  rintro e w1 ⟨tb, n, cap, at_, rfl, tl⟩
  rw [← hg] at tl
  clear m1 n1
  cases tl with
  | mk t P1 P2 P7 P8 P9 P3 b hn n2 n3 h3 h3a h3c mid n8 n9 n9b fin =>
  obtain ⟨r, hr⟩ : ∃ r, r = w1.heap.size := ⟨_, rfl⟩
  obtain ⟨q, hq⟩ : ∃ q, q = w1.heap.size + 1 := ⟨_, rfl⟩
  unfold zeroReq reqCells insCells amdCells rdCells at n2
  simp only [List.cons_append, List.nil_append] at n2
  rw [← hg]
  go_upto_if 30 with fail

  refine n2.mono ?_
  rintro e w2 ⟨rfl, p1⟩
  rw [← hq, ← hr]
  rw [← hq, ← hr] at fin
  rw [← hr] at n3 n8 n9
  rw [← hq, ← hr] at mid
  clear n2
  have HG := Lib.hid hg
  have HR := Lib.hid hr
  have HQ0 := Lib.hid hq
  clear hg hr hq
  go_upto_if 30 with fail
  go_cut [] (fun wx => Hid (P7 wx))
  case first =>
    clear n8 n9 n9b fin
    have m3 := n3.out w2 p1
    clear n3
    go_wp2_with fail
    refine m3.mono ?_
    rintro e w3 ⟨rfl, p2⟩
    have m4 := ps_forms w3
    have H3 := Lib.hid (h3.out w3 _ p2 rfl)
    clear m3 p1
    go_wp2_with fail
    refine m4.mono ?_
    rintro e w4 ⟨rfl, hw4⟩
    rw [← hw4] at H3
    obtain ⟨fb, hfb⟩ : ∃ fb, fb = w3.heap.size := ⟨_, rfl⟩
    rw [← hfb] at H3 ⊢
    have hm := mid.out fb
    clear m4 hw4 h3 p2 mid hfb
    cases hm with
    | none hall n7 =>
      have HALL := Lib.hid hall
      clear hall
      go_wp2_with fail
      go_loopw [11, 13, 35] (fun fv _ iv wr => ∃ j : Nat, fv = .bool false ∧ iv = .int .i64 j ∧ j ≤ 9 ∧ Hid (P3 fb wr)) (fun _ _ iv _ => 9 - (RowKit.intOf iv).toNat)
      case atStart => exact ⟨0, rfl, rfl, by omega, H3⟩
      case round =>
        obtain ⟨j, rfl, rfl, hj, HP⟩ := hrel
        by_cases hlt : j < 9
        · obtain ⟨y, hy⟩ : ∃ y, fmRows[j]? = some y := ⟨_, List.getElem?_eq_getElem (by exact hlt)⟩
          obtain ⟨v0, fn⟩ := y
          obtain ⟨y0, y1⟩ := h3c.out fb wr HP.out j _ hy
          have hte := HALL.out j _ hy
          have hjI : (j : Int) < 9 := by omega
          have hw1 : wrap64 ((j : Int) + 1) = ((j + 1 : Nat) : Int) := by unfold wrap64; omega
          have HP2 := Lib.hid (h3a.out fb wr #[.string v0, .func (.func fn) #[] #[]] HP.out)
          clear hy n7
          go_wp2_with fail
          refine ⟨⟨j + 1, by first | rfl | trivial, by first | rfl | go_num, by omega, HP2⟩, by simp [RowKit.intOf] <;> omega⟩
        · have hjI : ¬ (j : Int) < 9 := by omega
          have m7 := n7.out wr HP.out
          clear n7 hlt
          go_wp2_with fail
          refine m7.mono ?_
          rintro e w7 ⟨rfl, p7⟩
          have HP7 := Lib.hid p7
          clear m7 p7
          go_wp2_with fail
          go_meet
          case rel => exact HP7
    | found P4 P5 P6 j0 v0 fn x a hj0 htx hlow eg hw1 s5 n6 s6 k6 n7 =>
      have HLOW := Lib.hid hlow
      clear hlow
      go_wp2_with fail
      go_loopw [13, 35] (fun _ iv wr => ∃ j : Nat, iv = .int .i64 j ∧ j ≤ j0 ∧ Hid (P3 fb wr)) (fun _ iv _ => 9 - (RowKit.intOf iv).toNat)
      case atStart => exact ⟨0, rfl, by omega, H3⟩
      case round =>
        obtain ⟨j, rfl, hj, HP⟩ := hrel
        have hj09 : j0 < 9 := (List.getElem?_eq_some_iff.1 hj0).1
        have hjI : (j : Int) < 9 := by omega
        by_cases hlt : j < j0
        · obtain ⟨y, hy⟩ : ∃ y, fmRows[j]? = some y := ⟨_, List.getElem?_eq_getElem (by show j < 9; omega)⟩
          obtain ⟨v1, fn1⟩ := y
          obtain ⟨y0, y1⟩ := h3c.out fb wr HP.out j _ hy
          have hte := HLOW.out j _ hlt hy
          have hw2 : wrap64 ((j : Int) + 1) = ((j + 1 : Nat) : Int) := by unfold wrap64; omega
          have HP2 := Lib.hid (h3a.out fb wr #[.string v1, .func (.func fn1) #[] #[]] HP.out)
          clear hy hj0 htx eg hw1 s5 n6 s6 k6 n7
          go_wp2_with fail
          refine ⟨⟨j + 1, by first | rfl | go_num, by omega, HP2⟩, by simp [RowKit.intOf] <;> omega⟩
        · obtain rfl : j = j0 := by omega
          obtain ⟨y0, y1⟩ := h3c.out fb wr HP.out j _ hj0
          obtain ⟨⟨c1, c2⟩, p4⟩ := s5.out wr _ HP.out rfl
          have m6 := n6.out _ _ p4
          clear s5 n6 p4 HLOW hj0
          go_wp2_with fail
          refine m6.mono ?_
          rintro e w6 ⟨rfl, p5⟩
          obtain ⟨⟨⟨c3, c4⟩, c5⟩, p6⟩ := s6.out w6 _ p5
          have k7 := k6.out _ _ p6
          have m7 := n7.out _ _ p6
          clear m6 s6 k6 n7 p5 p6 c1 c2
          go_wp2_with (go_at_fn fn; refine m7.mono ?_; rintro e w7 ⟨rfl, p7⟩; have HP7 := Lib.hid p7; clear p7)
          go_meet
          case rel => exact HP7
  case rest =>
    have hp7 := hcut
    clear n3 h3 h3a h3c mid hcut
    have m8 := n8.out _ hp7.out
    clear n8
    go_upto_if 63 with fail
    refine m8.mono ?_
    rintro e w8 ⟨rfl, p8⟩
    clear m8 hp7
    go_upto_if 63 with fail
    go_cut [] (fun wx => Hid (P9 wx))
    case first =>
      clear fin
      cases b with
      | true =>
        have m9 := n9.out rfl _ p8
        clear n9 n9b p8
        go_wp2_with fail
        refine m9.mono ?_
        rintro e w9 ⟨rfl, p9⟩
        have HP9 := Lib.hid p9
        clear m9 p9
        go_wp2_with fail
        go_meet
        case rel => exact HP9
      | false =>
        have HP9 := Lib.hid (n9b.out rfl _ p8)
        clear n9 n9b p8
        go_wp2_with fail
        go_meet
        case rel => exact HP9
    case rest =>
      cases fin with
      | err o e0 hgrr hE =>
        obtain ⟨he, ⟨hz, k2, k3⟩, hpo⟩ := hE.out wc hcut.out
        have hgr : Hid (g ≠ r) := hgrr
        have HRZ := Lib.hid hz
        have HPO0 := Lib.hid hpo
        clear hz hpo hE n9 n9b hcut
        go_upto_region 22 with fail
        obtain ⟨W5, hW5⟩ : ∃ W5, W5 = wc.drew := ⟨_, rfl⟩
        have d2 : W5.cell? ⟨r, 2, none⟩ = some (.int .i64 o) := by rw [hW5]; exact k2
        have d3 : W5.cell? ⟨r, 3, none⟩ = some (.int .i64 e0) := by rw [hW5]; exact k3
        have h2 : (W5.setRow g zeroReq).cell? ⟨r, 2, none⟩ = some (.int .i64 o) := (World.cell?_of_block (a := ⟨r, 2, none⟩) (setRow_ne W5 g r zeroReq hgr.out)).trans d2
        have h3 : (W5.setRow g zeroReq).cell? ⟨r, 3, none⟩ = some (.int .i64 e0) := (World.cell?_of_block (a := ⟨r, 3, none⟩) (setRow_ne W5 g r zeroReq hgr.out)).trans d3
        have HRG : Hid (W5.heap[g]? = some (.cells zeroReq 29 (0, 0))) := Lib.hid (by rw [hW5]; exact HRZ.out)
        have HPO : Hid (Post (.agg zeroReq) o e0 (W5.setRow g zeroReq)) := Lib.hid (by rw [hW5]; exact HPO0.out)
        refine Ord.wp_region_text2 (fun b w => w = if b then W5.setRow g zeroReq else W5) 9 rfl (by kernel_rfl) (by kernel_rfl) (by rw [hW5]; rfl) ?_
        clear hW5 k2 k3
        refine Ord.text_pure (v := ?_) rfl rfl (fun w => ?_) (fun K hK => ?_)
        rotate_left
        · (go_simp; first | done | exact rfl)
        go_simp
        refine hK _ ?_
        clear hK K
        refine Ord.text_pure (v := ?_) rfl rfl (fun w => ?_) (fun K hK => ?_)
        rotate_left
        · (go_simp; first | done | exact rfl)
        go_simp
        refine hK _ ?_
        clear hK K
        refine Ord.text_pure (v := ?_) rfl rfl (fun w => ?_) (fun K hK => ?_)
        rotate_left
        · (go_simp; first | done | exact rfl)
        go_simp
        refine hK _ ?_
        clear hK K
        refine Ord.text_pure (v := ?_) rfl rfl (fun w => ?_) (fun K hK => ?_)
        rotate_left
        · (go_simp; first | done | exact rfl)
        go_simp
        refine hK _ ?_
        clear hK K
        refine Ord.text_read (v := ?_) rfl rfl (fun b w hS => ?_) (fun K hK => ?_)
        rotate_left
        · (cases b <;> (simp only [Bool.false_eq_true, if_true, if_false] at hS; rw [hS]; go_simp; first | done | exact rfl))
        go_simp
        refine hK _ ?_
        clear hK K
        refine Ord.text_pure (v := ?_) rfl rfl (fun w => ?_) (fun K hK => ?_)
        rotate_left
        · (go_simp; first | done | exact rfl)
        go_simp
        refine hK _ ?_
        clear hK K
        refine Ord.text_pure (v := ?_) rfl rfl (fun w => ?_) (fun K hK => ?_)
        rotate_left
        · (go_simp; first | done | exact rfl)
        go_simp
        refine hK _ ?_
        clear hK K
        refine Ord.text_pure (v := ?_) rfl rfl (fun w => ?_) (fun K hK => ?_)
        rotate_left
        · (go_simp; first | done | exact rfl)
        go_simp
        refine hK _ ?_
        clear hK K
        refine Ord.text_read (v := ?_) rfl rfl (fun b w hS => ?_) (fun K hK => ?_)
        rotate_left
        · (cases b <;> (simp only [Bool.false_eq_true, if_true, if_false] at hS; rw [hS]; go_simp; first | done | exact rfl))
        go_simp
        refine hK _ ?_
        clear hK K
        refine Ord.text_store_row rfl rfl _ _ _ rfl rfl g zeroReq (by first | rfl | (rw [HG.out]; rfl)) rfl _ _ (fun w hS => by simp only [Bool.false_eq_true, if_false] at hS; rw [hS]; exact HRG.out) (by kernel_rfl) rfl zeroReq_one (fun w hS => by simp only [Bool.false_eq_true, if_false] at hS; rw [hS]; rfl) ?_
        refine Ord.text_pure (v := ?_) rfl rfl (fun w => ?_) (fun K hK => ?_)
        rotate_left
        · (go_simp; first | done | exact rfl)
        go_simp
        refine hK _ ?_
        clear hK K
        refine Ord.text_pure (v := ?_) rfl rfl (fun w => ?_) (fun K hK => ?_)
        rotate_left
        · (go_simp; first | done | exact rfl)
        go_simp
        refine hK _ ?_
        clear hK K
        refine Ord.text_end (fun w hS => ?_)
        have hS : w = W5.setRow g zeroReq := hS
        rw [hS]
        clear hS
        go_wp2_with fail
        refine bodyPost_ret (pr_results3 rfl _ _ g _ zeroReq (0, 0) _ (by first | rfl | (rw [HG.out]; rfl)) (setRow_heap W5 g _ zeroReq _ _ HRG.out) Tryz.underlying29 rfl (by kernel_rfl)) rfl ?_
        exact ⟨_, _, _, rfl, HPO.out⟩
      | subBad x1 x2 o c hc hgtt hS =>
        obtain ⟨Q, qa, qn, qc, k3, k0, k5, k2q, ⟨⟨v1, c1⟩, ⟨v3, c3⟩, f1, f3, f31⟩, hq2, m1⟩ := hS.out wc hcut.out
        obtain ⟨cs, hcs⟩ : ∃ cs, cs = reqCells Q (.slice qa qn qc) := ⟨_, rfl⟩
        rw [← hcs] at hq2 m1
        have HCS := Lib.hid hcs
        have HC1 : Hid (cs.all (·.oneCell') = true) := Lib.hid (by rw [hcs]; exact reqCells_one Q qa qn qc)
        clear hcs
        have HQ := Lib.hid hq2
        have M1 := Lib.hid m1
        clear hq2 m1 hS n9 n9b hcut
        go_upto_region 25 with fail
        have m1 := M1.out
        clear M1 k3 k0 k5 k2q c1 c3 f1 f3 f31
        refine wp_region_lit ?_
        refine wpList_load_row rfl _ _ rfl q rfl _ _ _ _ HQ.out Tryz.underlying29 rfl (by rw [HCS.out]; kernel_rfl) ?_
        go_wp2_with fail
        refine m1.mono ?_
        rintro e wy ⟨rfl, hy⟩
        clear m1
        obtain ⟨hzz, k2, hpo⟩ := hy
        have HRZ := Lib.hid hzz
        have HPO0 := Lib.hid hpo
        have hgt : Hid (g ≠ tb) := hgtt
        clear hzz hpo
        go_upto_region 27 with fail
        obtain ⟨W5, hW5⟩ : ∃ W5, W5 = wy.drew := ⟨_, rfl⟩
        have d2 : W5.cell? ⟨tb, 2, none⟩ = some (.int .i64 o) := by rw [hW5]; exact k2
        have h2 : (W5.setRow g zeroReq).cell? ⟨tb, 2, none⟩ = some (.int .i64 o) := (World.cell?_of_block (a := ⟨tb, 2, none⟩) (setRow_ne W5 g tb zeroReq hgt.out)).trans d2
        have HRG : Hid (W5.heap[g]? = some (.cells zeroReq 29 (0, 0))) := Lib.hid (by rw [hW5]; exact HRZ.out)
        have HPO : Hid (Post (.agg zeroReq) o c (W5.setRow g zeroReq)) := Lib.hid (by rw [hW5]; exact HPO0.out)
        refine Ord.wp_region_text2 (fun b w => w = if b then W5.setRow g zeroReq else W5) 6 rfl (by kernel_rfl) (by kernel_rfl) (by rw [hW5]; rfl) ?_
        clear hW5 k2
        refine Ord.text_pure (v := ?_) rfl rfl (fun w => ?_) (fun K hK => ?_)
        rotate_left
        · (go_simp; first | done | exact rfl)
        go_simp
        refine hK _ ?_
        clear hK K
        refine Ord.text_pure (v := ?_) rfl rfl (fun w => ?_) (fun K hK => ?_)
        rotate_left
        · (go_simp; first | done | exact rfl)
        go_simp
        refine hK _ ?_
        clear hK K
        refine Ord.text_pure (v := ?_) rfl rfl (fun w => ?_) (fun K hK => ?_)
        rotate_left
        · (go_simp; first | done | exact rfl)
        go_simp
        refine hK _ ?_
        clear hK K
        refine Ord.text_pure (v := ?_) rfl rfl (fun w => ?_) (fun K hK => ?_)
        rotate_left
        · (go_simp; first | done | exact rfl)
        go_simp
        refine hK _ ?_
        clear hK K
        refine Ord.text_read (v := ?_) rfl rfl (fun b w hS => ?_) (fun K hK => ?_)
        rotate_left
        · (cases b <;> (simp only [Bool.false_eq_true, if_true, if_false] at hS; rw [hS]; go_simp; first | done | exact rfl))
        go_simp
        refine hK _ ?_
        clear hK K
        refine Ord.text_pure (v := ?_) rfl rfl (fun w => ?_) (fun K hK => ?_)
        rotate_left
        · (go_simp; first | done | exact rfl)
        go_simp
        refine hK _ ?_
        clear hK K
        refine Ord.text_store_row rfl rfl _ _ _ rfl rfl g zeroReq (by first | rfl | (rw [HG.out]; rfl)) rfl _ _ (fun w hS => by simp only [Bool.false_eq_true, if_false] at hS; rw [hS]; exact HRG.out) (by kernel_rfl) rfl zeroReq_one (fun w hS => by simp only [Bool.false_eq_true, if_false] at hS; rw [hS]; rfl) ?_
        refine Ord.text_pure (v := ?_) rfl rfl (fun w => ?_) (fun K hK => ?_)
        rotate_left
        · (go_simp; first | done | exact rfl)
        go_simp
        refine hK _ ?_
        clear hK K
        refine Ord.text_pure (v := ?_) rfl rfl (fun w => ?_) (fun K hK => ?_)
        rotate_left
        · (go_simp; first | done | exact rfl)
        go_simp
        refine hK _ ?_
        clear hK K
        refine Ord.text_end (fun w hS => ?_)
        have hS : w = W5.setRow g zeroReq := hS
        rw [hS]
        clear hS
        go_wp2_with fail
        refine bodyPost_ret (pr_results3 rfl _ _ g _ zeroReq (0, 0) _ (by first | rfl | (rw [HG.out]; rfl)) (setRow_heap W5 g _ zeroReq _ _ HRG.out) Tryz.underlying29 rfl (by kernel_rfl)) rfl ?_
        exact ⟨_, _, _, rfl, HPO.out⟩
      | subOk x1 x2 hS =>
        obtain ⟨Q, qa, qn, qc, k3, k0, k5, k2q, ⟨⟨v1, c1⟩, ⟨v3, c3⟩, f1, f3, f31⟩, hq2, m1⟩ := hS.out wc hcut.out
        obtain ⟨cs, hcs⟩ : ∃ cs, cs = reqCells Q (.slice qa qn qc) := ⟨_, rfl⟩
        rw [← hcs] at hq2 m1
        have HCS := Lib.hid hcs
        have HC1 : Hid (cs.all (·.oneCell') = true) := Lib.hid (by rw [hcs]; exact reqCells_one Q qa qn qc)
        clear hcs
        have HQ := Lib.hid hq2
        have M1 := Lib.hid m1
        clear hq2 m1 hS n9 n9b hcut
        go_upto_region 25 with fail
        have m1 := M1.out
        clear M1 k3 k0 k5 k2q c1 c3 f1 f3 f31
        refine wp_region_lit ?_
        refine wpList_load_row rfl _ _ rfl q rfl _ _ _ _ HQ.out Tryz.underlying29 rfl (by rw [HCS.out]; kernel_rfl) ?_
        go_wp2_with fail
        refine m1.mono ?_
        rintro e wy ⟨rfl, hy⟩
        clear m1
        obtain ⟨hzz, hqq, hpo⟩ := hy
        have HZZ := Lib.hid hzz
        have HQQ := Lib.hid hqq
        have HPO := Lib.hid hpo
        clear hzz hqq hpo
        go_upto_region 28 with fail
        refine wp_region_lit ?_
        refine wpList_load_row rfl _ _ rfl q rfl _ _ _ _ HQQ.out Tryz.underlying29 rfl (by rw [HCS.out]; kernel_rfl) ?_
        refine wpList_store_row rfl _ _ _ rfl g cs (by first | rfl | (rw [HG.out]; rfl)) rfl _ _ HZZ.out (by rw [HCS.out]; kernel_rfl) (by rw [HCS.out]; rfl) HC1.out ?_
        go_wp2_with fail
        refine bodyPost_ret (pr_results3 rfl _ _ g _ cs (0, 0) _ (by first | rfl | (rw [HG.out]; rfl)) (setRow_heap wy g _ cs _ _ HZZ.out) Tryz.underlying29 rfl (by rw [HCS.out]; kernel_rfl)) rfl ?_
        exact ⟨_, _, _, rfl, HPO.out⟩
      | opBad op hop o c hc hgtt hS =>
        obtain ⟨Q, qa, qn, qc, k3, k0, hq2, m1⟩ := hS.out wc hcut.out
        obtain ⟨cs, hcs⟩ : ∃ cs, cs = reqCells Q (.slice qa qn qc) := ⟨_, rfl⟩
        rw [← hcs] at hq2 m1
        have HCS := Lib.hid hcs
        have HC1 : Hid (cs.all (·.oneCell') = true) := Lib.hid (by rw [hcs]; exact reqCells_one Q qa qn qc)
        clear hcs
        have HQ := Lib.hid hq2
        have M1 := Lib.hid m1
        clear hq2 m1 hS n9 n9b hcut
        go_upto_region 25 with fail
        have m1 := M1.out
        clear M1 k3 k0
        refine wp_region_lit ?_
        refine wpList_load_row rfl _ _ rfl q rfl _ _ _ _ HQ.out Tryz.underlying29 rfl (by rw [HCS.out]; kernel_rfl) ?_
        go_wp2_with fail
        refine m1.mono ?_
        rintro e wy ⟨rfl, hy⟩
        clear m1
        obtain ⟨hzz, k2, hpo⟩ := hy
        have HRZ := Lib.hid hzz
        have HPO0 := Lib.hid hpo
        have hgt : Hid (g ≠ tb) := hgtt
        clear hzz hpo
        go_upto_region 27 with fail
        obtain ⟨W5, hW5⟩ : ∃ W5, W5 = wy.drew := ⟨_, rfl⟩
        have d2 : W5.cell? ⟨tb, 2, none⟩ = some (.int .i64 o) := by rw [hW5]; exact k2
        have h2 : (W5.setRow g zeroReq).cell? ⟨tb, 2, none⟩ = some (.int .i64 o) := (World.cell?_of_block (a := ⟨tb, 2, none⟩) (setRow_ne W5 g tb zeroReq hgt.out)).trans d2
        have HRG : Hid (W5.heap[g]? = some (.cells zeroReq 29 (0, 0))) := Lib.hid (by rw [hW5]; exact HRZ.out)
        have HPO : Hid (Post (.agg zeroReq) o c (W5.setRow g zeroReq)) := Lib.hid (by rw [hW5]; exact HPO0.out)
        refine Ord.wp_region_text2 (fun b w => w = if b then W5.setRow g zeroReq else W5) 6 rfl (by kernel_rfl) (by kernel_rfl) (by rw [hW5]; rfl) ?_
        clear hW5 k2
        refine Ord.text_pure (v := ?_) rfl rfl (fun w => ?_) (fun K hK => ?_)
        rotate_left
        · (go_simp; first | done | exact rfl)
        go_simp
        refine hK _ ?_
        clear hK K
        refine Ord.text_pure (v := ?_) rfl rfl (fun w => ?_) (fun K hK => ?_)
        rotate_left
        · (go_simp; first | done | exact rfl)
        go_simp
        refine hK _ ?_
        clear hK K
        refine Ord.text_pure (v := ?_) rfl rfl (fun w => ?_) (fun K hK => ?_)
        rotate_left
        · (go_simp; first | done | exact rfl)
        go_simp
        refine hK _ ?_
        clear hK K
        refine Ord.text_pure (v := ?_) rfl rfl (fun w => ?_) (fun K hK => ?_)
        rotate_left
        · (go_simp; first | done | exact rfl)
        go_simp
        refine hK _ ?_
        clear hK K
        refine Ord.text_read (v := ?_) rfl rfl (fun b w hS => ?_) (fun K hK => ?_)
        rotate_left
        · (cases b <;> (simp only [Bool.false_eq_true, if_true, if_false] at hS; rw [hS]; go_simp; first | done | exact rfl))
        go_simp
        refine hK _ ?_
        clear hK K
        refine Ord.text_pure (v := ?_) rfl rfl (fun w => ?_) (fun K hK => ?_)
        rotate_left
        · (go_simp; first | done | exact rfl)
        go_simp
        refine hK _ ?_
        clear hK K
        refine Ord.text_store_row rfl rfl _ _ _ rfl rfl g zeroReq (by first | rfl | (rw [HG.out]; rfl)) rfl _ _ (fun w hS => by simp only [Bool.false_eq_true, if_false] at hS; rw [hS]; exact HRG.out) (by kernel_rfl) rfl zeroReq_one (fun w hS => by simp only [Bool.false_eq_true, if_false] at hS; rw [hS]; rfl) ?_
        refine Ord.text_pure (v := ?_) rfl rfl (fun w => ?_) (fun K hK => ?_)
        rotate_left
        · (go_simp; first | done | exact rfl)
        go_simp
        refine hK _ ?_
        clear hK K
        refine Ord.text_pure (v := ?_) rfl rfl (fun w => ?_) (fun K hK => ?_)
        rotate_left
        · (go_simp; first | done | exact rfl)
        go_simp
        refine hK _ ?_
        clear hK K
        refine Ord.text_end (fun w hS => ?_)
        have hS : w = W5.setRow g zeroReq := hS
        rw [hS]
        clear hS
        go_wp2_with fail
        refine bodyPost_ret (pr_results3 rfl _ _ g _ zeroReq (0, 0) _ (by first | rfl | (rw [HG.out]; rfl)) (setRow_heap W5 g _ zeroReq _ _ HRG.out) Tryz.underlying29 rfl (by kernel_rfl)) rfl ?_
        exact ⟨_, _, _, rfl, HPO.out⟩
      | opOk op hop hS =>
        obtain ⟨Q, qa, qn, qc, k3, k0, hq2, m1⟩ := hS.out wc hcut.out
        obtain ⟨cs, hcs⟩ : ∃ cs, cs = reqCells Q (.slice qa qn qc) := ⟨_, rfl⟩
        rw [← hcs] at hq2 m1
        have HCS := Lib.hid hcs
        have HC1 : Hid (cs.all (·.oneCell') = true) := Lib.hid (by rw [hcs]; exact reqCells_one Q qa qn qc)
        clear hcs
        have HQ := Lib.hid hq2
        have M1 := Lib.hid m1
        clear hq2 m1 hS n9 n9b hcut
        go_upto_region 25 with fail
        have m1 := M1.out
        clear M1 k3 k0
        refine wp_region_lit ?_
        refine wpList_load_row rfl _ _ rfl q rfl _ _ _ _ HQ.out Tryz.underlying29 rfl (by rw [HCS.out]; kernel_rfl) ?_
        go_wp2_with fail
        refine m1.mono ?_
        rintro e wy ⟨rfl, hy⟩
        clear m1
        obtain ⟨hzz, hqq, hpo⟩ := hy
        have HZZ := Lib.hid hzz
        have HQQ := Lib.hid hqq
        have HPO := Lib.hid hpo
        clear hzz hqq hpo
        go_upto_region 28 with fail
        refine wp_region_lit ?_
        refine wpList_load_row rfl _ _ rfl q rfl _ _ _ _ HQQ.out Tryz.underlying29 rfl (by rw [HCS.out]; kernel_rfl) ?_
        refine wpList_store_row rfl _ _ _ rfl g cs (by first | rfl | (rw [HG.out]; rfl)) rfl _ _ HZZ.out (by rw [HCS.out]; kernel_rfl) (by rw [HCS.out]; rfl) HC1.out ?_
        go_wp2_with fail
        refine bodyPost_ret (pr_results3 rfl _ _ g _ cs (0, 0) _ (by first | rfl | (rw [HG.out]; rfl)) (setRow_heap wy g _ cs _ _ HZZ.out) Tryz.underlying29 rfl (by rw [HCS.out]; kernel_rfl)) rfl ?_
        exact ⟨_, _, _, rfl, HPO.out⟩

end Go.Proofs.YthijakidnkhbnaaGreatDoor
