/-
  THE REFERENCE: copied, without, with.
-/
import Derived.Test.YtegahpgnmeobhaaGreatDoorRfFiles
import Derived.Test.YtegahpgnmeobhaaGreatDoorDkFile2
import Derived.IntWalk
namespace Go.Proofs.YtegahpgnmeobhaaGreatDoor
open Go.RowKit

/-- files of the reference, appended onto an own row -/
theorem rf_appendF {w : World} (ty : TypeId) (base : Nat) (v : Value) (n : Nat) (xs : List Value) (hown : w.ownsRow base 37 3 v n xs) (a2 : Option Addr) (m c : Nat) (news : List Value) (hl : news.length = m * 3)
    (hnews : ∀ ad, a2 = some ad → ∀ j u, news[j]? = some u → w.cell? (ad.add j) = some u) (h0 : a2 = none → m = 0) (h1 : ∀ u ∈ news, u.oneCell' = true) (hm : n + m ≤ 1000000) (hbase : base ≤ w.heap.size) :
    ∃ v' w', (Builtin.append_ #[25, 25] ty #[v, .slice a2 m c]).run Tryz.prog w = .ok v' w' ∧ w'.ownsRow base 37 3 v' (n + m) (xs ++ news) ∧ w.grownBy w' v.ownBlock := by
  obtain ⟨i0, hi, hz0, hz1, hz2⟩ := info_parts rf_infoF
  exact rf_append 25 ty 37 i0 _ 3 64 Tryz.underlying25 hi hz0 hz1 hz2 rfl (by decide) base v n xs hown a2 m c news hl hnews h0 h1 (by unfold maxLen; omega) (by omega) hbase

theorem rf_other (w : World) (g i : Nat) (v : Value) (b : Nat) (hne : b ≠ g) {o : Obj} (h : w.heap[b]? = some o) : (w.setCell ⟨g, i, none⟩ v).heap[b]? = some o :=
  (Below.heap_setCell w _ v b hne).trans h
theorem rf_store3 {w : World} {b : Nat} {t : TypeId} {x0 x1 x2 v0 v1 v2 : Value} (h : w.heap[b]? = some (.cells #[x0, x1, x2] t (0, 0))) :
    (((w.setCell ⟨b, 0, none⟩ v0).setCell ⟨b, 1, none⟩ v1).setCell ⟨b, 2, none⟩ v2).heap[b]? = some (.cells #[v0, v1, v2] t (0, 0)) := by
  have h1 := dk_setCell w b 0 _ _ v0 h
  have h2 := dk_setCell _ b 1 _ _ v1 h1
  have h3 := dk_setCell _ b 2 _ _ v2 h2
  exact h3
theorem rf_store3_grown {w : World} {b : Nat} {v0 v1 v2 : Value} : w.grownBy (((w.setCell ⟨b, 0, none⟩ v0).setCell ⟨b, 1, none⟩ v1).setCell ⟨b, 2, none⟩ v2) (some b) :=
  dk_grown_setCell _ _ _ 2 _ (dk_grown_setCell _ _ _ 1 _ (dk_grown_setCell _ _ _ 0 _ ⟨rfl, rfl, rfl, Nat.le_refl _, fun _ _ _ => rfl⟩))
theorem rf_new2 (W : World) (o o' : Obj) : ((W.alloc o).alloc o').heap[W.heap.size + 1]? = some o' := by
  have := heap_alloc_new (W.alloc o) o'
  simpa using this

set_option maxRecDepth 100000 in
set_option maxHeartbeats 400000 in
theorem rf_copied {c : Nat → Nat} {W : World} {sv : Value} {xs : List Re} (bud : Int) (down : Bool) (h : RfAt c W sv xs) :
    Calls Tryz.prog 60 #[.agg #[sv, .int .i64 bud, .bool down]] W fun e W' => ∃ sv', e = .returned (.agg #[sv', .int .i64 bud, .bool down]) ∧ W'.ownsRow W.heap.size 37 3 sv' xs.length (reCells xs) ∧ Below W.heap.size W W' := by
  have hlen := h.2.2
  have h1 := h.one
  obtain ⟨ao, cap, rfl, hcap, h0, _, hs⟩ := h.source
  obtain ⟨W2, hW2⟩ : ∃ W2, W2 = (W.alloc (.cells #[.slice ao xs.length cap, .int .i64 bud, .bool down] 27)).alloc (.cells #[.slice none 0 0, .int .i64 0, .bool false] 27) := ⟨_, rfl⟩
  have hb2 : Below W.heap.size W W2 := by rw [hW2]; exact ((Below.refl _ _).alloc (Nat.le_refl _) _).alloc (by simp) _
  have hb : Below W.heap.size W (W2.alloc (.cells #[] 37)) := by rw [hW2]; exact (((Below.refl _ _).alloc (Nat.le_refl _) _).alloc (by simp) _).alloc (by simp; omega) _
  have hz : W2.heap.size = W.heap.size + 2 := by rw [hW2]; simp
  obtain ⟨v', w', hr, ho, hg⟩ := rf_appendF (w := W2.alloc (.cells #[] 37)) 25 W2.heap.size _ 0 [] (World.ownsRow_made W2 #[] 0 (Nat.le_refl _) (Nat.zero_le _) (by simp)) ao xs.length cap (reCells xs) (reCells_length xs) (fun ad ha => hs _ hb ad ha) (fun e => by have := h0 e; omega) h1 (by omega) (by simp)
  rw [Nat.zero_add, List.nil_append] at ho
  have hb' : Below W2.heap.size W2 w' := ((Below.refl _ _).alloc (Nat.le_refl _) _).grown hg (by simp) (by intro k hk; simp [Value.ownBlock] at hk; omega)
  have r1 : w'.heap[W.heap.size]? = some (.cells #[.slice ao xs.length cap, .int .i64 bud, .bool down] 27 (0, 0)) := by
    rw [hb'.block _ (by omega), hW2, Below.heap_alloc _ _ _ (by simp)]; exact heap_alloc_new W _
  have r2 : w'.heap[W.heap.size + 1]? = some (.cells #[.slice none 0 0, .int .i64 0, .bool false] 27 (0, 0)) := by
    rw [hb'.block _ (by omega), hW2]; exact rf_new2 W _ _
  obtain ⟨a', c', rfl⟩ := rf_own_form ho
  have f0 := dk_frozen w' W.heap.size 0 _ _ r1
  have g0 := dk_frozen w' (W.heap.size + 1) 0 _ _ r2
  have g1 := dk_frozen w' (W.heap.size + 1) 1 _ _ r2
  have g2 := dk_frozen w' (W.heap.size + 1) 2 _ _ r2
  have d0 : w'.cell? ⟨W.heap.size, 0, none⟩ = some (.slice ao xs.length cap) := by rw [cell_of_row w' _ _ _ _ _ r1]; rfl
  have d1 : w'.cell? ⟨W.heap.size, 1, none⟩ = some (.int .i64 bud) := by rw [cell_of_row w' _ _ _ _ _ r1]; rfl
  have d2 : w'.cell? ⟨W.heap.size, 2, none⟩ = some (.bool down) := by rw [cell_of_row w' _ _ _ _ _ r1]; rfl
  have e0 : w'.cell? ⟨W.heap.size + 1, 0, none⟩ = some (.slice none 0 0) := by rw [cell_of_row w' _ _ _ _ _ r2]; rfl
  have e1 : w'.cell? ⟨W.heap.size + 1, 1, none⟩ = some (.int .i64 0) := by rw [cell_of_row w' _ _ _ _ _ r2]; rfl
  have e2 : w'.cell? ⟨W.heap.size + 1, 2, none⟩ = some (.bool false) := by rw [cell_of_row w' _ _ _ _ _ r2]; rfl
  have HB' := Lib.hid hb'
  have R1 := Lib.hid r1
  have R2 := Lib.hid r2
  have HO := Lib.hid ho
  have HB := Lib.hid hb2
  have hrun := hr
  rw [hz, hW2] at hrun
  have HRUN := Lib.hid hrun
  have HZ := Lib.hid hz
  have HW := Lib.hid hW2
  clear hs h1 h0 hr ho hg hb hb2 hrun hz hW2 h hb' r1 r2
  go_enter Tryz.func60, Tryz.ntmps60
  go_wp2_with (at_builtin; refine Lib.wpList_append_run _ rfl _ _ _ _ rfl _ _ rfl rfl _ _ HRUN.out ?_)
  have hs0 := HO.out.kept (dk_grown_setCell w' w' W.heap.size 0 (.slice a' xs.length c') ⟨rfl, rfl, rfl, Nat.le_refl _, fun _ _ _ => rfl⟩) (by
    right; intro e; have := (HO.out.lt W.heap.size e).1; have := HZ.out; omega)
  have hr0 := rf_other w' W.heap.size 0 (.slice a' xs.length c') (W.heap.size + 1) (by omega) R2.out
  have hr3 := rf_store3 (v0 := .slice a' xs.length c') (v1 := .int .i64 bud) (v2 := .bool down) hr0
  have hs3 := hs0.kept (rf_store3_grown (b := W.heap.size + 1) (v0 := .slice a' xs.length c') (v1 := .int .i64 bud) (v2 := .bool down)) (by
    right; intro e; have := (HO.out.lt _ e).1; have := HZ.out; omega)
  refine bodyPost_ret (results_cell_row rfl _ _ (W.heap.size + 1) _ _ (0, 0) _ rfl hr3 Tryz.underlying27 rfl (by kernel_rfl)) rfl ?_
  have hz := HZ.out
  refine ⟨_, rfl, rf_own_mono hs3 (by omega), ?_⟩
  exact ((((HB.out.trans (HB'.out.mono (by omega))).setCell (by simp) _).setCell (by simp) _).setCell (by simp) _).setCell (by simp) _

theorem rf_own_empty {w : World} {B g : Nat} {t : TypeId} {sz : Nat} (hB : B ≤ g) (h : w.heap[g]? = some (.cells #[] t (0, 0))) : w.ownsRow B t sz (.slice (some ⟨g, 0, none⟩) 0 0) 0 [] :=
  ⟨by simp, .inr ⟨g, 0, #[], rfl, hB, h, Nat.le_refl _, Nat.zero_le _, by simp, by simp⟩⟩

set_option maxRecDepth 100000 in
set_option maxHeartbeats 1000000 in
theorem rf_without {c : Nat → Nat} {W : World} {sv : Value} {xs : List Re} (bud : Int) (down : Bool) (h : RfAt c W sv xs) (k : Nat) (hk : k < xs.length) :
    Calls Tryz.prog 82 #[.agg #[sv, .int .i64 bud, .bool down], .int .i64 k] W fun e W' => ∃ sv', e = .returned (.agg #[sv', .int .i64 bud, .bool down]) ∧ W'.ownsRow W.heap.size 37 3 sv' (xs.length - 1) (reCells (xs.take k ++ xs.drop (k + 1))) ∧ Below W.heap.size W W' := by
  have hlen := h.2.2
  have h1 := h.one
  obtain ⟨ao, cap, rfl, hcap, h0, hg0, hs⟩ := h.source
  obtain ⟨ad, rfl⟩ : ∃ ad, ao = some ad := by
    cases ao with
    | none => have := h0 rfl; omega
    | some ad => exact ⟨ad, rfl⟩
  obtain ⟨g, rfl⟩ := hg0 ad rfl
  have hx : ∀ W', Below W.heap.size W W' → ∀ j u, (reCells xs)[j]? = some u → W'.cell? ⟨g, j, none⟩ = some u := fun W' hb j u hj => by
    have := hs W' hb _ rfl j u hj
    rwa [dk_add, Nat.zero_add] at this
  obtain ⟨W2, hW2⟩ : ∃ W2, W2 = (W.alloc (.cells #[.slice (some ⟨g, 0, none⟩) xs.length cap, .int .i64 bud, .bool down] 27)).alloc (.cells #[.slice none 0 0, .int .i64 0, .bool false] 27) := ⟨_, rfl⟩
  have hz : W2.heap.size = W.heap.size + 2 := by rw [hW2]; simp
  have hb2 : Below W.heap.size W W2 := by rw [hW2]; exact ((Below.refl _ _).alloc (Nat.le_refl _) _).alloc (by simp) _
  have r1 : W2.heap[W.heap.size]? = some (.cells #[.slice (some ⟨g, 0, none⟩) xs.length cap, .int .i64 bud, .bool down] 27 (0, 0)) := by
    rw [hW2, Below.heap_alloc _ _ _ (by simp)]; exact heap_alloc_new W _
  have r2 : W2.heap[W.heap.size + 1]? = some (.cells #[.slice none 0 0, .int .i64 0, .bool false] 27 (0, 0)) := by
    rw [hW2]; exact rf_new2 W _ _
  -- the two appends, in whatever world
  have hA1 : ∀ Wx gx, Below W2.heap.size W2 Wx → W2.heap.size ≤ gx → Wx.heap[gx]? = some (.cells #[] 37 (0, 0)) → ∃ v' w', (Builtin.append_ #[25, 25] 25 #[.slice (some ⟨gx, 0, none⟩) 0 0, .slice (some ⟨g, 0, none⟩) k cap]).run Tryz.prog Wx = .ok v' w' ∧
      w'.ownsRow W2.heap.size 37 3 v' k (reCells (xs.take k)) ∧ Below W2.heap.size W2 w' := fun Wx gx hb hgx hrow => by
    have hbx := hb2.trans (hb.mono (by omega))
    obtain ⟨v', w', hr, ho, hgr⟩ := rf_appendF (w := Wx) 25 W2.heap.size _ 0 [] (rf_own_empty hgx hrow) (some ⟨g, 0, none⟩) k cap (reCells (xs.take k))
      (by rw [reCells_length, List.length_take]; omega) (fun ad ha j u hj => by
        cases ha
        rw [dk_add, Nat.zero_add]
        refine hx _ hbx j u ?_
        rw [← reCells_take] at hj
        rw [List.getElem?_take] at hj
        split at hj
        · exact hj
        · cases hj) (fun e => by cases e) (fun u hu => h1 u (by rw [← reCells_take] at hu; exact List.mem_of_mem_take hu)) (by omega) hb.size
    rw [Nat.zero_add, List.nil_append] at ho
    exact ⟨v', w', hr, ho, hb.grown hgr hb.size (by intro j hj; simp [Value.ownBlock] at hj; omega)⟩
  have hA2 : ∀ Wx v, Below W2.heap.size W2 Wx → Wx.ownsRow W2.heap.size 37 3 v k (reCells (xs.take k)) → ∃ v' w', (Builtin.append_ #[25, 25] 25 #[v, Value.slice (if cap = k + 1 then some ⟨g, 0, none⟩ else some ⟨g, (k + 1) * 3, none⟩) (xs.length - (k + 1)) (cap - (k + 1))]).run Tryz.prog Wx = .ok v' w' ∧
      w'.ownsRow W2.heap.size 37 3 v' (xs.length - 1) (reCells (xs.take k ++ xs.drop (k + 1))) ∧ Below W2.heap.size W2 w' := fun Wx v hb hown => by
    obtain ⟨v', w', hr, ho, hgr⟩ := rf_appendF 25 W2.heap.size _ k _ hown (if cap = k + 1 then some ⟨g, 0, none⟩ else some ⟨g, (k + 1) * 3, none⟩) (xs.length - (k + 1)) (cap - (k + 1)) (reCells (xs.drop (k + 1)))
      (by rw [reCells_length, List.length_drop]) (fun ad ha j u hj => by
        have hlj := (List.getElem?_eq_some_iff.1 hj).1
        rw [reCells_length, List.length_drop] at hlj
        rw [if_neg (by omega)] at ha
        cases ha
        rw [dk_add]
        refine hx _ (hb2.trans (hb.mono (by omega))) _ u ?_
        rw [← reCells_drop, List.getElem?_drop] at hj
        exact hj) (fun e => by split at e <;> cases e) (fun u hu => h1 u (by rw [← reCells_drop] at hu; exact List.mem_of_mem_drop hu)) (by omega) (hb.size)
    rw [← reCells_append, show k + (xs.length - (k + 1)) = xs.length - 1 by omega] at ho
    exact ⟨v', w', hr, ho, hb.grown hgr hb.size (fun j hj => (hown.lt j hj).1)⟩
  have d0 : W2.cell? ⟨W.heap.size, 0, none⟩ = some (.slice (some ⟨g, 0, none⟩) xs.length cap) := by rw [cell_of_row W2 _ _ _ _ _ r1]; rfl
  have HA1 := Lib.hid hA1
  have HA2 := Lib.hid hA2
  have HZ := Lib.hid hz
  have HB2 := Lib.hid hb2
  have R1 := Lib.hid r1
  have R2 := Lib.hid r2
  have hS0 : W2.drew.cell? ⟨W.heap.size, 0, none⟩ = some (.slice (some ⟨g, 0, none⟩) xs.length cap) ∧ Below W2.heap.size W2 W2.drew := ⟨d0, (Below.refl _ _).drew⟩
  have HS0 := Lib.hid hS0
  have HW := Lib.hid hW2
  clear hA1 hA2 hz hb2 r1 r2 hW2 hs hx h0 hg0 h1 h d0 hS0
  have k1 : (0 : Int) ≤ k := by omega
  have k2 : (k : Int) ≤ xs.length := by omega
  have k3 : (k : Int) + 1 ≤ xs.length := by omega
  have k4 : (xs.length : Int) ≤ cap := by omega
  have k5 : k ≤ cap := by omega
  have k6 : k + 1 ≤ xs.length := by omega
  have k7 : k + 1 ≤ cap := by omega
  have k8 : IntKind.i64.wrap ((k : Int) + 1) = (k : Int) + 1 := IntWalk.i64_in _ (by omega)
  have k9 : (0 : Int) ≤ (k : Int) + 1 := by omega
  have k10 : ((k : Int) + 1).toNat = k + 1 := by omega
  go_enter Tryz.func82, Tryz.ntmps82
  go_wp2_with fail
  rw [← HW.out]
  refine wp_region_sink' (fun w' => w'.cell? ⟨W.heap.size, 0, none⟩ = some (.slice (some ⟨g, 0, none⟩) xs.length cap) ∧ Below W2.heap.size W2 w') _ rfl (by kernel_rfl) (by kernel_rfl) ?_ (fun hHeld => ?_)
  · exact HS0.out
  simp only [List.pop_toArray, List.dropLast_cons_cons, List.dropLast_singleton]
  (refine wpAnyH_take (i := 1) (v := ?_) rfl (by kernel_rfl) (by kernel_rfl) (by kernel_rfl) (fun _ _ _ h => h) (Or.inl ⟨by rfl, ?_⟩) (by assumption) ?_; rotate_left; focus ((intro w hSw; (try dsimp only at hSw); go_simp); try (with_reducible rfl); done); try simp only [Act.put, List.setIfInBounds_toArray, List.set_cons_zero, List.set_cons_succ])
  (refine wpAnyH_take (i := 2) (v := ?_) rfl (by kernel_rfl) (by kernel_rfl) (by kernel_rfl) (fun _ _ _ h => h) (Or.inl ⟨by rfl, ?_⟩) (by assumption) ?_; rotate_left; focus ((intro w hSw; (try dsimp only at hSw); go_simp); try (with_reducible rfl); done); try simp only [Act.put, List.setIfInBounds_toArray, List.set_cons_zero, List.set_cons_succ])
  (refine wpAnyH_take (i := 3) (v := ?_) rfl (by kernel_rfl) (by kernel_rfl) (by kernel_rfl) (fun _ _ _ h => h) (Or.inl ⟨by rfl, ?_⟩) (by assumption) ?_; rotate_left; focus ((intro w hSw; (try dsimp only at hSw); go_simp); try (with_reducible rfl); done); try simp only [Act.put, List.setIfInBounds_toArray, List.set_cons_zero, List.set_cons_succ])
  (refine wpAnyH_take (i := 4) (v := ?_) rfl (by kernel_rfl) (by kernel_rfl) (by kernel_rfl) (fun _ _ _ h => h) (Or.inl ⟨by rfl, ?_⟩) (by assumption) ?_; rotate_left; focus ((intro w hSw; (try dsimp only at hSw); go_simp); try (with_reducible rfl); done); try simp only [Act.put, List.setIfInBounds_toArray, List.set_cons_zero, List.set_cons_succ])
  (refine wpAnyH_take (i := 6) (v := ?_) rfl (by kernel_rfl) (by kernel_rfl) (by kernel_rfl) (fun _ _ _ h => h) (Or.inl ⟨by rfl, ?_⟩) (by assumption) ?_; rotate_left; focus ((intro w hSw; (try dsimp only at hSw); go_simp); try (with_reducible rfl); done); try simp only [Act.put, List.setIfInBounds_toArray, List.set_cons_zero, List.set_cons_succ])
  (refine wpAnyH_take (i := 7) (v := ?_) rfl (by kernel_rfl) (by kernel_rfl) (by kernel_rfl) (fun _ _ _ h => h) (Or.inl ⟨by rfl, ?_⟩) (by assumption) ?_; rotate_left; focus ((intro w hSw; (try dsimp only at hSw); go_simp); try (with_reducible rfl); done); try simp only [Act.put, List.setIfInBounds_toArray, List.set_cons_zero, List.set_cons_succ])
  (refine wpAnyH_take (i := 8) (v := ?_) rfl (by kernel_rfl) (by kernel_rfl) (by kernel_rfl) (fun _ _ _ h => h) (Or.inl ⟨by rfl, ?_⟩) (by assumption) ?_; rotate_left; focus ((intro w hSw; (try dsimp only at hSw); go_simp); try (with_reducible rfl); done); try simp only [Act.put, List.setIfInBounds_toArray, List.set_cons_zero, List.set_cons_succ])
  (refine wpAnyH_take (i := 9) (v := ?_) rfl (by kernel_rfl) (by kernel_rfl) (by kernel_rfl) (fun _ _ _ h => h) (Or.inl ⟨by rfl, ?_⟩) (by assumption) ?_; rotate_left; focus ((intro w hSw; (try dsimp only at hSw); go_simp); try (with_reducible rfl); done); try simp only [Act.put, List.setIfInBounds_toArray, List.set_cons_zero, List.set_cons_succ])
  (refine wpAnyH_take (i := 10) (v := ?_) rfl (by kernel_rfl) (by kernel_rfl) (by kernel_rfl) (fun _ _ _ h => h) (Or.inl ⟨by rfl, ?_⟩) (by assumption) ?_; rotate_left; focus ((intro w hSw; (try dsimp only at hSw); go_simp); try (with_reducible rfl); done); try simp only [Act.put, List.setIfInBounds_toArray, List.set_cons_zero, List.set_cons_succ])
  refine wpAnyH_ready (rs := [0]) (by kernel_rfl) (by simp) ?_
  refine AllReadyH.cons rfl (fun K hK => ?_) AllReadyH.nil
  go_simp
  have hrow3 : (W2.alloc (.cells #[] 37)).drew.heap[W2.heap.size]? = some (.cells #[] 37 (0, 0)) := heap_alloc_new W2 _
  have hb3 : Below W2.heap.size W2 (W2.alloc (.cells #[] 37)).drew := ((Below.refl _ _).alloc (Nat.le_refl _) _).drew
  refine hK.out _ _ ⟨?_, hb3⟩ (fun hHeld2 => ?_)
  · exact (hb3.cell (p := ⟨W.heap.size, 0, none⟩) (by rw [HZ.out]; simp)).trans HS0.out.1
  clear hK K hHeld
  try simp only [Act.put, List.setIfInBounds_toArray, List.set_cons_zero, List.set_cons_succ]
  refine wpAnyH_ready (rs := [5]) (by kernel_rfl) (by simp) ?_
  refine AllReadyH.cons rfl (fun K hK => ?_) AllReadyH.nil
  obtain ⟨v4, w4, hr4, ho4, hb4⟩ := HA1.out _ _ hb3 (Nat.le_refl _) hrow3
  refine step_append_eq rfl _ _ _ rfl _ _ _ _ rfl rfl hr4 ?_
  refine hK.out _ _ ⟨(hb4.cell (p := ⟨W.heap.size, 0, none⟩) (by rw [HZ.out]; simp)).trans HS0.out.1, hb4⟩ (fun hHeld => ?_)
  clear hK K hHeld2 hr4
  simp only [List.getElem_toArray, List.getElem_cons_succ, List.getElem_cons_zero, Act.put, List.setIfInBounds_toArray, List.set_cons_zero, List.set_cons_succ]
  refine wpAnyH_ready (rs := [11]) (by kernel_rfl) (by simp) ?_
  refine AllReadyH.cons rfl (fun K hK => ?_) AllReadyH.nil
  obtain ⟨v5, w5, hr5, ho5, hb5⟩ := HA2.out _ _ hb4 ho4
  refine step_append_eq rfl _ _ _ rfl _ _ _ _ rfl rfl hr5 ?_
  have e0 := (hb5.cell (p := ⟨W.heap.size, 0, none⟩) (by rw [HZ.out]; simp)).trans HS0.out.1
  refine hK.out _ _ ⟨e0, hb5⟩ (fun hHeld2 => ?_)
  clear hK K hHeld hr5 hb4 ho4 hb3 hrow3
  simp only [List.getElem_toArray, List.getElem_cons_succ, List.getElem_cons_zero, Act.put, List.setIfInBounds_toArray, List.set_cons_zero, List.set_cons_succ]
  (refine wpAnyH_take (i := 12) (v := ?_) rfl (by kernel_rfl) (by kernel_rfl) (by kernel_rfl) (fun _ _ _ h => h) (Or.inl ⟨by rfl, ?_⟩) (by assumption) ?_; rotate_left; focus ((intro w hSw; (try dsimp only at hSw); go_simp); try (with_reducible rfl); done); try simp only [Act.put, List.setIfInBounds_toArray, List.set_cons_zero, List.set_cons_succ])
  refine wpAnyH_done (by kernel_rfl) ?_ _
  have q1 := (hb5.block _ (by rw [HZ.out]; omega)).trans R1.out
  have q2 := (hb5.block _ (by rw [HZ.out]; omega)).trans R2.out
  have f0 := dk_frozen w5 W.heap.size 0 _ _ q1
  have g0 := dk_frozen w5 (W.heap.size + 1) 0 _ _ q2
  have g1 := dk_frozen w5 (W.heap.size + 1) 1 _ _ q2
  have g2 := dk_frozen w5 (W.heap.size + 1) 2 _ _ q2
  have e1 : w5.cell? ⟨W.heap.size, 1, none⟩ = some (.int .i64 bud) := by rw [cell_of_row w5 _ _ _ _ _ q1]; rfl
  have e2 : w5.cell? ⟨W.heap.size, 2, none⟩ = some (.bool down) := by rw [cell_of_row w5 _ _ _ _ _ q1]; rfl
  have c0 : w5.cell? ⟨W.heap.size + 1, 0, none⟩ = some (.slice none 0 0) := by rw [cell_of_row w5 _ _ _ _ _ q2]; rfl
  have c1 : w5.cell? ⟨W.heap.size + 1, 1, none⟩ = some (.int .i64 0) := by rw [cell_of_row w5 _ _ _ _ _ q2]; rfl
  have c2 : w5.cell? ⟨W.heap.size + 1, 2, none⟩ = some (.bool false) := by rw [cell_of_row w5 _ _ _ _ _ q2]; rfl
  have Q2 := Lib.hid q2
  have HB5 := Lib.hid hb5
  have HO5 := Lib.hid ho5
  obtain ⟨a5, p5, rfl⟩ := rf_own_form ho5
  clear q1 q2 hb5 ho5 hHeld2
  unfold sinkPost
  simp only []
  go_simp
  go_wp2_with fail
  all_goals
    have hz := HZ.out
    have hs0 := HO5.out.kept (dk_grown_setCell w5 w5 W.heap.size 0 (.slice a5 (xs.length - 1) p5) ⟨rfl, rfl, rfl, Nat.le_refl _, fun _ _ _ => rfl⟩) (by
      right; intro e; have := (HO5.out.lt W.heap.size e).1; omega)
    have hr0 := rf_other w5 W.heap.size 0 (.slice a5 (xs.length - 1) p5) (W.heap.size + 1) (by omega) Q2.out
    have hr3 := rf_store3 (v0 := .slice a5 (xs.length - 1) p5) (v1 := .int .i64 bud) (v2 := .bool down) hr0
    have hs3 := hs0.kept (rf_store3_grown (b := W.heap.size + 1) (v0 := .slice a5 (xs.length - 1) p5) (v1 := .int .i64 bud) (v2 := .bool down)) (by
      right; intro e; have := (HO5.out.lt _ e).1; omega)
    refine bodyPost_ret (results_cell_row rfl _ _ (W.heap.size + 1) _ _ (0, 0) _ rfl hr3 Tryz.underlying27 rfl (by kernel_rfl)) rfl ?_
    refine ⟨_, rfl, rf_own_mono hs3 (by omega), ?_⟩
    exact ((((HB2.out.trans (HB5.out.mono (by omega))).setCell (by simp) _).setCell (by simp) _).setCell (by simp) _).setCell (by simp) _

end Go.Proofs.YtegahpgnmeobhaaGreatDoor
