/-
  THE REFERENCE: with.
-/
import Derived.Test.YtegahpgnmeobhaaGreatDoorRfOut
import Derived.Test.YtegahpgnmeobhaaGreatDoorDkCreate
namespace Go.Proofs.YtegahpgnmeobhaaGreatDoor
open Go.RowKit

theorem less_before : ∀ (a b : Dk.Bs), Op.bytesLess a b = bytesBefore a b
  | [], [] => rfl
  | [], _ :: _ => rfl
  | _ :: _, [] => rfl
  | a :: x, b :: y => by simp only [Op.bytesLess, bytesBefore]; rw [less_before x y]

set_option maxRecDepth 100000 in
set_option maxHeartbeats 4000000 in
theorem rf_with_some {c : Nat → Nat} {W : World} {sv : Value} {xs : List Re} (bud : Int) (down : Bool) (h : RfAt c W sv xs) (hsome : ∀ cap, sv ≠ .slice none xs.length cap) (x : Re) (hx1 : ∀ u ∈ x.cells, u.oneCell' = true) :
    Calls Tryz.prog 81 #[.agg #[sv, .int .i64 bud, .bool down], x.val] W fun e W' => ∃ sv', e = .returned (.agg #[sv', .int .i64 bud, .bool down]) ∧
      W'.ownsRow W.heap.size 37 3 sv' (xs.length + 1) (reCells (xs.take (Dk.ahead x.nm (xs.map Re.ent)) ++ x :: xs.drop (Dk.ahead x.nm (xs.map Re.ent)))) ∧ Below W.heap.size W W' := by
  have hlen := h.2.2
  have h1 := h.one
  obtain ⟨ao, cap, rfl, hcap, h0, hg0, hs⟩ := h.source
  cases ao with
  | none => exact absurd rfl (hsome cap)
  | some ad =>
  obtain ⟨g, rfl⟩ := hg0 ad rfl
  obtain ⟨nm, dv, wv, vs, f⟩ := x
  obtain ⟨W3, hW3⟩ : ∃ W3, W3 = ((W.alloc (.cells #[.slice (some ⟨g, 0, none⟩) xs.length cap, .int .i64 bud, .bool down] 27)).alloc (.cells #[.string ⟨nm.toArray⟩, dv, wv] 37)).alloc (.cells #[.slice none 0 0, .int .i64 0, .bool false] 27) := ⟨_, rfl⟩
  have hz : W3.heap.size = W.heap.size + 3 := by rw [hW3]; simp
  have hb3 : Below W.heap.size W W3 := by rw [hW3]; exact (((Below.refl _ _).alloc (Nat.le_refl _) _).alloc (by simp) _).alloc (by simp; omega) _
  have r1 : W3.heap[W.heap.size]? = some (.cells #[.slice (some ⟨g, 0, none⟩) xs.length cap, .int .i64 bud, .bool down] 27 (0, 0)) := by
    rw [hW3, Below.heap_alloc _ _ _ (by simp; omega), Below.heap_alloc _ _ _ (by simp)]; exact heap_alloc_new W _
  have r2 : W3.heap[W.heap.size + 1]? = some (.cells #[.string ⟨nm.toArray⟩, dv, wv] 37 (0, 0)) := by
    rw [hW3, Below.heap_alloc _ _ _ (by simp)]; exact rf_new2 W _ _
  have r3 : W3.heap[W.heap.size + 1 + 1]? = some (.cells #[.slice none 0 0, .int .i64 0, .bool false] 27 (0, 0)) := by
    rw [hW3]; have := rf_new2 (W.alloc (.cells #[.slice (some ⟨g, 0, none⟩) xs.length cap, .int .i64 bud, .bool down] 27)) (.cells #[.string ⟨nm.toArray⟩, dv, wv] 37) (.cells #[.slice none 0 0, .int .i64 0, .bool false] 27); simpa using this
  obtain ⟨at0, hat0⟩ : ∃ a, a = Dk.ahead nm (xs.map Re.ent) := ⟨_, rfl⟩
  simp only [] at hx1 ⊢
  rw [← hat0]
  have d0 : W3.cell? ⟨W.heap.size, 0, none⟩ = some (.slice (some ⟨g, 0, none⟩) xs.length cap) := by rw [cell_of_row W3 _ _ _ _ _ r1]; rfl
  have e0 : W3.cell? ⟨W.heap.size + 1, 0, none⟩ = some (.string ⟨nm.toArray⟩) := by rw [cell_of_row W3 _ _ _ _ _ r2]; rfl
  have e1 : W3.cell? ⟨W.heap.size + 1, 1, none⟩ = some dv := by rw [cell_of_row W3 _ _ _ _ _ r2]; rfl
  have e2 : W3.cell? ⟨W.heap.size + 1, 2, none⟩ = some wv := by rw [cell_of_row W3 _ _ _ _ _ r2]; rfl
  have hA1 : ∀ Wx gx i, i ≤ xs.length → Below W3.heap.size W3 Wx → W3.heap.size ≤ gx → Wx.heap[gx]? = some (.cells #[] 37 (0, 0)) → ∃ v' w', (Builtin.append_ #[25, 25] 25 #[.slice (some ⟨gx, 0, none⟩) 0 0, .slice (some ⟨g, 0, none⟩) i cap]).run Tryz.prog Wx = .ok v' w' ∧
      w'.ownsRow W3.heap.size 37 3 v' i (reCells (xs.take i)) ∧ Below W3.heap.size W3 w' ∧ Wx.grownBy w' (some gx) := fun Wx gx i hi hb hgx hrow => by
    have hbx := hb3.trans (hb.mono (by omega))
    obtain ⟨v', w', hr, ho, hgr⟩ := rf_appendF (w := Wx) 25 W3.heap.size _ 0 [] (rf_own_empty hgx hrow) (some ⟨g, 0, none⟩) i cap (reCells (xs.take i))
      (by rw [reCells_length, List.length_take]; omega) (fun ad ha j u hj => by
        refine hs _ hbx ad ha j u ?_
        rw [← reCells_take] at hj
        rw [List.getElem?_take] at hj
        split at hj
        · exact hj
        · cases hj) (fun e => by have := h0 e; omega) (fun u hu => h1 u (by rw [← reCells_take] at hu; exact List.mem_of_mem_take hu)) (by omega) hb.size
    rw [Nat.zero_add, List.nil_append] at ho
    exact ⟨v', w', hr, ho, hb.grown hgr hb.size (by intro j hj; simp [Value.ownBlock] at hj; omega), hgr⟩
  have hA2 : ∀ Wx v i gf, i ≤ xs.length → Below W3.heap.size W3 Wx → Wx.ownsRow W3.heap.size 37 3 v i (reCells (xs.take i)) → Wx.heap[gf]? = some (.cells #[.string ⟨nm.toArray⟩, dv, wv] 37 (0, 0)) →
      ∃ v' w', (Builtin.append_ #[25, 25] 25 #[v, .slice (some ⟨gf, 0, none⟩) 1 1]).run Tryz.prog Wx = .ok v' w' ∧
      w'.ownsRow W3.heap.size 37 3 v' (i + 1) (reCells (xs.take i ++ [⟨nm, dv, wv, vs, f⟩])) ∧ Below W3.heap.size W3 w' := fun Wx v i gf hi hb hown hrow => by
    obtain ⟨v', w', hr, ho, hgr⟩ := rf_appendF (w := Wx) 25 W3.heap.size v i _ hown (some ⟨gf, 0, none⟩) 1 1 [.string ⟨nm.toArray⟩, dv, wv] rfl (fun ad ha => by cases ha; exact World.news_of_block hrow) (fun e => by cases e) hx1 (by omega) hb.size
    refine ⟨v', w', hr, ?_, hb.grown hgr hb.size (fun j hj => (hown.lt j hj).1)⟩
    rw [reCells_append]
    exact ho
  have hA3 : ∀ Wx v i a2, i ≤ xs.length → Below W3.heap.size W3 Wx → Wx.ownsRow W3.heap.size 37 3 v (i + 1) (reCells (xs.take i ++ [⟨nm, dv, wv, vs, f⟩])) → (a2 = none → xs.length = i) → (∀ ad, a2 = some ad → i < xs.length → ad = ⟨g, i * 3, none⟩) →
      ∃ v' w', (Builtin.append_ #[25, 25] 25 #[v, .slice a2 (xs.length - i) (cap - i)]).run Tryz.prog Wx = .ok v' w' ∧
      w'.ownsRow W3.heap.size 37 3 v' (xs.length + 1) (reCells (xs.take i ++ ⟨nm, dv, wv, vs, f⟩ :: xs.drop i)) ∧ Below W3.heap.size W3 w' := fun Wx v i a2 hi hb hown ha2 ha3 => by
    obtain ⟨v', w', hr, ho, hgr⟩ := rf_appendF (w := Wx) 25 W3.heap.size v (i + 1) _ hown a2 (xs.length - i) (cap - i) (reCells (xs.drop i)) (by rw [reCells_length, List.length_drop]) (fun ad ha j u hj => by
        have hlj := (List.getElem?_eq_some_iff.1 hj).1
        rw [reCells_length, List.length_drop] at hlj
        have hg2 := ha3 ad ha (by omega)
        have := hs _ (hb3.trans (hb.mono (by omega))) _ rfl (i * 3 + j) u (by rw [← reCells_drop, List.getElem?_drop] at hj; exact hj)
        rw [dk_add, Nat.zero_add] at this
        rw [hg2, dk_add]
        exact this) (fun e => by have := ha2 e; omega) (fun u hu => h1 u (by rw [← reCells_drop] at hu; exact List.mem_of_mem_drop hu)) (by omega) hb.size
    refine ⟨v', w', hr, ?_, hb.grown hgr hb.size (fun j hj => (hown.lt j hj).1)⟩
    rw [← reCells_append, List.append_assoc, show i + 1 + (xs.length - i) = xs.length + 1 by omega] at ho
    exact ho
  have hSof : ∀ wy, Below W3.heap.size W3 wy → wy.cell? ⟨W.heap.size, 0, none⟩ = some (.slice (some ⟨g, 0, none⟩) xs.length cap) ∧ wy.cell? ⟨W.heap.size + 1, 0, none⟩ = some (.string ⟨nm.toArray⟩) ∧ wy.cell? ⟨W.heap.size + 1, 1, none⟩ = some dv ∧ wy.cell? ⟨W.heap.size + 1, 2, none⟩ = some wv ∧ Below W3.heap.size W3 wy := fun wy hb =>
    ⟨(hb.cell (p := ⟨W.heap.size, 0, none⟩) (by rw [hz]; simp)).trans d0, (hb.cell (p := ⟨W.heap.size + 1, 0, none⟩) (by rw [hz]; simp)).trans e0, (hb.cell (p := ⟨W.heap.size + 1, 1, none⟩) (by rw [hz]; simp)).trans e1, (hb.cell (p := ⟨W.heap.size + 1, 2, none⟩) (by rw [hz]; simp)).trans e2, hb⟩
  have HA1 := Lib.hid hA1
  have HA2 := Lib.hid hA2
  have HA3 := Lib.hid hA3
  have HSof := Lib.hid hSof
  have hxn : ∀ W', Below W.heap.size W W' → ∀ (k : Nat) (y : Re), xs[k]? = some y → W'.cell? ⟨g, k * 3, none⟩ = some (.string ⟨y.nm.toArray⟩) := fun W' hb k y hk => by
    have := hs W' hb _ rfl (k * 3) _ (reCells_at xs k y hk).1
    rwa [dk_add, Nat.zero_add] at this
  have HXN := Lib.hid hxn
  have HA0 := Lib.hid hat0
  have H0 := Lib.hid h0
  have HG0 := Lib.hid hg0
  have HZ := Lib.hid hz
  have HB3 := Lib.hid hb3
  have R1 := Lib.hid r1
  have R2 := Lib.hid r2
  have R3 := Lib.hid r3
  have D0 := Lib.hid d0
  have E0 := Lib.hid e0
  have HW := Lib.hid hW3
  clear hxn hat0 hs h0 hg0 h1 hx1 hz hb3 r1 r2 r3 hW3 h d0 e0 e1 e2 hA1 hA2 hA3 hSof
  unfold Re.val
  simp only []
  go_enter Tryz.func81, Tryz.ntmps81
  go_wp2_with fail
  rw [← HW.out]
  go_loopw [5] (fun iv wr => ∃ i : Nat, i ≤ xs.length ∧ iv = .int .i64 i ∧ Hid (∀ j (y : Re), j < i → xs[j]? = some y → bytesBefore y.nm nm = true) ∧ Hid (Below W3.heap.size W3 wr)) (fun iv _ => xs.length - (RowKit.intOf iv).toNat)
  case atStart => exact ⟨0, Nat.zero_le _, rfl, Lib.hid (fun j x hj => by omega), Lib.hid (Below.refl _ _)⟩
  case round =>
    obtain ⟨i, hi, rfl, HN, HBL⟩ := hrel
    have c0 := (HBL.out.cell (p := ⟨W.heap.size, 0, none⟩) (by rw [HZ.out]; simp)).trans D0.out
    have c1 := (HBL.out.cell (p := ⟨W.heap.size + 1, 0, none⟩) (by rw [HZ.out]; simp)).trans E0.out
    by_cases hgo : ∃ h : i < xs.length, bytesBefore xs[i].nm nm = true
    · obtain ⟨hlt, hq⟩ := hgo
      have hw0 : Below W.heap.size W wr := HB3.out.trans (HBL.out.mono (by rw [HZ.out]; omega))
      have d0' := HXN.out _ hw0 i xs[i] (List.getElem?_eq_getElem hlt)
      have i1 : (0 : Int) ≤ i := by omega
      have i2 : (i : Int) < xs.length := by omega
      have hq2 : Op.bytesLess xs[i].nm nm = true := by rw [less_before]; exact hq
      have HN2 : Hid (∀ j (y : Re), j < i + 1 → xs[j]? = some y → bytesBefore y.nm nm = true) := Lib.hid (fun j y hj hy => by
        rcases Nat.lt_or_ge j i with h | h
        · exact HN.out j y h hy
        · obtain rfl : j = i := by omega
          rw [List.getElem?_eq_getElem hlt] at hy
          rw [← Option.some.inj hy]; exact hq)
      clear hw0 HXN hq
      go_wp2_with fail
      go_quiet (fail)
      go_wp2_with fail
      refine ⟨⟨i + 1, by omega, by go_num, HN2, Lib.hid (dk_below_drewN HBL.out _)⟩, by simp [RowKit.intOf]; omega⟩
    · have hnot : ∀ h : i < xs.length, bytesBefore xs[i].nm nm = false := fun h => by
        cases hq : bytesBefore xs[i].nm nm with
        | false => rfl
        | true => exact absurd ⟨h, hq⟩ hgo
      have hai : at0 = i := by
        rw [HA0.out]
        refine Dk.ahead_eq (by simpa using hi) (fun j hj => ?_) (fun hk => ?_)
        · have hjl : j < xs.length := by omega
          have := HN.out j xs[j] hj (List.getElem?_eq_getElem hjl)
          simpa [Re.ent] using this
        · have hkl : i < xs.length := by simpa using hk
          have := hnot hkl
          simpa [Re.ent] using this
      subst hai
      have i1 : (0 : Int) ≤ at0 := by omega
      by_cases hlt : at0 < xs.length
      have hw0 : Below W.heap.size W wr := HB3.out.trans (HBL.out.mono (by rw [HZ.out]; omega))
      have d0' := HXN.out _ hw0 at0 xs[at0] (List.getElem?_eq_getElem hlt)
      have i2 : (at0 : Int) < xs.length := by omega
      have hq2 : Op.bytesLess xs[at0].nm nm = false := by rw [less_before]; exact hnot hlt
      clear hw0 HXN hnot hgo HN
      go_wp2_with fail
      go_quiet (fail)
      clear d0' hq2 i2
      go_wp2_with fail
      rotate_left
      have hd : decide ((at0 : Int) < xs.length) = false := by simpa using hlt
      have hd2 : ¬ ((at0 : Int) < xs.length) := by omega
      clear HXN hnot hgo HN
      go_wp2_with fail
      go_quiet (fail)
      clear hd hd2
      go_wp2_with fail
      all_goals
        have HB0 : Hid (Below W3.heap.size W3 (World.drewN wr nq)) := Lib.hid (dk_below_drewN HBL.out nq)
        have HBd : Hid (Below W3.heap.size W3 (World.drewN wr nq).drew) := Lib.hid (dk_below_drewN HBL.out nq).drew
        generalize (World.drewN wr nq) = wd at *
        have k2 : (at0 : Int) ≤ xs.length := by omega
        have k4 : (xs.length : Int) ≤ cap := by omega
        have k5 : at0 ≤ cap := by omega
        have k6 : (at0 : Int) ≤ cap := by omega
        clear H0 HG0 hsome
        refine wp_region_sink' (fun w' => w'.cell? ⟨W.heap.size, 0, none⟩ = some (.slice (some ⟨g, 0, none⟩) xs.length cap) ∧ w'.cell? ⟨W.heap.size + 1, 0, none⟩ = some (.string ⟨nm.toArray⟩) ∧ w'.cell? ⟨W.heap.size + 1, 1, none⟩ = some dv ∧ w'.cell? ⟨W.heap.size + 1, 2, none⟩ = some wv ∧ Below W3.heap.size W3 w') _ rfl (by kernel_rfl) (by kernel_rfl) (HSof.out _ HBd.out) (fun hHeld => ?_)
        simp only [List.pop_toArray, List.dropLast_cons_cons, List.dropLast_singleton]
        (refine wpAnyH_take (i := 1) (v := ?_) rfl (by kernel_rfl) (by kernel_rfl) (by kernel_rfl) (fun _ _ _ h => h) (Or.inl ⟨by rfl, ?_⟩) (by assumption) ?_; rotate_left; focus ((intro w hSw; (try dsimp only at hSw); go_simp); try (with_reducible rfl); done); try simp only [Act.put, List.setIfInBounds_toArray, List.set_cons_zero, List.set_cons_succ])
        (refine wpAnyH_take (i := 2) (v := ?_) rfl (by kernel_rfl) (by kernel_rfl) (by kernel_rfl) (fun _ _ _ h => h) (Or.inl ⟨by rfl, ?_⟩) (by assumption) ?_; rotate_left; focus ((intro w hSw; (try dsimp only at hSw); go_simp); try (with_reducible rfl); done); try simp only [Act.put, List.setIfInBounds_toArray, List.set_cons_zero, List.set_cons_succ])
        (refine wpAnyH_take (i := 3) (v := ?_) rfl (by kernel_rfl) (by kernel_rfl) (by kernel_rfl) (fun _ _ _ h => h) (Or.inl ⟨by rfl, ?_⟩) (by assumption) ?_; rotate_left; focus ((intro w hSw; (try dsimp only at hSw); go_simp); try (with_reducible rfl); done); try simp only [Act.put, List.setIfInBounds_toArray, List.set_cons_zero, List.set_cons_succ])
        (refine wpAnyH_take (i := 4) (v := ?_) rfl (by kernel_rfl) (by kernel_rfl) (by kernel_rfl) (fun _ _ _ h => h) (Or.inl ⟨by rfl, ?_⟩) (by assumption) ?_; rotate_left; focus ((intro w hSw; (try dsimp only at hSw); go_simp); try (with_reducible rfl); done); try simp only [Act.put, List.setIfInBounds_toArray, List.set_cons_zero, List.set_cons_succ])
        (refine wpAnyH_take (i := 6) (v := ?_) rfl (by kernel_rfl) (by kernel_rfl) (by kernel_rfl) (fun _ _ _ h => h) (Or.inl ⟨by rfl, ?_⟩) (by assumption) ?_; rotate_left; focus ((intro w hSw; (try dsimp only at hSw); go_simp); try (with_reducible rfl); done); try simp only [Act.put, List.setIfInBounds_toArray, List.set_cons_zero, List.set_cons_succ])
        (refine wpAnyH_take (i := 9) (v := ?_) rfl (by kernel_rfl) (by kernel_rfl) (by kernel_rfl) (fun _ _ _ h => h) (Or.inl ⟨by rfl, ?_⟩) (by assumption) ?_; rotate_left; focus ((intro w hSw; (try dsimp only at hSw); go_simp); try (with_reducible rfl); done); try simp only [Act.put, List.setIfInBounds_toArray, List.set_cons_zero, List.set_cons_succ])
        (refine wpAnyH_take (i := 10) (v := ?_) rfl (by kernel_rfl) (by kernel_rfl) (by kernel_rfl) (fun _ _ _ h => h) (Or.inl ⟨by rfl, ?_⟩) (by assumption) ?_; rotate_left; focus ((intro w hSw; (try dsimp only at hSw); go_simp); try (with_reducible rfl); done); try simp only [Act.put, List.setIfInBounds_toArray, List.set_cons_zero, List.set_cons_succ])
        (refine wpAnyH_take (i := 11) (v := ?_) rfl (by kernel_rfl) (by kernel_rfl) (by kernel_rfl) (fun _ _ _ h => h) (Or.inl ⟨by rfl, ?_⟩) (by assumption) ?_; rotate_left; focus ((intro w hSw; (try dsimp only at hSw); go_simp); try (with_reducible rfl); done); try simp only [Act.put, List.setIfInBounds_toArray, List.set_cons_zero, List.set_cons_succ])
        (refine wpAnyH_take (i := 12) (v := ?_) rfl (by kernel_rfl) (by kernel_rfl) (by kernel_rfl) (fun _ _ _ h => h) (Or.inl ⟨by rfl, ?_⟩) (by assumption) ?_; rotate_left; focus ((intro w hSw; (try dsimp only at hSw); go_simp); try (with_reducible rfl); done); try simp only [Act.put, List.setIfInBounds_toArray, List.set_cons_zero, List.set_cons_succ])
        have hwd : W3.heap.size ≤ wd.heap.size := HB0.out.size
        refine wpAnyH_ready (rs := [0, 7]) (by kernel_rfl) (by simp) ?_
        refine AllReadyH.cons rfl (fun K hK => ?_) (AllReadyH.cons rfl (fun K hK => ?_) AllReadyH.nil)
        · go_simp
          have hb1 : Below W3.heap.size W3 (wd.alloc (.cells #[] 37)).drew := (HB0.out.alloc hwd _).drew
          have hr1 : (wd.alloc (.cells #[] 37)).drew.heap[wd.heap.size]? = some (.cells #[] 37 (0, 0)) := heap_alloc_new wd _
          refine hK.out _ _ (HSof.out _ hb1) (fun hHeld1 => ?_)
          clear hK K hHeld
          try simp only [List.getElem_toArray]
          refine wpAnyH_ready (rs := [5, 7]) (by kernel_rfl) (by simp) ?_
          refine AllReadyH.cons rfl (fun K hK => ?_) (AllReadyH.cons rfl (fun K hK => ?_) AllReadyH.nil)
          · obtain ⟨v4, w4, hr4, ho4, hb4, hg4⟩ := HA1.out _ _ _ hi hb1 hwd hr1
            refine step_append_eq rfl _ _ _ rfl _ _ _ _ rfl rfl hr4 ?_
            refine hK.out _ _ (HSof.out _ hb4) (fun hHeld4 => ?_)
            clear hK K hr4 hHeld1 hr1 hb1 hg4
            simp only [List.getElem_toArray, List.getElem_cons_succ, List.getElem_cons_zero, Act.put, List.setIfInBounds_toArray, List.set_cons_zero, List.set_cons_succ]
            refine wpAnyH_ready (rs := [7]) (by kernel_rfl) (by simp) ?_
            refine AllReadyH.cons rfl (fun K hK => ?_) AllReadyH.nil
            go_simp
            have hbc : Below W3.heap.size W3 (w4.alloc (.cells #[.string ⟨nm.toArray⟩, dv, wv] 37)) := hb4.alloc hb4.size _
            have hrf : (w4.alloc (.cells #[.string ⟨nm.toArray⟩, dv, wv] 37)).heap[w4.heap.size]? = some (.cells #[.string ⟨nm.toArray⟩, dv, wv] 37 (0, 0)) := heap_alloc_new w4 _
            refine hK.out _ _ (HSof.out _ hbc) (fun hHeldc => ?_)
            have ho4' := ho4.alloc (.cells #[.string ⟨nm.toArray⟩, dv, wv] 37)
            clear hK K hHeld4 hb4 ho4
            have ho4 := ho4'
            clear ho4'
            try simp only [List.getElem_toArray, List.getElem_cons_succ, List.getElem_cons_zero, Act.put, List.setIfInBounds_toArray, List.set_cons_zero, List.set_cons_succ]
            refine wpAnyH_ready (rs := [8]) (by kernel_rfl) (by simp) ?_
            refine AllReadyH.cons rfl (fun K hK => ?_) AllReadyH.nil
            obtain ⟨v5, w5, hr5, ho5, hb5⟩ := HA2.out _ _ _ _ hi hbc ho4 hrf
            refine step_append_eq rfl _ _ _ rfl _ _ _ _ rfl rfl hr5 ?_
            refine hK.out _ _ (HSof.out _ hb5) (fun hHeld5 => ?_)
            clear hK K hr5
            simp only [List.getElem_toArray, List.getElem_cons_succ, List.getElem_cons_zero, Act.put, List.setIfInBounds_toArray, List.set_cons_zero, List.set_cons_succ]
            refine wpAnyH_ready (rs := [13]) (by kernel_rfl) (by simp) ?_
            refine AllReadyH.cons rfl (fun K hK => ?_) AllReadyH.nil
            obtain ⟨v6, w6, hr6, ho6, hb6⟩ := HA3.out _ _ _ (if cap = at0 then some ⟨g, 0, none⟩ else some ⟨g, at0 * 3, none⟩) hi hb5 ho5 (fun e => by split at e <;> cases e) (fun ad ha hl => by rw [if_neg (by omega)] at ha; cases ha; rfl)
            refine step_append_eq rfl _ _ _ rfl _ _ _ _ rfl rfl hr6 ?_
            refine hK.out _ _ (HSof.out _ hb6) (fun hHeld6 => ?_)
            clear hK K hr6 hHeld5
            simp only [List.getElem_toArray, List.getElem_cons_succ, List.getElem_cons_zero, Act.put, List.setIfInBounds_toArray, List.set_cons_zero, List.set_cons_succ]
            (refine wpAnyH_take (i := 14) (v := ?_) rfl (by kernel_rfl) (by kernel_rfl) (by kernel_rfl) (fun _ _ _ h => h) (Or.inl ⟨by rfl, ?_⟩) (by assumption) ?_; rotate_left; focus ((intro w hSw; (try dsimp only at hSw); go_simp); try (with_reducible rfl); done); try simp only [Act.put, List.setIfInBounds_toArray, List.set_cons_zero, List.set_cons_succ])
            refine wpAnyH_done (by kernel_rfl) ?_ _
            have q1 := (hb6.block _ (by rw [HZ.out]; omega)).trans R1.out
            have q2 := (hb6.block _ (by rw [HZ.out]; omega)).trans R3.out
            have f0 := dk_frozen w6 W.heap.size 0 _ _ q1
            have g0 := dk_frozen w6 (W.heap.size + 1 + 1) 0 _ _ q2
            have g1 := dk_frozen w6 (W.heap.size + 1 + 1) 1 _ _ q2
            have g2 := dk_frozen w6 (W.heap.size + 1 + 1) 2 _ _ q2
            have e0 : w6.cell? ⟨W.heap.size, 0, none⟩ = some (.slice (some ⟨g, 0, none⟩) xs.length cap) := by rw [cell_of_row w6 _ _ _ _ _ q1]; rfl
            have e1 : w6.cell? ⟨W.heap.size, 1, none⟩ = some (.int .i64 bud) := by rw [cell_of_row w6 _ _ _ _ _ q1]; rfl
            have e2 : w6.cell? ⟨W.heap.size, 2, none⟩ = some (.bool down) := by rw [cell_of_row w6 _ _ _ _ _ q1]; rfl
            have c0 : w6.cell? ⟨W.heap.size + 1 + 1, 0, none⟩ = some (.slice none 0 0) := by rw [cell_of_row w6 _ _ _ _ _ q2]; rfl
            have c1 : w6.cell? ⟨W.heap.size + 1 + 1, 1, none⟩ = some (.int .i64 0) := by rw [cell_of_row w6 _ _ _ _ _ q2]; rfl
            have c2 : w6.cell? ⟨W.heap.size + 1 + 1, 2, none⟩ = some (.bool false) := by rw [cell_of_row w6 _ _ _ _ _ q2]; rfl
            have Q2 := Lib.hid q2
            have HB6 := Lib.hid hb6
            have HO6 := Lib.hid ho6
            obtain ⟨a6, p6, rfl⟩ := rf_own_form ho6
            clear q1 q2 hb6 ho6 hHeld6 hb5 ho5
            unfold sinkPost
            simp only []
            go_simp
            go_wp2_with fail
            all_goals
              have hz := HZ.out
              have hs0 := HO6.out.kept (dk_grown_setCell w6 w6 W.heap.size 0 (.slice a6 (xs.length + 1) p6) ⟨rfl, rfl, rfl, Nat.le_refl _, fun _ _ _ => rfl⟩) (by
                right; intro e; have := (HO6.out.lt W.heap.size e).1; omega)
              have hr0 := rf_other w6 W.heap.size 0 (.slice a6 (xs.length + 1) p6) (W.heap.size + 1 + 1) (by omega) Q2.out
              have hr3 := rf_store3 (v0 := .slice a6 (xs.length + 1) p6) (v1 := .int .i64 bud) (v2 := .bool down) hr0
              have hs3 := hs0.kept (rf_store3_grown (b := W.heap.size + 1 + 1) (v0 := .slice a6 (xs.length + 1) p6) (v1 := .int .i64 bud) (v2 := .bool down)) (by
                right; intro e; have := (HO6.out.lt _ e).1; omega)
              refine bodyPost_ret (results_cell_row rfl _ _ (W.heap.size + 1 + 1) _ _ (0, 0) _ rfl hr3 Tryz.underlying27 rfl (by kernel_rfl)) rfl ?_
              refine ⟨_, rfl, rf_own_mono hs3 (by omega), ?_⟩
              exact ((((HB3.out.trans (HB6.out.mono (by omega))).setCell (by simp) _).setCell (by simp; omega) _).setCell (by simp; omega) _).setCell (by simp; omega) _
          · go_simp
            have hb2 : Below W3.heap.size W3 ((wd.alloc (.cells #[] 37)).alloc (.cells #[.string ⟨nm.toArray⟩, dv, wv] 37)).drew := ((HB0.out.alloc hwd _).alloc (by simp; omega) _).drew
            have hr2 : ((wd.alloc (.cells #[] 37)).alloc (.cells #[.string ⟨nm.toArray⟩, dv, wv] 37)).drew.heap[wd.heap.size]? = some (.cells #[] 37 (0, 0)) := (Below.heap_alloc (wd.alloc (.cells #[] 37)) _ _ (by simp)).trans (heap_alloc_new wd _)
            have hf2 : ((wd.alloc (.cells #[] 37)).alloc (.cells #[.string ⟨nm.toArray⟩, dv, wv] 37)).drew.heap[wd.heap.size + 1]? = some (.cells #[.string ⟨nm.toArray⟩, dv, wv] 37 (0, 0)) := rf_new2 wd _ _
            refine hK.out _ _ (HSof.out _ hb2) (fun hHeld2 => ?_)
            clear hK K hHeld1 hb1 hr1
            try simp only [List.getElem_toArray, List.getElem_cons_succ, List.getElem_cons_zero, Act.put, List.setIfInBounds_toArray, List.set_cons_zero, List.set_cons_succ]
            refine wpAnyH_ready (rs := [5]) (by kernel_rfl) (by simp) ?_
            refine AllReadyH.cons rfl (fun K hK => ?_) AllReadyH.nil
            obtain ⟨v4, w4, hr4, ho4, hb4, hg4⟩ := HA1.out _ _ _ hi hb2 hwd hr2
            refine step_append_eq rfl _ _ _ rfl _ _ _ _ rfl rfl hr4 ?_
            refine hK.out _ _ (HSof.out _ hb4) (fun hHeld4 => ?_)
            have hrf := (hg4.block (wd.heap.size + 1) (Array.getElem?_eq_some_iff.1 hf2).1 (by simp)).trans hf2
            have hbc := hb4
            clear hK K hr4 hHeld2 hr2 hb2 hg4 hf2 hb4
            simp only [List.getElem_toArray, List.getElem_cons_succ, List.getElem_cons_zero, Act.put, List.setIfInBounds_toArray, List.set_cons_zero, List.set_cons_succ]
            refine wpAnyH_ready (rs := [8]) (by kernel_rfl) (by simp) ?_
            refine AllReadyH.cons rfl (fun K hK => ?_) AllReadyH.nil
            obtain ⟨v5, w5, hr5, ho5, hb5⟩ := HA2.out _ _ _ _ hi hbc ho4 hrf
            refine step_append_eq rfl _ _ _ rfl _ _ _ _ rfl rfl hr5 ?_
            refine hK.out _ _ (HSof.out _ hb5) (fun hHeld5 => ?_)
            clear hK K hr5
            simp only [List.getElem_toArray, List.getElem_cons_succ, List.getElem_cons_zero, Act.put, List.setIfInBounds_toArray, List.set_cons_zero, List.set_cons_succ]
            refine wpAnyH_ready (rs := [13]) (by kernel_rfl) (by simp) ?_
            refine AllReadyH.cons rfl (fun K hK => ?_) AllReadyH.nil
            obtain ⟨v6, w6, hr6, ho6, hb6⟩ := HA3.out _ _ _ (if cap = at0 then some ⟨g, 0, none⟩ else some ⟨g, at0 * 3, none⟩) hi hb5 ho5 (fun e => by split at e <;> cases e) (fun ad ha hl => by rw [if_neg (by omega)] at ha; cases ha; rfl)
            refine step_append_eq rfl _ _ _ rfl _ _ _ _ rfl rfl hr6 ?_
            refine hK.out _ _ (HSof.out _ hb6) (fun hHeld6 => ?_)
            clear hK K hr6 hHeld5
            simp only [List.getElem_toArray, List.getElem_cons_succ, List.getElem_cons_zero, Act.put, List.setIfInBounds_toArray, List.set_cons_zero, List.set_cons_succ]
            (refine wpAnyH_take (i := 14) (v := ?_) rfl (by kernel_rfl) (by kernel_rfl) (by kernel_rfl) (fun _ _ _ h => h) (Or.inl ⟨by rfl, ?_⟩) (by assumption) ?_; rotate_left; focus ((intro w hSw; (try dsimp only at hSw); go_simp); try (with_reducible rfl); done); try simp only [Act.put, List.setIfInBounds_toArray, List.set_cons_zero, List.set_cons_succ])
            refine wpAnyH_done (by kernel_rfl) ?_ _
            have q1 := (hb6.block _ (by rw [HZ.out]; omega)).trans R1.out
            have q2 := (hb6.block _ (by rw [HZ.out]; omega)).trans R3.out
            have f0 := dk_frozen w6 W.heap.size 0 _ _ q1
            have g0 := dk_frozen w6 (W.heap.size + 1 + 1) 0 _ _ q2
            have g1 := dk_frozen w6 (W.heap.size + 1 + 1) 1 _ _ q2
            have g2 := dk_frozen w6 (W.heap.size + 1 + 1) 2 _ _ q2
            have e0 : w6.cell? ⟨W.heap.size, 0, none⟩ = some (.slice (some ⟨g, 0, none⟩) xs.length cap) := by rw [cell_of_row w6 _ _ _ _ _ q1]; rfl
            have e1 : w6.cell? ⟨W.heap.size, 1, none⟩ = some (.int .i64 bud) := by rw [cell_of_row w6 _ _ _ _ _ q1]; rfl
            have e2 : w6.cell? ⟨W.heap.size, 2, none⟩ = some (.bool down) := by rw [cell_of_row w6 _ _ _ _ _ q1]; rfl
            have c0 : w6.cell? ⟨W.heap.size + 1 + 1, 0, none⟩ = some (.slice none 0 0) := by rw [cell_of_row w6 _ _ _ _ _ q2]; rfl
            have c1 : w6.cell? ⟨W.heap.size + 1 + 1, 1, none⟩ = some (.int .i64 0) := by rw [cell_of_row w6 _ _ _ _ _ q2]; rfl
            have c2 : w6.cell? ⟨W.heap.size + 1 + 1, 2, none⟩ = some (.bool false) := by rw [cell_of_row w6 _ _ _ _ _ q2]; rfl
            have Q2 := Lib.hid q2
            have HB6 := Lib.hid hb6
            have HO6 := Lib.hid ho6
            obtain ⟨a6, p6, rfl⟩ := rf_own_form ho6
            clear q1 q2 hb6 ho6 hHeld6 hb5 ho5
            unfold sinkPost
            simp only []
            go_simp
            go_wp2_with fail
            all_goals
              have hz := HZ.out
              have hs0 := HO6.out.kept (dk_grown_setCell w6 w6 W.heap.size 0 (.slice a6 (xs.length + 1) p6) ⟨rfl, rfl, rfl, Nat.le_refl _, fun _ _ _ => rfl⟩) (by
                right; intro e; have := (HO6.out.lt W.heap.size e).1; omega)
              have hr0 := rf_other w6 W.heap.size 0 (.slice a6 (xs.length + 1) p6) (W.heap.size + 1 + 1) (by omega) Q2.out
              have hr3 := rf_store3 (v0 := .slice a6 (xs.length + 1) p6) (v1 := .int .i64 bud) (v2 := .bool down) hr0
              have hs3 := hs0.kept (rf_store3_grown (b := W.heap.size + 1 + 1) (v0 := .slice a6 (xs.length + 1) p6) (v1 := .int .i64 bud) (v2 := .bool down)) (by
                right; intro e; have := (HO6.out.lt _ e).1; omega)
              refine bodyPost_ret (results_cell_row rfl _ _ (W.heap.size + 1 + 1) _ _ (0, 0) _ rfl hr3 Tryz.underlying27 rfl (by kernel_rfl)) rfl ?_
              refine ⟨_, rfl, rf_own_mono hs3 (by omega), ?_⟩
              exact ((((HB3.out.trans (HB6.out.mono (by omega))).setCell (by simp) _).setCell (by simp; omega) _).setCell (by simp; omega) _).setCell (by simp; omega) _
        · go_simp
          have hb1 : Below W3.heap.size W3 (wd.alloc (.cells #[.string ⟨nm.toArray⟩, dv, wv] 37)).drew := (HB0.out.alloc hwd _).drew
          refine hK.out _ _ (HSof.out _ hb1) (fun hHeld1 => ?_)
          clear hK K hHeld
          try simp only [List.getElem_toArray]
          refine wpAnyH_ready (rs := [0]) (by kernel_rfl) (by simp) ?_
          refine AllReadyH.cons rfl (fun K hK => ?_) AllReadyH.nil
          go_simp
          have hb2 : Below W3.heap.size W3 ((wd.alloc (.cells #[.string ⟨nm.toArray⟩, dv, wv] 37)).alloc (.cells #[] 37)).drew := ((HB0.out.alloc hwd _).alloc (by simp; omega) _).drew
          have hf2 : ((wd.alloc (.cells #[.string ⟨nm.toArray⟩, dv, wv] 37)).alloc (.cells #[] 37)).drew.heap[wd.heap.size]? = some (.cells #[.string ⟨nm.toArray⟩, dv, wv] 37 (0, 0)) := (Below.heap_alloc (wd.alloc (.cells #[.string ⟨nm.toArray⟩, dv, wv] 37)) _ _ (by simp)).trans (heap_alloc_new wd _)
          have hr2 : ((wd.alloc (.cells #[.string ⟨nm.toArray⟩, dv, wv] 37)).alloc (.cells #[] 37)).drew.heap[wd.heap.size + 1]? = some (.cells #[] 37 (0, 0)) := rf_new2 wd _ _
          refine hK.out _ _ (HSof.out _ hb2) (fun hHeld2 => ?_)
          clear hK K hHeld1 hb1
          try simp only [List.getElem_toArray, List.getElem_cons_succ, List.getElem_cons_zero, Act.put, List.setIfInBounds_toArray, List.set_cons_zero, List.set_cons_succ]
          refine wpAnyH_ready (rs := [5]) (by kernel_rfl) (by simp) ?_
          refine AllReadyH.cons rfl (fun K hK => ?_) AllReadyH.nil
          obtain ⟨v4, w4, hr4, ho4, hb4, hg4⟩ := HA1.out _ _ _ hi hb2 (by omega) hr2
          refine step_append_eq rfl _ _ _ rfl _ _ _ _ rfl rfl hr4 ?_
          refine hK.out _ _ (HSof.out _ hb4) (fun hHeld4 => ?_)
          have hrf := (hg4.block wd.heap.size (Array.getElem?_eq_some_iff.1 hf2).1 (by simp)).trans hf2
          have hbc := hb4
          clear hK K hr4 hHeld2 hr2 hb2 hg4 hf2 hb4
          simp only [List.getElem_toArray, List.getElem_cons_succ, List.getElem_cons_zero, Act.put, List.setIfInBounds_toArray, List.set_cons_zero, List.set_cons_succ]
          refine wpAnyH_ready (rs := [8]) (by kernel_rfl) (by simp) ?_
          refine AllReadyH.cons rfl (fun K hK => ?_) AllReadyH.nil
          obtain ⟨v5, w5, hr5, ho5, hb5⟩ := HA2.out _ _ _ _ hi hbc ho4 hrf
          refine step_append_eq rfl _ _ _ rfl _ _ _ _ rfl rfl hr5 ?_
          refine hK.out _ _ (HSof.out _ hb5) (fun hHeld5 => ?_)
          clear hK K hr5
          simp only [List.getElem_toArray, List.getElem_cons_succ, List.getElem_cons_zero, Act.put, List.setIfInBounds_toArray, List.set_cons_zero, List.set_cons_succ]
          refine wpAnyH_ready (rs := [13]) (by kernel_rfl) (by simp) ?_
          refine AllReadyH.cons rfl (fun K hK => ?_) AllReadyH.nil
          obtain ⟨v6, w6, hr6, ho6, hb6⟩ := HA3.out _ _ _ (if cap = at0 then some ⟨g, 0, none⟩ else some ⟨g, at0 * 3, none⟩) hi hb5 ho5 (fun e => by split at e <;> cases e) (fun ad ha hl => by rw [if_neg (by omega)] at ha; cases ha; rfl)
          refine step_append_eq rfl _ _ _ rfl _ _ _ _ rfl rfl hr6 ?_
          refine hK.out _ _ (HSof.out _ hb6) (fun hHeld6 => ?_)
          clear hK K hr6 hHeld5
          simp only [List.getElem_toArray, List.getElem_cons_succ, List.getElem_cons_zero, Act.put, List.setIfInBounds_toArray, List.set_cons_zero, List.set_cons_succ]
          (refine wpAnyH_take (i := 14) (v := ?_) rfl (by kernel_rfl) (by kernel_rfl) (by kernel_rfl) (fun _ _ _ h => h) (Or.inl ⟨by rfl, ?_⟩) (by assumption) ?_; rotate_left; focus ((intro w hSw; (try dsimp only at hSw); go_simp); try (with_reducible rfl); done); try simp only [Act.put, List.setIfInBounds_toArray, List.set_cons_zero, List.set_cons_succ])
          refine wpAnyH_done (by kernel_rfl) ?_ _
          have q1 := (hb6.block _ (by rw [HZ.out]; omega)).trans R1.out
          have q2 := (hb6.block _ (by rw [HZ.out]; omega)).trans R3.out
          have f0 := dk_frozen w6 W.heap.size 0 _ _ q1
          have g0 := dk_frozen w6 (W.heap.size + 1 + 1) 0 _ _ q2
          have g1 := dk_frozen w6 (W.heap.size + 1 + 1) 1 _ _ q2
          have g2 := dk_frozen w6 (W.heap.size + 1 + 1) 2 _ _ q2
          have e0 : w6.cell? ⟨W.heap.size, 0, none⟩ = some (.slice (some ⟨g, 0, none⟩) xs.length cap) := by rw [cell_of_row w6 _ _ _ _ _ q1]; rfl
          have e1 : w6.cell? ⟨W.heap.size, 1, none⟩ = some (.int .i64 bud) := by rw [cell_of_row w6 _ _ _ _ _ q1]; rfl
          have e2 : w6.cell? ⟨W.heap.size, 2, none⟩ = some (.bool down) := by rw [cell_of_row w6 _ _ _ _ _ q1]; rfl
          have c0 : w6.cell? ⟨W.heap.size + 1 + 1, 0, none⟩ = some (.slice none 0 0) := by rw [cell_of_row w6 _ _ _ _ _ q2]; rfl
          have c1 : w6.cell? ⟨W.heap.size + 1 + 1, 1, none⟩ = some (.int .i64 0) := by rw [cell_of_row w6 _ _ _ _ _ q2]; rfl
          have c2 : w6.cell? ⟨W.heap.size + 1 + 1, 2, none⟩ = some (.bool false) := by rw [cell_of_row w6 _ _ _ _ _ q2]; rfl
          have Q2 := Lib.hid q2
          have HB6 := Lib.hid hb6
          have HO6 := Lib.hid ho6
          obtain ⟨a6, p6, rfl⟩ := rf_own_form ho6
          clear q1 q2 hb6 ho6 hHeld6 hb5 ho5
          unfold sinkPost
          simp only []
          go_simp
          go_wp2_with fail
          all_goals
            have hz := HZ.out
            have hs0 := HO6.out.kept (dk_grown_setCell w6 w6 W.heap.size 0 (.slice a6 (xs.length + 1) p6) ⟨rfl, rfl, rfl, Nat.le_refl _, fun _ _ _ => rfl⟩) (by
              right; intro e; have := (HO6.out.lt W.heap.size e).1; omega)
            have hr0 := rf_other w6 W.heap.size 0 (.slice a6 (xs.length + 1) p6) (W.heap.size + 1 + 1) (by omega) Q2.out
            have hr3 := rf_store3 (v0 := .slice a6 (xs.length + 1) p6) (v1 := .int .i64 bud) (v2 := .bool down) hr0
            have hs3 := hs0.kept (rf_store3_grown (b := W.heap.size + 1 + 1) (v0 := .slice a6 (xs.length + 1) p6) (v1 := .int .i64 bud) (v2 := .bool down)) (by
              right; intro e; have := (HO6.out.lt _ e).1; omega)
            refine bodyPost_ret (results_cell_row rfl _ _ (W.heap.size + 1 + 1) _ _ (0, 0) _ rfl hr3 Tryz.underlying27 rfl (by kernel_rfl)) rfl ?_
            refine ⟨_, rfl, rf_own_mono hs3 (by omega), ?_⟩
            exact ((((HB3.out.trans (HB6.out.mono (by omega))).setCell (by simp) _).setCell (by simp; omega) _).setCell (by simp; omega) _).setCell (by simp; omega) _

set_option maxRecDepth 100000 in
set_option maxHeartbeats 4000000 in
theorem rf_with_none (W : World) (bud : Int) (down : Bool) (x : Re) (hx1 : ∀ u ∈ x.cells, u.oneCell' = true) :
    Calls Tryz.prog 81 #[.agg #[.slice none 0 0, .int .i64 bud, .bool down], x.val] W fun e W' => ∃ sv', e = .returned (.agg #[sv', .int .i64 bud, .bool down]) ∧
      W'.ownsRow W.heap.size 37 3 sv' 1 x.cells ∧ Below W.heap.size W W' := by
  obtain ⟨nm, dv, wv, vs, f⟩ := x
  unfold Re.cells at hx1 ⊢
  obtain ⟨W3, hW3⟩ : ∃ W3, W3 = ((W.alloc (.cells #[.slice none 0 0, .int .i64 bud, .bool down] 27)).alloc (.cells #[.string ⟨nm.toArray⟩, dv, wv] 37)).alloc (.cells #[.slice none 0 0, .int .i64 0, .bool false] 27) := ⟨_, rfl⟩
  have hz : W3.heap.size = W.heap.size + 3 := by rw [hW3]; simp
  have hb3 : Below W.heap.size W W3 := by rw [hW3]; exact (((Below.refl _ _).alloc (Nat.le_refl _) _).alloc (by simp) _).alloc (by simp; omega) _
  have r1 : W3.heap[W.heap.size]? = some (.cells #[.slice none 0 0, .int .i64 bud, .bool down] 27 (0, 0)) := by
    rw [hW3, Below.heap_alloc _ _ _ (by simp; omega), Below.heap_alloc _ _ _ (by simp)]; exact heap_alloc_new W _
  have r2 : W3.heap[W.heap.size + 1]? = some (.cells #[.string ⟨nm.toArray⟩, dv, wv] 37 (0, 0)) := by
    rw [hW3, Below.heap_alloc _ _ _ (by simp)]; exact rf_new2 W _ _
  have r3 : W3.heap[W.heap.size + 1 + 1]? = some (.cells #[.slice none 0 0, .int .i64 0, .bool false] 27 (0, 0)) := by
    rw [hW3]; have := rf_new2 (W.alloc (.cells #[.slice none 0 0, .int .i64 bud, .bool down] 27)) (.cells #[.string ⟨nm.toArray⟩, dv, wv] 37) (.cells #[.slice none 0 0, .int .i64 0, .bool false] 27); simpa using this
  simp only [] at hx1 ⊢
  have d0 : W3.cell? ⟨W.heap.size, 0, none⟩ = some (.slice none 0 0) := by rw [cell_of_row W3 _ _ _ _ _ r1]; rfl
  have e0 : W3.cell? ⟨W.heap.size + 1, 0, none⟩ = some (.string ⟨nm.toArray⟩) := by rw [cell_of_row W3 _ _ _ _ _ r2]; rfl
  have e1 : W3.cell? ⟨W.heap.size + 1, 1, none⟩ = some dv := by rw [cell_of_row W3 _ _ _ _ _ r2]; rfl
  have e2 : W3.cell? ⟨W.heap.size + 1, 2, none⟩ = some wv := by rw [cell_of_row W3 _ _ _ _ _ r2]; rfl
  have hA1 : ∀ Wx gx, Below W3.heap.size W3 Wx → W3.heap.size ≤ gx → Wx.heap[gx]? = some (.cells #[] 37 (0, 0)) → ∃ v' w', (Builtin.append_ #[25, 25] 25 #[.slice (some ⟨gx, 0, none⟩) 0 0, .slice none 0 0]).run Tryz.prog Wx = .ok v' w' ∧
      w'.ownsRow W3.heap.size 37 3 v' 0 [] ∧ Below W3.heap.size W3 w' ∧ Wx.grownBy w' (some gx) := fun Wx gx hb hgx hrow => by
    obtain ⟨v', w', hr, ho, hgr⟩ := rf_appendF (w := Wx) 25 W3.heap.size _ 0 [] (rf_own_empty hgx hrow) none 0 0 [] rfl (fun ad ha => by cases ha) (fun _ => rfl) (fun u hu => by cases hu) (by omega) hb.size
    exact ⟨v', w', hr, ho, hb.grown hgr hb.size (by intro j hj; simp [Value.ownBlock] at hj; omega), hgr⟩
  have hA2 : ∀ Wx v gf, Below W3.heap.size W3 Wx → Wx.ownsRow W3.heap.size 37 3 v 0 [] → Wx.heap[gf]? = some (.cells #[.string ⟨nm.toArray⟩, dv, wv] 37 (0, 0)) →
      ∃ v' w', (Builtin.append_ #[25, 25] 25 #[v, .slice (some ⟨gf, 0, none⟩) 1 1]).run Tryz.prog Wx = .ok v' w' ∧
      w'.ownsRow W3.heap.size 37 3 v' 1 [.string ⟨nm.toArray⟩, dv, wv] ∧ Below W3.heap.size W3 w' := fun Wx v gf hb hown hrow => by
    obtain ⟨v', w', hr, ho, hgr⟩ := rf_appendF (w := Wx) 25 W3.heap.size v 0 _ hown (some ⟨gf, 0, none⟩) 1 1 [.string ⟨nm.toArray⟩, dv, wv] rfl (fun ad ha => by cases ha; exact World.news_of_block hrow) (fun e => by cases e) hx1 (by omega) hb.size
    exact ⟨v', w', hr, ho, hb.grown hgr hb.size (fun j hj => (hown.lt j hj).1)⟩
  have hA3 : ∀ Wx v, Below W3.heap.size W3 Wx → Wx.ownsRow W3.heap.size 37 3 v 1 [.string ⟨nm.toArray⟩, dv, wv] →
      ∃ v' w', (Builtin.append_ #[25, 25] 25 #[v, .slice none 0 0]).run Tryz.prog Wx = .ok v' w' ∧
      w'.ownsRow W3.heap.size 37 3 v' 1 [.string ⟨nm.toArray⟩, dv, wv] ∧ Below W3.heap.size W3 w' := fun Wx v hb hown => by
    obtain ⟨v', w', hr, ho, hgr⟩ := rf_appendF (w := Wx) 25 W3.heap.size v 1 _ hown none 0 0 [] rfl (fun ad ha => by cases ha) (fun _ => rfl) (fun u hu => by cases hu) (by omega) hb.size
    exact ⟨v', w', hr, ho, hb.grown hgr hb.size (fun j hj => (hown.lt j hj).1)⟩
  have hSof : ∀ wy, Below W3.heap.size W3 wy → wy.cell? ⟨W.heap.size, 0, none⟩ = some (.slice none 0 0) ∧ wy.cell? ⟨W.heap.size + 1, 0, none⟩ = some (.string ⟨nm.toArray⟩) ∧ wy.cell? ⟨W.heap.size + 1, 1, none⟩ = some dv ∧ wy.cell? ⟨W.heap.size + 1, 2, none⟩ = some wv ∧ Below W3.heap.size W3 wy := fun wy hb =>
    ⟨(hb.cell (p := ⟨W.heap.size, 0, none⟩) (by rw [hz]; simp)).trans d0, (hb.cell (p := ⟨W.heap.size + 1, 0, none⟩) (by rw [hz]; simp)).trans e0, (hb.cell (p := ⟨W.heap.size + 1, 1, none⟩) (by rw [hz]; simp)).trans e1, (hb.cell (p := ⟨W.heap.size + 1, 2, none⟩) (by rw [hz]; simp)).trans e2, hb⟩
  have HA1 := Lib.hid hA1
  have HA2 := Lib.hid hA2
  have HA3 := Lib.hid hA3
  have HSof := Lib.hid hSof
  have HZ := Lib.hid hz
  have HB3 := Lib.hid hb3
  have R1 := Lib.hid r1
  have R2 := Lib.hid r2
  have R3 := Lib.hid r3
  have D0 := Lib.hid d0
  have HW := Lib.hid hW3
  clear hx1 hz hb3 r1 r2 r3 hW3 d0 e0 e1 e2 hA1 hA2 hA3 hSof
  unfold Re.val
  simp only []
  go_enter Tryz.func81, Tryz.ntmps81
  go_wp2_with fail
  rw [← HW.out]
  go_loopw [5] (fun iv wr => iv = .int .i64 0 ∧ Hid (Below W3.heap.size W3 wr)) (fun _ _ => 0)
  case atStart => exact ⟨rfl, Lib.hid (Below.refl _ _)⟩
  case round =>
      obtain ⟨rfl, HBL⟩ := hrel
      have c0 := (HBL.out.cell (p := ⟨W.heap.size, 0, none⟩) (by rw [HZ.out]; simp)).trans D0.out
      go_wp2_with fail
      go_quiet (fail)
      go_wp2_with fail
      have HB0 : Hid (Below W3.heap.size W3 (World.drewN wr nq)) := Lib.hid (dk_below_drewN HBL.out nq)
      have HBd : Hid (Below W3.heap.size W3 (World.drewN wr nq).drew) := Lib.hid (dk_below_drewN HBL.out nq).drew
      generalize (World.drewN wr nq) = wd at *
      refine wp_region_sink' (fun w' => w'.cell? ⟨W.heap.size, 0, none⟩ = some (.slice none 0 0) ∧ w'.cell? ⟨W.heap.size + 1, 0, none⟩ = some (.string ⟨nm.toArray⟩) ∧ w'.cell? ⟨W.heap.size + 1, 1, none⟩ = some dv ∧ w'.cell? ⟨W.heap.size + 1, 2, none⟩ = some wv ∧ Below W3.heap.size W3 w') _ rfl (by kernel_rfl) (by kernel_rfl) (HSof.out _ HBd.out) (fun hHeld => ?_)
      simp only [List.pop_toArray, List.dropLast_cons_cons, List.dropLast_singleton]
      (refine wpAnyH_take (i := 1) (v := ?_) rfl (by kernel_rfl) (by kernel_rfl) (by kernel_rfl) (fun _ _ _ h => h) (Or.inl ⟨by rfl, ?_⟩) (by assumption) ?_; rotate_left; focus ((intro w hSw; (try dsimp only at hSw); go_simp); try (with_reducible rfl); done); try simp only [Act.put, List.setIfInBounds_toArray, List.set_cons_zero, List.set_cons_succ])
      (refine wpAnyH_take (i := 2) (v := ?_) rfl (by kernel_rfl) (by kernel_rfl) (by kernel_rfl) (fun _ _ _ h => h) (Or.inl ⟨by rfl, ?_⟩) (by assumption) ?_; rotate_left; focus ((intro w hSw; (try dsimp only at hSw); go_simp); try (with_reducible rfl); done); try simp only [Act.put, List.setIfInBounds_toArray, List.set_cons_zero, List.set_cons_succ])
      (refine wpAnyH_take (i := 3) (v := ?_) rfl (by kernel_rfl) (by kernel_rfl) (by kernel_rfl) (fun _ _ _ h => h) (Or.inl ⟨by rfl, ?_⟩) (by assumption) ?_; rotate_left; focus ((intro w hSw; (try dsimp only at hSw); go_simp); try (with_reducible rfl); done); try simp only [Act.put, List.setIfInBounds_toArray, List.set_cons_zero, List.set_cons_succ])
      (refine wpAnyH_take (i := 4) (v := ?_) rfl (by kernel_rfl) (by kernel_rfl) (by kernel_rfl) (fun _ _ _ h => h) (Or.inl ⟨by rfl, ?_⟩) (by assumption) ?_; rotate_left; focus ((intro w hSw; (try dsimp only at hSw); go_simp); try (with_reducible rfl); done); try simp only [Act.put, List.setIfInBounds_toArray, List.set_cons_zero, List.set_cons_succ])
      (refine wpAnyH_take (i := 6) (v := ?_) rfl (by kernel_rfl) (by kernel_rfl) (by kernel_rfl) (fun _ _ _ h => h) (Or.inl ⟨by rfl, ?_⟩) (by assumption) ?_; rotate_left; focus ((intro w hSw; (try dsimp only at hSw); go_simp); try (with_reducible rfl); done); try simp only [Act.put, List.setIfInBounds_toArray, List.set_cons_zero, List.set_cons_succ])
      (refine wpAnyH_take (i := 9) (v := ?_) rfl (by kernel_rfl) (by kernel_rfl) (by kernel_rfl) (fun _ _ _ h => h) (Or.inl ⟨by rfl, ?_⟩) (by assumption) ?_; rotate_left; focus ((intro w hSw; (try dsimp only at hSw); go_simp); try (with_reducible rfl); done); try simp only [Act.put, List.setIfInBounds_toArray, List.set_cons_zero, List.set_cons_succ])
      (refine wpAnyH_take (i := 10) (v := ?_) rfl (by kernel_rfl) (by kernel_rfl) (by kernel_rfl) (fun _ _ _ h => h) (Or.inl ⟨by rfl, ?_⟩) (by assumption) ?_; rotate_left; focus ((intro w hSw; (try dsimp only at hSw); go_simp); try (with_reducible rfl); done); try simp only [Act.put, List.setIfInBounds_toArray, List.set_cons_zero, List.set_cons_succ])
      (refine wpAnyH_take (i := 11) (v := ?_) rfl (by kernel_rfl) (by kernel_rfl) (by kernel_rfl) (fun _ _ _ h => h) (Or.inl ⟨by rfl, ?_⟩) (by assumption) ?_; rotate_left; focus ((intro w hSw; (try dsimp only at hSw); go_simp); try (with_reducible rfl); done); try simp only [Act.put, List.setIfInBounds_toArray, List.set_cons_zero, List.set_cons_succ])
      (refine wpAnyH_take (i := 12) (v := ?_) rfl (by kernel_rfl) (by kernel_rfl) (by kernel_rfl) (fun _ _ _ h => h) (Or.inl ⟨by rfl, ?_⟩) (by assumption) ?_; rotate_left; focus ((intro w hSw; (try dsimp only at hSw); go_simp); try (with_reducible rfl); done); try simp only [Act.put, List.setIfInBounds_toArray, List.set_cons_zero, List.set_cons_succ])
      have hwd : W3.heap.size ≤ wd.heap.size := HB0.out.size
      refine wpAnyH_ready (rs := [0, 7]) (by kernel_rfl) (by simp) ?_
      refine AllReadyH.cons rfl (fun K hK => ?_) (AllReadyH.cons rfl (fun K hK => ?_) AllReadyH.nil)
      · go_simp
        have hb1 : Below W3.heap.size W3 (wd.alloc (.cells #[] 37)).drew := (HB0.out.alloc hwd _).drew
        have hr1 : (wd.alloc (.cells #[] 37)).drew.heap[wd.heap.size]? = some (.cells #[] 37 (0, 0)) := heap_alloc_new wd _
        refine hK.out _ _ (HSof.out _ hb1) (fun hHeld1 => ?_)
        clear hK K hHeld
        try simp only [List.getElem_toArray]
        refine wpAnyH_ready (rs := [5, 7]) (by kernel_rfl) (by simp) ?_
        refine AllReadyH.cons rfl (fun K hK => ?_) (AllReadyH.cons rfl (fun K hK => ?_) AllReadyH.nil)
        · obtain ⟨v4, w4, hr4, ho4, hb4, hg4⟩ := HA1.out _ _ hb1 hwd hr1
          refine step_append_eq rfl _ _ _ rfl _ _ _ _ rfl rfl hr4 ?_
          refine hK.out _ _ (HSof.out _ hb4) (fun hHeld4 => ?_)
          clear hK K hr4 hHeld1 hr1 hb1 hg4
          simp only [List.getElem_toArray, List.getElem_cons_succ, List.getElem_cons_zero, Act.put, List.setIfInBounds_toArray, List.set_cons_zero, List.set_cons_succ]
          refine wpAnyH_ready (rs := [7]) (by kernel_rfl) (by simp) ?_
          refine AllReadyH.cons rfl (fun K hK => ?_) AllReadyH.nil
          go_simp
          have hbc : Below W3.heap.size W3 (w4.alloc (.cells #[.string ⟨nm.toArray⟩, dv, wv] 37)) := hb4.alloc hb4.size _
          have hrf : (w4.alloc (.cells #[.string ⟨nm.toArray⟩, dv, wv] 37)).heap[w4.heap.size]? = some (.cells #[.string ⟨nm.toArray⟩, dv, wv] 37 (0, 0)) := heap_alloc_new w4 _
          refine hK.out _ _ (HSof.out _ hbc) (fun hHeldc => ?_)
          have ho4' := ho4.alloc (.cells #[.string ⟨nm.toArray⟩, dv, wv] 37)
          clear hK K hHeld4 hb4 ho4
          have ho4 := ho4'
          clear ho4'
          try simp only [List.getElem_toArray, List.getElem_cons_succ, List.getElem_cons_zero, Act.put, List.setIfInBounds_toArray, List.set_cons_zero, List.set_cons_succ]
          refine wpAnyH_ready (rs := [8]) (by kernel_rfl) (by simp) ?_
          refine AllReadyH.cons rfl (fun K hK => ?_) AllReadyH.nil
          obtain ⟨v5, w5, hr5, ho5, hb5⟩ := HA2.out _ _ _ hbc ho4 hrf
          refine step_append_eq rfl _ _ _ rfl _ _ _ _ rfl rfl hr5 ?_
          refine hK.out _ _ (HSof.out _ hb5) (fun hHeld5 => ?_)
          clear hK K hr5
          simp only [List.getElem_toArray, List.getElem_cons_succ, List.getElem_cons_zero, Act.put, List.setIfInBounds_toArray, List.set_cons_zero, List.set_cons_succ]
          refine wpAnyH_ready (rs := [13]) (by kernel_rfl) (by simp) ?_
          refine AllReadyH.cons rfl (fun K hK => ?_) AllReadyH.nil
          obtain ⟨v6, w6, hr6, ho6, hb6⟩ := HA3.out _ _ hb5 ho5
          refine step_append_eq rfl _ _ _ rfl _ _ _ _ rfl rfl hr6 ?_
          refine hK.out _ _ (HSof.out _ hb6) (fun hHeld6 => ?_)
          clear hK K hr6 hHeld5
          simp only [List.getElem_toArray, List.getElem_cons_succ, List.getElem_cons_zero, Act.put, List.setIfInBounds_toArray, List.set_cons_zero, List.set_cons_succ]
          (refine wpAnyH_take (i := 14) (v := ?_) rfl (by kernel_rfl) (by kernel_rfl) (by kernel_rfl) (fun _ _ _ h => h) (Or.inl ⟨by rfl, ?_⟩) (by assumption) ?_; rotate_left; focus ((intro w hSw; (try dsimp only at hSw); go_simp); try (with_reducible rfl); done); try simp only [Act.put, List.setIfInBounds_toArray, List.set_cons_zero, List.set_cons_succ])
          refine wpAnyH_done (by kernel_rfl) ?_ _
          have q1 := (hb6.block _ (by rw [HZ.out]; omega)).trans R1.out
          have q2 := (hb6.block _ (by rw [HZ.out]; omega)).trans R3.out
          have f0 := dk_frozen w6 W.heap.size 0 _ _ q1
          have g0 := dk_frozen w6 (W.heap.size + 1 + 1) 0 _ _ q2
          have g1 := dk_frozen w6 (W.heap.size + 1 + 1) 1 _ _ q2
          have g2 := dk_frozen w6 (W.heap.size + 1 + 1) 2 _ _ q2
          have e0 : w6.cell? ⟨W.heap.size, 0, none⟩ = some (.slice none 0 0) := by rw [cell_of_row w6 _ _ _ _ _ q1]; rfl
          have e1 : w6.cell? ⟨W.heap.size, 1, none⟩ = some (.int .i64 bud) := by rw [cell_of_row w6 _ _ _ _ _ q1]; rfl
          have e2 : w6.cell? ⟨W.heap.size, 2, none⟩ = some (.bool down) := by rw [cell_of_row w6 _ _ _ _ _ q1]; rfl
          have c0 : w6.cell? ⟨W.heap.size + 1 + 1, 0, none⟩ = some (.slice none 0 0) := by rw [cell_of_row w6 _ _ _ _ _ q2]; rfl
          have c1 : w6.cell? ⟨W.heap.size + 1 + 1, 1, none⟩ = some (.int .i64 0) := by rw [cell_of_row w6 _ _ _ _ _ q2]; rfl
          have c2 : w6.cell? ⟨W.heap.size + 1 + 1, 2, none⟩ = some (.bool false) := by rw [cell_of_row w6 _ _ _ _ _ q2]; rfl
          have Q2 := Lib.hid q2
          have HB6 := Lib.hid hb6
          have HO6 := Lib.hid ho6
          obtain ⟨a6, p6, rfl⟩ := rf_own_form ho6
          clear q1 q2 hb6 ho6 hHeld6 hb5 ho5
          unfold sinkPost
          simp only []
          go_simp
          go_wp2_with fail
          all_goals
            have hz := HZ.out
            have hs0 := HO6.out.kept (dk_grown_setCell w6 w6 W.heap.size 0 (.slice a6 1 p6) ⟨rfl, rfl, rfl, Nat.le_refl _, fun _ _ _ => rfl⟩) (by
              right; intro e; have := (HO6.out.lt W.heap.size e).1; omega)
            have hr0 := rf_other w6 W.heap.size 0 (.slice a6 1 p6) (W.heap.size + 1 + 1) (by omega) Q2.out
            have hr3 := rf_store3 (v0 := .slice a6 1 p6) (v1 := .int .i64 bud) (v2 := .bool down) hr0
            have hs3 := hs0.kept (rf_store3_grown (b := W.heap.size + 1 + 1) (v0 := .slice a6 1 p6) (v1 := .int .i64 bud) (v2 := .bool down)) (by
              right; intro e; have := (HO6.out.lt _ e).1; omega)
            refine bodyPost_ret (results_cell_row rfl _ _ (W.heap.size + 1 + 1) _ _ (0, 0) _ rfl hr3 Tryz.underlying27 rfl (by kernel_rfl)) rfl ?_
            refine ⟨_, rfl, rf_own_mono hs3 (by omega), ?_⟩
            exact ((((HB3.out.trans (HB6.out.mono (by omega))).setCell (by simp) _).setCell (by simp; omega) _).setCell (by simp; omega) _).setCell (by simp; omega) _
        · go_simp
          have hb2 : Below W3.heap.size W3 ((wd.alloc (.cells #[] 37)).alloc (.cells #[.string ⟨nm.toArray⟩, dv, wv] 37)).drew := ((HB0.out.alloc hwd _).alloc (by simp; omega) _).drew
          have hr2 : ((wd.alloc (.cells #[] 37)).alloc (.cells #[.string ⟨nm.toArray⟩, dv, wv] 37)).drew.heap[wd.heap.size]? = some (.cells #[] 37 (0, 0)) := (Below.heap_alloc (wd.alloc (.cells #[] 37)) _ _ (by simp)).trans (heap_alloc_new wd _)
          have hf2 : ((wd.alloc (.cells #[] 37)).alloc (.cells #[.string ⟨nm.toArray⟩, dv, wv] 37)).drew.heap[wd.heap.size + 1]? = some (.cells #[.string ⟨nm.toArray⟩, dv, wv] 37 (0, 0)) := rf_new2 wd _ _
          refine hK.out _ _ (HSof.out _ hb2) (fun hHeld2 => ?_)
          clear hK K hHeld1 hb1 hr1
          try simp only [List.getElem_toArray, List.getElem_cons_succ, List.getElem_cons_zero, Act.put, List.setIfInBounds_toArray, List.set_cons_zero, List.set_cons_succ]
          refine wpAnyH_ready (rs := [5]) (by kernel_rfl) (by simp) ?_
          refine AllReadyH.cons rfl (fun K hK => ?_) AllReadyH.nil
          obtain ⟨v4, w4, hr4, ho4, hb4, hg4⟩ := HA1.out _ _ hb2 hwd hr2
          refine step_append_eq rfl _ _ _ rfl _ _ _ _ rfl rfl hr4 ?_
          refine hK.out _ _ (HSof.out _ hb4) (fun hHeld4 => ?_)
          have hrf := (hg4.block (wd.heap.size + 1) (Array.getElem?_eq_some_iff.1 hf2).1 (by simp)).trans hf2
          have hbc := hb4
          clear hK K hr4 hHeld2 hr2 hb2 hg4 hf2 hb4
          simp only [List.getElem_toArray, List.getElem_cons_succ, List.getElem_cons_zero, Act.put, List.setIfInBounds_toArray, List.set_cons_zero, List.set_cons_succ]
          refine wpAnyH_ready (rs := [8]) (by kernel_rfl) (by simp) ?_
          refine AllReadyH.cons rfl (fun K hK => ?_) AllReadyH.nil
          obtain ⟨v5, w5, hr5, ho5, hb5⟩ := HA2.out _ _ _ hbc ho4 hrf
          refine step_append_eq rfl _ _ _ rfl _ _ _ _ rfl rfl hr5 ?_
          refine hK.out _ _ (HSof.out _ hb5) (fun hHeld5 => ?_)
          clear hK K hr5
          simp only [List.getElem_toArray, List.getElem_cons_succ, List.getElem_cons_zero, Act.put, List.setIfInBounds_toArray, List.set_cons_zero, List.set_cons_succ]
          refine wpAnyH_ready (rs := [13]) (by kernel_rfl) (by simp) ?_
          refine AllReadyH.cons rfl (fun K hK => ?_) AllReadyH.nil
          obtain ⟨v6, w6, hr6, ho6, hb6⟩ := HA3.out _ _ hb5 ho5
          refine step_append_eq rfl _ _ _ rfl _ _ _ _ rfl rfl hr6 ?_
          refine hK.out _ _ (HSof.out _ hb6) (fun hHeld6 => ?_)
          clear hK K hr6 hHeld5
          simp only [List.getElem_toArray, List.getElem_cons_succ, List.getElem_cons_zero, Act.put, List.setIfInBounds_toArray, List.set_cons_zero, List.set_cons_succ]
          (refine wpAnyH_take (i := 14) (v := ?_) rfl (by kernel_rfl) (by kernel_rfl) (by kernel_rfl) (fun _ _ _ h => h) (Or.inl ⟨by rfl, ?_⟩) (by assumption) ?_; rotate_left; focus ((intro w hSw; (try dsimp only at hSw); go_simp); try (with_reducible rfl); done); try simp only [Act.put, List.setIfInBounds_toArray, List.set_cons_zero, List.set_cons_succ])
          refine wpAnyH_done (by kernel_rfl) ?_ _
          have q1 := (hb6.block _ (by rw [HZ.out]; omega)).trans R1.out
          have q2 := (hb6.block _ (by rw [HZ.out]; omega)).trans R3.out
          have f0 := dk_frozen w6 W.heap.size 0 _ _ q1
          have g0 := dk_frozen w6 (W.heap.size + 1 + 1) 0 _ _ q2
          have g1 := dk_frozen w6 (W.heap.size + 1 + 1) 1 _ _ q2
          have g2 := dk_frozen w6 (W.heap.size + 1 + 1) 2 _ _ q2
          have e0 : w6.cell? ⟨W.heap.size, 0, none⟩ = some (.slice none 0 0) := by rw [cell_of_row w6 _ _ _ _ _ q1]; rfl
          have e1 : w6.cell? ⟨W.heap.size, 1, none⟩ = some (.int .i64 bud) := by rw [cell_of_row w6 _ _ _ _ _ q1]; rfl
          have e2 : w6.cell? ⟨W.heap.size, 2, none⟩ = some (.bool down) := by rw [cell_of_row w6 _ _ _ _ _ q1]; rfl
          have c0 : w6.cell? ⟨W.heap.size + 1 + 1, 0, none⟩ = some (.slice none 0 0) := by rw [cell_of_row w6 _ _ _ _ _ q2]; rfl
          have c1 : w6.cell? ⟨W.heap.size + 1 + 1, 1, none⟩ = some (.int .i64 0) := by rw [cell_of_row w6 _ _ _ _ _ q2]; rfl
          have c2 : w6.cell? ⟨W.heap.size + 1 + 1, 2, none⟩ = some (.bool false) := by rw [cell_of_row w6 _ _ _ _ _ q2]; rfl
          have Q2 := Lib.hid q2
          have HB6 := Lib.hid hb6
          have HO6 := Lib.hid ho6
          obtain ⟨a6, p6, rfl⟩ := rf_own_form ho6
          clear q1 q2 hb6 ho6 hHeld6 hb5 ho5
          unfold sinkPost
          simp only []
          go_simp
          go_wp2_with fail
          all_goals
            have hz := HZ.out
            have hs0 := HO6.out.kept (dk_grown_setCell w6 w6 W.heap.size 0 (.slice a6 1 p6) ⟨rfl, rfl, rfl, Nat.le_refl _, fun _ _ _ => rfl⟩) (by
              right; intro e; have := (HO6.out.lt W.heap.size e).1; omega)
            have hr0 := rf_other w6 W.heap.size 0 (.slice a6 1 p6) (W.heap.size + 1 + 1) (by omega) Q2.out
            have hr3 := rf_store3 (v0 := .slice a6 1 p6) (v1 := .int .i64 bud) (v2 := .bool down) hr0
            have hs3 := hs0.kept (rf_store3_grown (b := W.heap.size + 1 + 1) (v0 := .slice a6 1 p6) (v1 := .int .i64 bud) (v2 := .bool down)) (by
              right; intro e; have := (HO6.out.lt _ e).1; omega)
            refine bodyPost_ret (results_cell_row rfl _ _ (W.heap.size + 1 + 1) _ _ (0, 0) _ rfl hr3 Tryz.underlying27 rfl (by kernel_rfl)) rfl ?_
            refine ⟨_, rfl, rf_own_mono hs3 (by omega), ?_⟩
            exact ((((HB3.out.trans (HB6.out.mono (by omega))).setCell (by simp) _).setCell (by simp; omega) _).setCell (by simp; omega) _).setCell (by simp; omega) _
      · go_simp
        have hb1 : Below W3.heap.size W3 (wd.alloc (.cells #[.string ⟨nm.toArray⟩, dv, wv] 37)).drew := (HB0.out.alloc hwd _).drew
        refine hK.out _ _ (HSof.out _ hb1) (fun hHeld1 => ?_)
        clear hK K hHeld
        try simp only [List.getElem_toArray]
        refine wpAnyH_ready (rs := [0]) (by kernel_rfl) (by simp) ?_
        refine AllReadyH.cons rfl (fun K hK => ?_) AllReadyH.nil
        go_simp
        have hb2 : Below W3.heap.size W3 ((wd.alloc (.cells #[.string ⟨nm.toArray⟩, dv, wv] 37)).alloc (.cells #[] 37)).drew := ((HB0.out.alloc hwd _).alloc (by simp; omega) _).drew
        have hf2 : ((wd.alloc (.cells #[.string ⟨nm.toArray⟩, dv, wv] 37)).alloc (.cells #[] 37)).drew.heap[wd.heap.size]? = some (.cells #[.string ⟨nm.toArray⟩, dv, wv] 37 (0, 0)) := (Below.heap_alloc (wd.alloc (.cells #[.string ⟨nm.toArray⟩, dv, wv] 37)) _ _ (by simp)).trans (heap_alloc_new wd _)
        have hr2 : ((wd.alloc (.cells #[.string ⟨nm.toArray⟩, dv, wv] 37)).alloc (.cells #[] 37)).drew.heap[wd.heap.size + 1]? = some (.cells #[] 37 (0, 0)) := rf_new2 wd _ _
        refine hK.out _ _ (HSof.out _ hb2) (fun hHeld2 => ?_)
        clear hK K hHeld1 hb1
        try simp only [List.getElem_toArray, List.getElem_cons_succ, List.getElem_cons_zero, Act.put, List.setIfInBounds_toArray, List.set_cons_zero, List.set_cons_succ]
        refine wpAnyH_ready (rs := [5]) (by kernel_rfl) (by simp) ?_
        refine AllReadyH.cons rfl (fun K hK => ?_) AllReadyH.nil
        obtain ⟨v4, w4, hr4, ho4, hb4, hg4⟩ := HA1.out _ _ hb2 (by omega) hr2
        refine step_append_eq rfl _ _ _ rfl _ _ _ _ rfl rfl hr4 ?_
        refine hK.out _ _ (HSof.out _ hb4) (fun hHeld4 => ?_)
        have hrf := (hg4.block wd.heap.size (Array.getElem?_eq_some_iff.1 hf2).1 (by simp)).trans hf2
        have hbc := hb4
        clear hK K hr4 hHeld2 hr2 hb2 hg4 hf2 hb4
        simp only [List.getElem_toArray, List.getElem_cons_succ, List.getElem_cons_zero, Act.put, List.setIfInBounds_toArray, List.set_cons_zero, List.set_cons_succ]
        refine wpAnyH_ready (rs := [8]) (by kernel_rfl) (by simp) ?_
        refine AllReadyH.cons rfl (fun K hK => ?_) AllReadyH.nil
        obtain ⟨v5, w5, hr5, ho5, hb5⟩ := HA2.out _ _ _ hbc ho4 hrf
        refine step_append_eq rfl _ _ _ rfl _ _ _ _ rfl rfl hr5 ?_
        refine hK.out _ _ (HSof.out _ hb5) (fun hHeld5 => ?_)
        clear hK K hr5
        simp only [List.getElem_toArray, List.getElem_cons_succ, List.getElem_cons_zero, Act.put, List.setIfInBounds_toArray, List.set_cons_zero, List.set_cons_succ]
        refine wpAnyH_ready (rs := [13]) (by kernel_rfl) (by simp) ?_
        refine AllReadyH.cons rfl (fun K hK => ?_) AllReadyH.nil
        obtain ⟨v6, w6, hr6, ho6, hb6⟩ := HA3.out _ _ hb5 ho5
        refine step_append_eq rfl _ _ _ rfl _ _ _ _ rfl rfl hr6 ?_
        refine hK.out _ _ (HSof.out _ hb6) (fun hHeld6 => ?_)
        clear hK K hr6 hHeld5
        simp only [List.getElem_toArray, List.getElem_cons_succ, List.getElem_cons_zero, Act.put, List.setIfInBounds_toArray, List.set_cons_zero, List.set_cons_succ]
        (refine wpAnyH_take (i := 14) (v := ?_) rfl (by kernel_rfl) (by kernel_rfl) (by kernel_rfl) (fun _ _ _ h => h) (Or.inl ⟨by rfl, ?_⟩) (by assumption) ?_; rotate_left; focus ((intro w hSw; (try dsimp only at hSw); go_simp); try (with_reducible rfl); done); try simp only [Act.put, List.setIfInBounds_toArray, List.set_cons_zero, List.set_cons_succ])
        refine wpAnyH_done (by kernel_rfl) ?_ _
        have q1 := (hb6.block _ (by rw [HZ.out]; omega)).trans R1.out
        have q2 := (hb6.block _ (by rw [HZ.out]; omega)).trans R3.out
        have f0 := dk_frozen w6 W.heap.size 0 _ _ q1
        have g0 := dk_frozen w6 (W.heap.size + 1 + 1) 0 _ _ q2
        have g1 := dk_frozen w6 (W.heap.size + 1 + 1) 1 _ _ q2
        have g2 := dk_frozen w6 (W.heap.size + 1 + 1) 2 _ _ q2
        have e0 : w6.cell? ⟨W.heap.size, 0, none⟩ = some (.slice none 0 0) := by rw [cell_of_row w6 _ _ _ _ _ q1]; rfl
        have e1 : w6.cell? ⟨W.heap.size, 1, none⟩ = some (.int .i64 bud) := by rw [cell_of_row w6 _ _ _ _ _ q1]; rfl
        have e2 : w6.cell? ⟨W.heap.size, 2, none⟩ = some (.bool down) := by rw [cell_of_row w6 _ _ _ _ _ q1]; rfl
        have c0 : w6.cell? ⟨W.heap.size + 1 + 1, 0, none⟩ = some (.slice none 0 0) := by rw [cell_of_row w6 _ _ _ _ _ q2]; rfl
        have c1 : w6.cell? ⟨W.heap.size + 1 + 1, 1, none⟩ = some (.int .i64 0) := by rw [cell_of_row w6 _ _ _ _ _ q2]; rfl
        have c2 : w6.cell? ⟨W.heap.size + 1 + 1, 2, none⟩ = some (.bool false) := by rw [cell_of_row w6 _ _ _ _ _ q2]; rfl
        have Q2 := Lib.hid q2
        have HB6 := Lib.hid hb6
        have HO6 := Lib.hid ho6
        obtain ⟨a6, p6, rfl⟩ := rf_own_form ho6
        clear q1 q2 hb6 ho6 hHeld6 hb5 ho5
        unfold sinkPost
        simp only []
        go_simp
        go_wp2_with fail
        all_goals
          have hz := HZ.out
          have hs0 := HO6.out.kept (dk_grown_setCell w6 w6 W.heap.size 0 (.slice a6 1 p6) ⟨rfl, rfl, rfl, Nat.le_refl _, fun _ _ _ => rfl⟩) (by
            right; intro e; have := (HO6.out.lt W.heap.size e).1; omega)
          have hr0 := rf_other w6 W.heap.size 0 (.slice a6 1 p6) (W.heap.size + 1 + 1) (by omega) Q2.out
          have hr3 := rf_store3 (v0 := .slice a6 1 p6) (v1 := .int .i64 bud) (v2 := .bool down) hr0
          have hs3 := hs0.kept (rf_store3_grown (b := W.heap.size + 1 + 1) (v0 := .slice a6 1 p6) (v1 := .int .i64 bud) (v2 := .bool down)) (by
            right; intro e; have := (HO6.out.lt _ e).1; omega)
          refine bodyPost_ret (results_cell_row rfl _ _ (W.heap.size + 1 + 1) _ _ (0, 0) _ rfl hr3 Tryz.underlying27 rfl (by kernel_rfl)) rfl ?_
          refine ⟨_, rfl, rf_own_mono hs3 (by omega), ?_⟩
          exact ((((HB3.out.trans (HB6.out.mono (by omega))).setCell (by simp) _).setCell (by simp; omega) _).setCell (by simp; omega) _).setCell (by simp; omega) _

theorem rf_with {c : Nat → Nat} {W : World} {sv : Value} {xs : List Re} (bud : Int) (down : Bool) (h : RfAt c W sv xs) (x : Re) (hx1 : ∀ u ∈ x.cells, u.oneCell' = true) :
    Calls Tryz.prog 81 #[.agg #[sv, .int .i64 bud, .bool down], x.val] W fun e W' => ∃ sv', e = .returned (.agg #[sv', .int .i64 bud, .bool down]) ∧
      W'.ownsRow W.heap.size 37 3 sv' (xs.length + 1) (reCells (xs.take (Dk.ahead x.nm (xs.map Re.ent)) ++ x :: xs.drop (Dk.ahead x.nm (xs.map Re.ent)))) ∧ Below W.heap.size W W' := by
  by_cases hs : ∃ cap, sv = .slice none xs.length cap
  · obtain ⟨cap, rfl⟩ := hs
    obtain ⟨⟨ao, cap', hv, hc, hn, _, _⟩, _, _⟩ := h
    injection hv with h1 _ h3
    subst h1 h3
    obtain rfl := hn rfl
    obtain rfl : xs = [] := List.eq_nil_of_length_eq_zero (by omega)
    refine (rf_with_none W bud down x hx1).mono fun e W' ⟨sv', he, ho, hb⟩ => ⟨sv', he, ?_, hb⟩
    simpa [reCells] using ho
  · exact rf_with_some bud down h (fun cap e => hs ⟨cap, e⟩) x hx1

end Go.Proofs.YtegahpgnmeobhaaGreatDoor
