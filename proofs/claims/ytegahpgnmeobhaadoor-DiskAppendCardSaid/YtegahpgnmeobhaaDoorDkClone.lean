/-
  file.clone; Clone.
-/
import Derived.Test.YtegahpgnmeobhaaDoorDkRead
namespace Go.Proofs.YtegahpgnmeobhaaDoor
open Go.RowKit

theorem dk_own_mono {w : World} {B B' : Nat} {t : TypeId} {sz : Nat} {v : Value} {n : Nat} {xs : List Value} (h : w.ownsRow B t sz v n xs) (hb : B' ≤ B) : w.ownsRow B' t sz v n xs := by
  refine ⟨h.1, ?_⟩
  rcases h.2 with h | ⟨g, cap, cur, hv, hB, r⟩
  · exact .inl h
  · exact .inr ⟨g, cap, cur, hv, Nat.le_trans hb hB, r⟩
theorem dk_own_form {w : World} {B : Nat} {t : TypeId} {sz : Nat} {v : Value} {n : Nat} {xs : List Value} (h : w.ownsRow B t sz v n xs) : ∃ a cap, v = .slice a n cap := by
  rcases h.2 with ⟨rfl, rfl⟩ | ⟨g, cap, cur, hv, _⟩
  · exact ⟨_, _, rfl⟩
  · exact ⟨_, _, hv⟩

/-- what one of the two clones leaves -/
def ClRes (W Wx : World) (t : TypeId) (sz : Nat) (v : Value) (n : Nat) (xs : List Value) (w : World) : Prop :=
  w.ownsRow W.heap.size t sz v n xs ∧ Below W.heap.size W w ∧ ∀ t' sz' v' n' xs', Wx.ownsRow W.heap.size t' sz' v' n' xs' → w.ownsRow W.heap.size t' sz' v' n' xs' ∧ ∀ k, v'.ownBlock = some k → v.ownBlock ≠ some k
theorem ClRes.mk {W Wx w : World} {t : TypeId} {sz : Nat} {v : Value} {n : Nat} {xs : List Value} (hbx : Below W.heap.size W Wx) (hown : w.ownsRow Wx.heap.size t sz v n xs) (hb : Below Wx.heap.size Wx w) : ClRes W Wx t sz v n xs w :=
  ⟨dk_own_mono hown hbx.size, hbx.trans (hb.mono hbx.size), fun t' sz' v' n' xs' h => ⟨h.kept (dk_grown_of_below none hb) (by cases hv : v'.ownBlock <;> simp), fun k hk e => by have := (h.lt k hk).2; have := (hown.lt k e).1; omega⟩⟩

/-- a file row more, over rows of its own -/
def ClFile (W : World) (d : Dk.Bs) (l : List Dk.Wr) (vs : List Value) (e : Ending) (W' : World) : Prop :=
  ∃ fb v1 v2, e = .returned (.pointer (some ⟨fb, 0, none⟩)) ∧ W.heap.size ≤ fb ∧ fb < W'.heap.size ∧ W'.heap[fb]? = some (.cells #[v1, v2] 43 (0, 0)) ∧ W'.ownsRow W.heap.size 5 1 v1 d.length (dkCells d) ∧
    W'.ownsRow W.heap.size 61 2 v2 l.length (wrCells l vs) ∧ (∀ k, v1.ownBlock = some k → v2.ownBlock ≠ some k ∧ k ≠ fb) ∧ (∀ k, v2.ownBlock = some k → k ≠ fb) ∧ Below W.heap.size W W'
theorem ClFile.mk {W w : World} {d : Dk.Bs} {l : List Dk.Wr} {vs : List Value} {v1 v2 : Value} (h1 : w.ownsRow W.heap.size 5 1 v1 d.length (dkCells d)) (h2 : w.ownsRow W.heap.size 61 2 v2 l.length (wrCells l vs))
    (hb : Below W.heap.size W w) (hd : ∀ k, v1.ownBlock = some k → v2.ownBlock ≠ some k) : ClFile W d l vs (.returned (.pointer (some ⟨w.heap.size, 0, none⟩))) (w.alloc (.cells #[v1, v2] 43)) :=
  ⟨w.heap.size, v1, v2, rfl, hb.size, by simp, heap_alloc_new w _, h1.alloc _, h2.alloc _, fun k hk => ⟨hd k hk, fun e => by have := (h1.lt k hk).2; omega⟩, fun k hk e => by have := (h2.lt k hk).2; omega, hb.alloc hb.size _⟩

set_option maxRecDepth 100000 in
set_option maxHeartbeats 2000000 in
theorem dk_fclone {c : Nat → Nat} {W : World} {x : Fe} (h : FeAt c W x) :
    Calls Tryd.prog 30 #[.pointer (some ⟨x.g, 0, none⟩)] W (ClFile W x.f.dur x.f.pend x.vs) := by
  have hxg := (Array.getElem?_eq_some_iff.1 h.row).1
  have hsz : x.f.dur.length ≤ 16777216 := by
    have h1 := h.size
    have h2 := Dk.sizeOf_le x.f.dur.length x.f.pend 0
    unfold Dk.Fl.contents at h1
    rw [Dk.sizeOf_contents] at h1
    simp only [List.take_zero] at h2
    unfold Dk.sizeOf' at h1 h2
    simp only [List.foldl_nil] at h2
    omega
  have hcb : ∀ Wx, Below W.heap.size W Wx → Calls Tryd.prog 34 #[x.dv] Wx fun e w' => ∃ v', e = .returned v' ∧ ClRes W Wx 5 1 v' x.f.dur.length (dkCells x.f.dur) w' := fun Wx hb =>
    (dk_cloneB x.dv x.f.dur Wx ((h.dur.1.below hb).mono hb.size) (by omega)).mono fun e w' ⟨v', he, ho, hb'⟩ => ⟨v', he, ClRes.mk hb ho hb'⟩
  have hcw : ∀ Wx, Below W.heap.size W Wx → Calls Tryd.prog 39 #[x.pv] Wx fun e w' => ∃ v', e = .returned v' ∧ ClRes W Wx 61 2 v' x.f.pend.length (wrCells x.f.pend x.vs) w' := fun Wx hb =>
    (dk_cloneW x.pv x.f.pend x.vs Wx (by obtain ⟨ao, cap, hv, hcp, hx⟩ := h.is.below hb; exact ⟨ao, cap, hv, hcp, fun hp => by obtain ⟨g, h1, h2, h3⟩ := hx hp; exact ⟨g, h1, Nat.lt_of_lt_of_le h2 hb.size, h3⟩⟩)
      (by have h1 := h.wr.ok.below hb; exact ⟨h1.1, fun k w v e1 e2 => ⟨(h1.2 k w v e1 e2).1.mono hb.size, (h1.2 k w v e1 e2).2⟩⟩) (by have := h.many; omega)).mono fun e w' ⟨v', he, ho, hb'⟩ => ⟨v', he, ClRes.mk hb ho hb'⟩
  have hfa : ∀ Wx, Below W.heap.size W Wx → Wx.cell? ⟨x.g, 0, none⟩ = some x.dv ∧ Wx.cell? ⟨x.g, 1, none⟩ = some x.pv := fun Wx hb => by
    have h1 := (hb.block x.g hxg).trans h.row
    exact ⟨by rw [cell_of_row Wx _ _ _ _ _ h1]; rfl, by rw [cell_of_row Wx _ _ _ _ _ h1]; rfl⟩
  obtain ⟨c0, c1⟩ := hfa W (Below.refl _ _)
  have HCB := Lib.hid hcb
  have HCW := Lib.hid hcw
  have HFA := Lib.hid hfa
  have K0 : Hid (Below W.heap.size W W.drew) := (Below.refl _ _).drew
  clear h hcb hcw hfa
  go_enter Tryd.func30, Tryd.ntmps30
  go_wp2_with fail
  go_region_with (first
    | (go_at_call 34; refine (HCB.out _ (Hid.out (by assumption))).mono ?_; rintro e w1 ⟨v1, rfl, hown1, hb1, hT1⟩; obtain ⟨a1, n1, rfl⟩ := dk_own_form hown1; obtain ⟨c2, c3⟩ := HFA.out w1 hb1; have KB : Hid (Below W.heap.size W w1) := hb1; have HO1 := Lib.hid hown1; have HT1 := Lib.hid hT1; clear hb1 hown1 hT1)
    | (go_at_call 39; refine (HCW.out _ (Hid.out (by assumption))).mono ?_; rintro e w2 ⟨v2, rfl, hown2, hb2, hT2⟩; obtain ⟨a2, n2, rfl⟩ := dk_own_form hown2; obtain ⟨c4, c5⟩ := HFA.out w2 hb2; have KW : Hid (Below W.heap.size W w2) := hb2; have HO2 := Lib.hid hown2; have HT2 := Lib.hid hT2; clear hb2 hown2 hT2))
  all_goals
    go_wp2_with fail
    go_ret
    first
      | exact ClFile.mk (HT2.out _ _ _ _ _ HO1.out).1 HO2.out KW (HT2.out _ _ _ _ _ HO1.out).2
      | exact ClFile.mk HO1.out (HT1.out _ _ _ _ _ HO2.out).1 KB (fun k h1 h2 => (HT1.out _ _ _ _ _ HO2.out).2 k h2 h1)

end Go.Proofs.YtegahpgnmeobhaaDoor
