/-
  chooser.next.
-/
import Derived.Test.YtegahpgnmeobhaaDoorDkClone3
import Derived.Test.YtegahpgnmeobhaaDoorDkPlain4
namespace Go.Proofs.YtegahpgnmeobhaaDoor
open Go.RowKit

/-- a chooser in block h: the choices that are left -/
def ChAt (B : Nat) (W : World) (h : Nat) (l : Dk.Bs) : Prop := B ≤ h ∧ ∃ v, W.heap[h]? = some (.cells #[v] 49 (0, 0)) ∧ RdB W B v l

theorem ChAt.below {B : Nat} {W W' : World} {h : Nat} {l : Dk.Bs} (hc : ChAt B W h l) (hb : Below W.heap.size W W') : ChAt B W' h l := by
  obtain ⟨h1, v, h2, h3⟩ := hc
  have hlt := (Array.getElem?_eq_some_iff.1 h2).1
  exact ⟨h1, v, (hb.block h hlt).trans h2, h3.below (hb.mono (by omega))⟩

set_option maxRecDepth 100000 in
set_option maxHeartbeats 1000000 in
theorem dk_next (B : Nat) (W : World) (h : Nat) (l : Dk.Bs) (hc : ChAt B W h l) (hl : l.length ≤ 1125899906842624) :
    Calls Tryd.prog 28 #[.pointer (some ⟨h, 0, none⟩)] W fun e W' => e = .returned (.int .i64 (Dk.hd l)) ∧ ChAt B W' h l.tail ∧ W.grownBy W' (some h) ∧ W'.heap.size = W.heap.size := by
  obtain ⟨hB, v, hrow, hrd⟩ := hc
  have c0 : W.cell? ⟨h, 0, none⟩ = some v := by rw [cell_of_row W _ _ _ _ _ hrow]; rfl
  have f0 := dk_frozen W h 0 _ _ hrow
  cases l with
  | nil =>
    obtain ⟨a, n, rfl⟩ := hrd.form
    have HR := Lib.hid hrow
    have HD := Lib.hid hrd
    clear hrow hrd
    simp only [List.length_nil] at c0 HR HD
    go_enter Tryd.func28, Tryd.ntmps28
    go_wp2
    go_ret
    exact ⟨rfl, ⟨hB, _, HR.out, HD.out⟩, ⟨rfl, rfl, rfl, Nat.le_refl _, fun _ _ _ => rfl⟩, rfl⟩
  | cons x r =>
    obtain ⟨g, off, cap, rfl, hcap, hg, hgs, hx⟩ : ∃ g off cap, v = .slice (some ⟨g, off, none⟩) (x :: r).length cap ∧ (x :: r).length ≤ cap ∧ g < B ∧ g < W.heap.size ∧ ∀ j c, (x :: r)[j]? = some c → W.cell? ⟨g, off + j, none⟩ = some (.int .u8 c.toNat) := by
      rcases hrd with ⟨h0, _⟩ | h1
      · cases h0
      · exact h1
    have d0 : W.cell? ⟨g, off, none⟩ = some (.int .u8 x.toNat) := by have := hx 0 x rfl; simpa using this
    have hxl : (x.toNat : Int) < 256 := by have := x.toNat_lt; omega
    have HX := Lib.hid hx
    have HR := Lib.hid hrow
    clear hx hrow hrd
    simp only [List.length_cons] at c0 HR hcap hl
    have hone : ∀ (v' : Value), RdB (W.setCell ⟨h, 0, none⟩ v') B v' r → ChAt B (W.setCell ⟨h, 0, none⟩ v') h r ∧ W.grownBy (W.setCell ⟨h, 0, none⟩ v') (some h) ∧ (W.setCell ⟨h, 0, none⟩ v').heap.size = W.heap.size := fun v' hv =>
      ⟨⟨hB, v', dk_setCell W h 0 _ _ v' HR.out, hv⟩, dk_grown_setCell W W h 0 v' ⟨rfl, rfl, rfl, Nat.le_refl _, fun _ _ _ => rfl⟩, by simp [World.setCell]⟩
    have hrd' : ∀ v', r ≠ [] → RdB (W.setCell ⟨h, 0, none⟩ v') B (.slice (some ⟨g, off + 1, none⟩) r.length (cap - 1)) r := fun v' _ =>
      .inr ⟨g, off + 1, cap - 1, rfl, by omega, hg, by simp [World.setCell]; omega, fun j c hj => by
        rw [World.cell?_of_block (w := W) (a := ⟨g, off + 1 + j, none⟩) (Below.heap_setCell W _ _ g (by show g ≠ h; omega))]
        have := HX.out (j + 1) c (by simpa using hj)
        rw [show off + 1 + j = off + (j + 1) by omega]
        exact this⟩
    have HO := Lib.hid hone
    have HD := Lib.hid hrd'
    clear hone hrd'
    by_cases hr : r = []
    · subst hr
      simp only [List.length_nil] at c0 HR hcap hl
      by_cases hc1 : cap = 1
      · subst hc1
        go_enter Tryd.func28, Tryd.ntmps28
        go_wp2
        go_ret
        exact ⟨rfl, HO.out _ (.inl ⟨rfl, _, _, rfl⟩)⟩
      · go_enter Tryd.func28, Tryd.ntmps28
        go_wp2
        go_ret
        exact ⟨rfl, HO.out _ (.inl ⟨rfl, _, _, rfl⟩)⟩
    · have hrl : 0 < r.length := List.length_pos_iff.2 hr
      have hc1 : ¬ cap = 1 := by omega
      have HRR := Lib.hid hr
      clear hr
      go_enter Tryd.func28, Tryd.ntmps28
      go_wp2
      go_ret
      exact ⟨rfl, HO.out _ (HD.out _ HRR.out)⟩

end Go.Proofs.YtegahpgnmeobhaaDoor
