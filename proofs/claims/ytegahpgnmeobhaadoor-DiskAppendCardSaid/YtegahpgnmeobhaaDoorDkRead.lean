/-
  Read, Crash.
-/
import Derived.Test.YtegahpgnmeobhaaDoorDkWriteB
namespace Go.Proofs.YtegahpgnmeobhaaDoor
open Go.RowKit

set_option maxRecDepth 100000 in
set_option maxHeartbeats 1000000 in
theorem dk_Read {i : Nat} {c : Nat → Nat} {W : World} {g : Nat} {D : Dk.D} (h : DiskAt i c W g D) (s : ByteArray) (hs : s.size ≤ 9223372036854775807) :
    Calls Tryd.prog 9 #[.pointer (some ⟨g, 0, none⟩), .string s] W fun e W' => ∃ v, e = .returned (.tuple #[v, .int .i64 (D.read s.data.toList).2]) ∧
      W'.ownsRow W.heap.size 5 1 v (D.read s.data.toList).1.length (dkCells (D.read s.data.toList).1) ∧ Below W.heap.size W W' := by
  obtain ⟨m, xs, h⟩ := h
  cases hdn : D.down with
  | true =>
    have HR : Hid (D.read s.data.toList = ([], 32)) := by show _ = _; unfold Dk.D.read; rw [if_pos hdn]
    have hr := dk_ready W g true (by rw [← hdn]; exact h.cells.2.2.1)
    clear h hdn
    go_enter Tryd.func9, Tryd.ntmps9
    go_wp2_with fail
    refine hr.mono ?_
    rintro e w1 ⟨rfl, rfl⟩
    go_wp2_with fail
    go_ret2
    rw [HR.out]
    exact ⟨_, rfl, World.ownsRow_nil _ _ _ _, Below.refl _ _⟩
  | false =>
    have hr := dk_ready W g false (by rw [← hdn]; exact h.cells.2.2.1)
    have he := dk_exists h s hs
    cases hf : Dk.find s.data.toList D.fs with
    | none =>
      have HR : Hid (D.read s.data.toList = ([], 9)) := by show _ = _; unfold Dk.D.read; rw [if_neg (by simp [hdn]), hf]
      rw [hf] at he
      clear h hdn hf
      go_enter Tryd.func9, Tryd.ntmps9
      go_wp2_with fail
      refine hr.mono ?_
      rintro e w1 ⟨rfl, rfl⟩
      go_wp2_with fail
      refine he.mono ?_
      rintro e w1 ⟨rfl, rfl⟩
      go_wp2_with fail
      go_ret2
      rw [HR.out]
      exact ⟨_, rfl, World.ownsRow_nil _ _ _ _, Below.refl _ _⟩
    | some f =>
      have HR : Hid (D.read s.data.toList = (f.contents, 0)) := by show _ = _; unfold Dk.D.read; rw [if_neg (by simp [hdn]), hf]
      rw [hf] at he
      obtain ⟨l1, x, l2, rfl, hnm, rfl⟩ := h.find_some hf
      have hl := DiskIs.look_some h s (by unfold maxLen; omega) hnm W rfl
      have c0 := h.cells.1
      have hF := h.file x (by simp)
      have hct := Lib.hid (dk_contents x.g x.dv x.pv x.f.dur x.f.pend W hF.row hF.dur.1 hF.rd (by have := hF.size; unfold Dk.Fl.contents at this; omega))
      clear h hdn hf hnm hF
      go_enter Tryd.func9, Tryd.ntmps9
      go_wp2_with fail
      refine hr.mono ?_
      rintro e w1 ⟨rfl, rfl⟩
      go_wp2_with fail
      refine he.mono ?_
      rintro e w1 ⟨rfl, rfl⟩
      go_wp2_with fail
      refine hct.out.mono ?_
      rintro e w1 ⟨v, rfl, hown, hb⟩
      have HO := Lib.hid hown
      clear hown
      go_wp2_with fail
      go_ret2
      rw [HR.out]
      exact ⟨_, rfl, HO.out, hb⟩

def Dk.D.crash (d : Dk.D) : Dk.D × Int := if d.down then (d, 32) else ({ d with down := true }, 0)

set_option maxHeartbeats 1000000 in
theorem dk_Crash {i : Nat} {c : Nat → Nat} {W : World} {g : Nat} {D : Dk.D} (h : DiskAt i c W g D) :
    Calls Tryd.prog 10 #[.pointer (some ⟨g, 0, none⟩)] W (DkPost i c W g D.crash) := by
  obtain ⟨m, xs, h⟩ := h
  have cells := h.cells
  have H := Lib.hid h
  cases hdn : D.down with
  | true =>
    have HR : Hid (D.crash = (D, 32)) := by show _ = _; unfold Dk.D.crash; rw [if_pos hdn]
    have hr := dk_ready W g true (by rw [← hdn]; exact cells.2.2.1)
    clear h hdn cells
    go_enter Tryd.func10, Tryd.ntmps10
    go_wp2_with fail
    refine hr.mono ?_
    rintro e w1 ⟨rfl, rfl⟩
    go_wp2_with fail
    go_ret
    rw [HR.out]
    exact ⟨c, rfl, ⟨m, xs, H.out⟩, Chg.refl _ _ _⟩
  | false =>
    have HR : Hid (D.crash = ({ D with down := true }, 0)) := by show _ = _; unfold Dk.D.crash; rw [if_neg (by simp [hdn])]
    have hc := cells.2.2.1
    have hfz := cells.2.2.2.2
    rw [hdn] at hc
    have hr := dk_ready W g false hc
    clear h hdn cells
    go_enter Tryd.func10, Tryd.ntmps10
    go_wp2_with fail
    refine hr.mono ?_
    rintro e w1 ⟨rfl, rfl⟩
    go_wp2_with fail
    go_ret
    rw [HR.out]
    exact ⟨c, rfl, ⟨m, xs, (H.out.fell true).1⟩, (H.out.fell true).2⟩

end Go.Proofs.YtegahpgnmeobhaaDoor
