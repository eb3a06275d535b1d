/-
  write's check-closure.
-/
import Derived.Test.YtegahpgnmeobhaaDoorDkStep
import Derived.Shelf.Abstract
namespace Go.Proofs.YtegahpgnmeobhaaDoor
open Go.RowKit

/-- one cell of a block of one cell is written: the block, the others -/
theorem dk_one {W W1 : World} {ab : Nat} {v : Value} {t : TypeId} (u : Value) (hb : Below W.heap.size W W1) (ha : W.heap[ab]? = some (.cells #[v] t (0, 0))) :
    W.grownBy (W1.setCell ⟨ab, 0, none⟩ u) (some ab) ∧ (W1.setCell ⟨ab, 0, none⟩ u).heap[ab]? = some (.cells #[u] t (0, 0)) := by
  have hlt := (Array.getElem?_eq_some_iff.1 ha).1
  exact ⟨dk_grown_setCell W W1 ab 0 u (dk_grown_of_below _ hb), dk_setCell W1 ab 0 _ _ u ((hb.block ab hlt).trans ha)⟩

set_option maxRecDepth 100000 in
set_option maxHeartbeats 2000000 in
theorem dk_write1 {i : Nat} {c : Nat → Nat} {W : World} {g : Nat} {D : Dk.D} {m : Nat} {xs : List Fe} (h : DiskIs i c W g D m xs) (s : ByteArray) (hs : s.size ≤ 9223372036854775807) (nb db ob ab bb : Nat) (pos : Nat → Int) (k : FuncId) (cap : Array Value)
    (b : Dk.Bs) (ba : Option Addr) (bc : Nat) (hblen : b.length ≤ 1073741824)
    (hent : ∀ args w, (callFunc k args).run Tryd.prog w = .ok (.enter k args) w)
    (hfn : ∀ (n : Nat) (W' : World), Below W.heap.size W W' → Calls Tryd.prog k (#[.int .i64 n] ++ cap) W' fun e w' => e = .returned (.int .i64 (pos n)) ∧ W' = w')
    (hn : W.cell? ⟨nb, 0, none⟩ = some (.string s)) (hd : W.cell? ⟨db, 0, none⟩ = some (.pointer (some ⟨g, 0, none⟩))) (ho : W.cell? ⟨ob, 0, none⟩ = some (.func (.func k) #[] cap))
    (ha : W.heap[ab]? = some (.cells #[.int .i64 0] 3 (0, 0))) (hb : W.cell? ⟨bb, 0, none⟩ = some (.slice ba b.length bc)) (hne : ab ≠ bb ∧ ab ≠ ob) :
    Calls Tryd.prog 31 #[.pointer (some ⟨db, 0, none⟩), .pointer (some ⟨nb, 0, none⟩), .pointer (some ⟨ob, 0, none⟩), .pointer (some ⟨ab, 0, none⟩), .pointer (some ⟨bb, 0, none⟩)] W fun e W' =>
      e = .returned (.int .i64 (Dk.writeCheck D s.data.toList pos b)) ∧ W.grownBy W' (some ab) ∧ ∀ f, Dk.find s.data.toList D.fs = some f → W'.heap[ab]? = some (.cells #[.int .i64 (pos f.contents.length)] 3 (0, 0)) := by
  have c0 := h.cells.1
  have hal := (Array.getElem?_eq_some_iff.1 ha).1
  have HB := Lib.hid hb
  cases hf : Dk.find s.data.toList D.fs with
  | none =>
    have HW : Hid (Dk.writeCheck D s.data.toList pos b = 9) := by show _ = _; unfold Dk.writeCheck; rw [hf]
    have hl := fun n => DiskIs.look_none h s (by unfold maxLen; omega) hf (W.drewN n) rfl
    clear h hf hfn hb
    go_enter Tryd.func31, Tryd.ntmps31
    go_wp2_with fail
    go_quiet (fail)
    go_wp2_with fail
    go_ret
    rw [HW.out]
    exact ⟨rfl, ⟨rfl, rfl, rfl, Nat.le_refl _, fun _ _ _ => rfl⟩, fun f h => by cases h⟩
  | some f =>
    obtain ⟨l1, x, l2, rfl, hnm, rfl⟩ := h.find_some hf
    have hl := fun n => DiskIs.look_some h s (by unfold maxLen; omega) hnm (W.drewN n) rfl
    have hF := h.file x (by simp)
    have hsz := fun n => dk_size x.g x.dv x.pv x.f.dur x.f.pend (W.drewN n) hF.row (hF.same (W' := W.drewN n) rfl).dur.1 (hF.same (W' := W.drewN n) rfl).rd (by have := hF.size; unfold Dk.Fl.contents at this; omega)
    have hctn := hF.size
    have HFN := Lib.hid hfn
    have HW : Hid (Dk.writeCheck D s.data.toList pos b = if pos x.f.contents.length < 0 ∨ 16777216 - (b.length : Int) < pos x.f.contents.length then 2 else 0) := by show _ = _; unfold Dk.writeCheck; rw [hf]
    have HA := Lib.hid ha
    simp only [show Dk.contents x.f.dur x.f.pend = x.f.contents from rfl] at hsz
    have hol := World.block_lt_of_cell? W _ ho
    have hbl := World.block_lt_of_cell? W _ hb
    generalize hcl : x.f.contents.length = N at *
    have HSZ := Lib.hid hsz
    have HN := Lib.hid hcl
    clear h hf hfn hnm hF hsz ha hb hcl
    -- the rest, at whatever offset comes out
    go_enter Tryd.func31, Tryd.ntmps31
    go_wp2_with fail
    go_quiet (fail)
    go_wp2_with fail
    clear hl hn hd c0
    have hsz1 := HSZ.out (nq + 1)
    have hfacts : ∀ w1, Below W.heap.size W w1 → w1.cell? ⟨ob, 0, none⟩ = some (.func (.func k) #[] cap) ∧ w1.cell? ⟨ab, 0, none⟩ = some (.int .i64 0) ∧ w1.frozen? ⟨ab, 0, none⟩ = false ∧ w1.cell? ⟨bb, 0, none⟩ = some (.slice ba b.length bc) ∧ ∀ u, (w1.setCell ⟨ab, 0, none⟩ u).cell? ⟨bb, 0, none⟩ = some (.slice ba b.length bc) := by
      intro w1 hb1
      have h1 := (hb1.block ab hal).trans HA.out
      exact ⟨(hb1.cell (p := ⟨ob, 0, none⟩) hol).trans ho, by rw [cell_of_row w1 _ _ _ _ _ h1]; rfl, dk_frozen w1 ab 0 _ _ h1, (hb1.cell (p := ⟨bb, 0, none⟩) hbl).trans HB.out, fun u => (World.cell?_of_block (w := w1) (w' := w1.setCell ⟨ab, 0, none⟩ u) (a := ⟨bb, 0, none⟩) (Below.heap_setCell w1 _ u bb (fun e => hne.1 e.symm))).trans ((hb1.cell (p := ⟨bb, 0, none⟩) hbl).trans HB.out)⟩
    have HF := Lib.hid hfacts
    clear hfacts
    go_region_with (first
      | (go_at_call 32; refine hsz1.mono ?_; rintro e w1 ⟨rfl, hb1'⟩; have hb1 : Below W.heap.size W w1 := ⟨hb1'.os, hb1'.tape, hb1'.output, hb1'.size, hb1'.block⟩; clear hb1'; obtain ⟨q1, q2, q3, q4, q5⟩ := HF.out w1 hb1; have HB1 := Lib.hid hb1; have hf1 := HFN.out N w1 hb1; clear hb1)
      | (go_at_fn k; refine hf1.mono ?_; rintro e w' ⟨rfl, rfl⟩))
    all_goals
      obtain ⟨r1, r2⟩ := dk_one (.int .i64 (pos N)) HB1.out HA.out
      have R1 := Lib.hid r1
      have R2 := Lib.hid r2
      clear r1 r2 hsz1 hf1 q1 q4
      by_cases hp1 : pos N < 0
      · have hd1 : decide (pos N < 0) = true := by simpa using hp1
        have HC : Hid (Dk.writeCheck D s.data.toList pos b = 2) := by show _ = _; rw [HW.out, if_pos (Or.inl hp1)]
        clear hp1
        go_wp2_with fail
        go_ret
        rw [HC.out]
        exact ⟨rfl, R1.out, fun f hf => by cases hf; rw [HN.out]; exact R2.out⟩
      · have hd1 : decide (pos N < 0) = false := by simpa using hp1
        by_cases hp2 : 16777216 - (b.length : Int) < pos N
        · have HC : Hid (Dk.writeCheck D s.data.toList pos b = 2) := by show _ = _; rw [HW.out, if_pos (Or.inr hp2)]
          have hd2 : decide (16777216 - (b.length : Int) < pos N) = true := by simpa using hp2
          clear hp1 hp2
          go_wp2_with fail
          go_ret
          rw [HC.out]
          exact ⟨rfl, R1.out, fun f hf => by cases hf; rw [HN.out]; exact R2.out⟩
        · have HC : Hid (Dk.writeCheck D s.data.toList pos b = 0) := by show _ = _; rw [HW.out, if_neg (by omega)]
          have hd2 : decide (16777216 - (b.length : Int) < pos N) = false := by simpa using hp2
          clear hp1 hp2
          go_wp2_with fail
          go_ret
          rw [HC.out]
          exact ⟨rfl, R1.out, fun f hf => by cases hf; rw [HN.out]; exact R2.out⟩

end Go.Proofs.YtegahpgnmeobhaaDoor
