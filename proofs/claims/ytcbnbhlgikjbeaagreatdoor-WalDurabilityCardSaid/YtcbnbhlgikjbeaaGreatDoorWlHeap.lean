/-
  A LOG IN MEMORY: its record and its row of segments, in a colour of its own beside the disk's.
-/
import Derived.Test.YtcbnbhlgikjbeaaGreatDoorWlRuns
import Derived.Test.YtcbnbhlgikjbeaaGreatDoorRfGood
namespace Go.Proofs.YtcbnbhlgikjbeaaGreatDoor
open Go.RowKit

/-- blocks of two colours may have turned -/
structure Chg2 (i j : Nat) (c c' : Nat → Nat) (W W' : World) : Prop where
  os : W'.os = W.os
  tape : W'.tape = W.tape
  output : W'.output = W.output
  size : W.heap.size ≤ W'.heap.size
  block : ∀ k, k < W.heap.size → c k ≠ i → c k ≠ j → W'.heap[k]? = W.heap[k]?
  col : ∀ k, k < W.heap.size → c' k = c k
theorem Chg2.refl (i j : Nat) (c : Nat → Nat) (W : World) : Chg2 i j c c W W := ⟨rfl, rfl, rfl, Nat.le_refl _, fun _ _ _ _ => rfl, fun _ _ => rfl⟩
theorem Chg2.trans {i j : Nat} {c c' c'' : Nat → Nat} {W W' W'' : World} (h : Chg2 i j c c' W W') (k : Chg2 i j c' c'' W' W'') : Chg2 i j c c'' W W'' :=
  ⟨k.os.trans h.os, k.tape.trans h.tape, k.output.trans h.output, Nat.le_trans h.size k.size,
    fun b hb hc hd => (k.block b (Nat.lt_of_lt_of_le hb h.size) (by rw [h.col b hb]; exact hc) (by rw [h.col b hb]; exact hd)).trans (h.block b hb hc hd),
    fun b hb => (k.col b (Nat.lt_of_lt_of_le hb h.size)).trans (h.col b hb)⟩
theorem Chg.left2 {i j : Nat} {c c' : Nat → Nat} {W W' : World} (h : Chg i c c' W W') : Chg2 i j c c' W W' := ⟨h.os, h.tape, h.output, h.size, fun b hb h1 _ => h.block b hb h1, h.col⟩
theorem Chg.right2 {i j : Nat} {c c' : Nat → Nat} {W W' : World} (h : Chg j c c' W W') : Chg2 i j c c' W W' := ⟨h.os, h.tape, h.output, h.size, fun b hb _ h2 => h.block b hb h2, h.col⟩
theorem Kn.chg2 {W Wk W' : World} {c c' : Nat → Nat} {i j : Nat} (h : Kn W Wk c) (hc : Chg2 i j c c' Wk W') (hi : i ≠ 0) (hj : j ≠ 0) : Kn W W' c' := by
  refine ⟨h.1.trans ⟨hc.os, hc.tape, hc.output, hc.size, fun b hb => ?_⟩, fun b hb => (hc.col b (Nat.lt_of_lt_of_le hb h.1.size)).trans (h.2 b hb)⟩
  exact hc.block b (Nat.lt_of_lt_of_le hb h.1.size) (by rw [h.2 b hb]; omega) (by rw [h.2 b hb]; omega)
theorem RdC.chg2 {c c' : Nat → Nat} {W W' : World} {v : Value} {l : Dk.Bs} {i j : Nat} (h : RdC c W v l) (hc : Chg2 i j c c' W W') (hi : i ≠ 0) (hj : j ≠ 0) : RdC c' W' v l :=
  h.keep hc.size (fun b hb h0 => ⟨hc.block b hb (by rw [h0]; omega) (by rw [h0]; omega), (hc.col b hb).trans h0⟩)

/-- segments as cells -/
def segCells : List (Nat × Nat) → List Value
  | [] => []
  | s :: r => .int .i64 s.1 :: .int .i64 s.2 :: segCells r
theorem segCells_length : ∀ l : List (Nat × Nat), (segCells l).length = l.length * 2
  | [] => rfl
  | s :: r => by simp [segCells, segCells_length r]; omega
theorem segCells_append : ∀ l m : List (Nat × Nat), segCells (l ++ m) = segCells l ++ segCells m
  | [], m => rfl
  | s :: r, m => by simp [segCells, segCells_append r m]
theorem segCells_get : ∀ (l : List (Nat × Nat)) (k : Nat) (s : Nat × Nat), l[k]? = some s → (segCells l)[2 * k]? = some (.int .i64 s.1) ∧ (segCells l)[2 * k + 1]? = some (.int .i64 s.2)
  | [], k, s, h => by simp at h
  | t :: r, 0, s, h => by
    simp at h
    subst h
    exact ⟨rfl, rfl⟩
  | t :: r, k + 1, s, h => by
    have := segCells_get r k s (by simpa using h)
    rw [show 2 * (k + 1) = 2 * k + 2 from by omega]
    exact this

/-- a log in memory: its record in block h, its segments in the row sv, both of colour j; the disk in block g -/
structure LogIs (j : Nat) (c : Nat → Nat) (W : World) (h g : Nat) (l : Wl.L) (sv : Value) : Prop where
  row : W.heap[h]? = some (.cells #[.pointer (some ⟨g, 0, none⟩), .string ⟨l.pre.toArray⟩, .int .i64 l.size, sv, .int .i64 l.next, .int .i64 l.synced] 93 (0, 0))
  seg : W.ownsRow 0 101 2 sv l.segs.length (segCells l.segs)
  colh : c h = j
  cols : ∀ b, sv.ownBlock = some b → c b = j ∧ b ≠ h
def LogAt (j : Nat) (c : Nat → Nat) (W : World) (h g : Nat) (l : Wl.L) : Prop := ∃ sv, LogIs j c W h g l sv

theorem LogIs.keep {j : Nat} {c c' : Nat → Nat} {W W' : World} {h g : Nat} {l : Wl.L} {sv : Value} (H : LogIs j c W h g l sv) (hs : W.heap.size ≤ W'.heap.size) (hk : ∀ b, b < W.heap.size → c b = j → W'.heap[b]? = W.heap[b]? ∧ c' b = j) : LogIs j c' W' h g l sv := by
  obtain ⟨e1, e2⟩ := hk h (Array.getElem?_eq_some_iff.1 H.row).1 H.colh
  refine ⟨e1.trans H.row, ?_, e2, fun b hb => ?_⟩
  · obtain ⟨h1, h2 | ⟨g', cap, cur, hv, hB, hh, hn, hcap, hcur, htake⟩⟩ := H.seg
    · exact ⟨h1, .inl h2⟩
    · refine ⟨h1, .inr ⟨g', cap, cur, hv, hB, (hk g' (Array.getElem?_eq_some_iff.1 hh).1 (H.cols g' (by rw [hv]; rfl)).1).1.trans hh, hn, hcap, hcur, htake⟩⟩
  · have h3 := H.seg.lt b hb
    obtain ⟨h1, h2⟩ := H.cols b hb
    exact ⟨(hk b h3.2 h1).2, h2⟩
theorem LogAt.chg {i j : Nat} {c c' : Nat → Nat} {W W' : World} {h g : Nat} {l : Wl.L} (H : LogAt j c W h g l) (hc : Chg i c c' W W') (hij : i ≠ j) : LogAt j c' W' h g l := by
  obtain ⟨sv, H⟩ := H
  exact ⟨sv, H.keep hc.size (fun b hb hcb => ⟨hc.block b hb (by rw [hcb]; exact Ne.symm hij), (hc.col b hb).trans hcb⟩)⟩
theorem LogAt.below {j : Nat} {c : Nat → Nat} {W W' : World} {h g : Nat} {l : Wl.L} (H : LogAt j c W h g l) (hb : Below W.heap.size W W') : LogAt j c W' h g l :=
  H.chg (i := j + 1) (Chg.of_below' hb (fun _ _ => rfl)) (by omega)

end Go.Proofs.YtcbnbhlgikjbeaaGreatDoor
