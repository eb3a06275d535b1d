/-
  A DISK IN MEMORY: who owns which block (colours), what a disk is, what keeps it, what becomes of it when one file turns.
-/
import Derived.Test.YtegahpgnmeobhaaDoorDkFile2
import Derived.Test.YtegahpgnmeobhaaDoorDkPlain2
namespace Go.Proofs.YtegahpgnmeobhaaDoor
open Go.RowKit

/-- what an element of the map reads as: an address -/
def ptrElem : Value → Option (DataW (Option Addr) × List MemPlace)
  | .pointer a => some (.held a, [])
  | _ => none

theorem dk_law : Maps.Keyed Tryd.prog 9 := Maps.string_keyed Tryd.underlying9
theorem dk_zero (w : World) : (zeroValue 40).run Tryd.prog w = .ok (.pointer none) w := by kernel_rfl

/-! ### colours -/
/-- blocks of colour i may have turned, new blocks may have been made; the colours of old blocks stay -/
structure Chg (i : Nat) (c c' : Nat → Nat) (W W' : World) : Prop where
  os : W'.os = W.os
  tape : W'.tape = W.tape
  output : W'.output = W.output
  size : W.heap.size ≤ W'.heap.size
  block : ∀ k, k < W.heap.size → c k ≠ i → W'.heap[k]? = W.heap[k]?
  col : ∀ k, k < W.heap.size → c' k = c k

theorem Chg.refl (i : Nat) (c : Nat → Nat) (W : World) : Chg i c c W W := ⟨rfl, rfl, rfl, Nat.le_refl _, fun _ _ _ => rfl, fun _ _ => rfl⟩
theorem Chg.trans {i : Nat} {c c' c'' : Nat → Nat} {W W' W'' : World} (h : Chg i c c' W W') (k : Chg i c' c'' W' W'') : Chg i c c'' W W'' :=
  ⟨k.os.trans h.os, k.tape.trans h.tape, k.output.trans h.output, Nat.le_trans h.size k.size,
    fun b hb hc => (k.block b (Nat.lt_of_lt_of_le hb h.size) (by rw [h.col b hb]; exact hc)).trans (h.block b hb hc),
    fun b hb => (k.col b (Nat.lt_of_lt_of_le hb h.size)).trans (h.col b hb)⟩
/-- paints all blocks from B on -/
def pnt (c : Nat → Nat) (B k : Nat) : Nat → Nat := fun b => if B ≤ b then k else c b
theorem pnt_old {c : Nat → Nat} {B k b : Nat} (h : b < B) : pnt c B k b = c b := by unfold pnt; rw [if_neg (by omega)]
theorem pnt_new {c : Nat → Nat} {B k b : Nat} (h : B ≤ b) : pnt c B k b = k := by unfold pnt; rw [if_pos h]
/-- new blocks alone, of a colour -/
theorem Chg.of_below {i : Nat} {c : Nat → Nat} {W W' : World} (hb : Below W.heap.size W W') (k : Nat) : Chg i c (pnt c W.heap.size k) W W' :=
  ⟨hb.os, hb.tape, hb.output, hb.size, fun b h _ => hb.block b h, fun _ h => pnt_old h⟩
theorem Chg.alloc {i : Nat} {c : Nat → Nat} {W : World} (o : Obj) (k : Nat) : Chg i c (pnt c W.heap.size k) W (W.alloc o) :=
  Chg.of_below ((Below.refl _ _).alloc (Nat.le_refl _) _) k
theorem Chg.below {i B : Nat} {c c' : Nat → Nat} {W W' : World} (h : Chg i c c' W W') (hB : B ≤ W.heap.size) (hc : ∀ b, b < B → c b ≠ i) : Below B W W' :=
  ⟨h.os, h.tape, h.output, h.size, fun b hb => h.block b (by omega) (hc b hb)⟩

/-! ### what is read: colour 0 -/
def RdC (c : Nat → Nat) (W : World) (v : Value) (l : Dk.Bs) : Prop := RdB W W.heap.size v l ∧ (l ≠ [] → ∀ g, v.ownBlock = some g → c g = 0)

theorem RdC.keep {c c' : Nat → Nat} {W W' : World} {v : Value} {l : Dk.Bs} (h : RdC c W v l) (hs : W.heap.size ≤ W'.heap.size)
    (hk : ∀ b, b < W.heap.size → c b = 0 → W'.heap[b]? = W.heap[b]? ∧ c' b = 0) : RdC c' W' v l := by
  obtain ⟨h1, h2⟩ := h
  rcases h1 with h1 | ⟨g, off, cap, rfl, hc, hg, hs', hx⟩
  · exact ⟨.inl h1, fun hne => absurd h1.1 hne⟩
  · by_cases hl : l = []
    · subst hl
      exact ⟨.inl ⟨rfl, _, _, rfl⟩, fun hne => absurd rfl hne⟩
    · have hc0 := h2 hl g rfl
      obtain ⟨e1, e2⟩ := hk g hg hc0
      refine ⟨.inr ⟨g, off, cap, rfl, hc, by omega, by omega, fun j u hj => ?_⟩, fun _ k hk' => ?_⟩
      · rw [World.cell?_of_block (w := W) (a := ⟨g, off + j, none⟩) e1]
        exact hx j u hj
      · simp only [Value.ownBlock, Option.some.injEq] at hk'
        rw [← hk']; exact e2
theorem RdC.chg {j : Nat} {c c' : Nat → Nat} {W W' : World} {v : Value} {l : Dk.Bs} (h : RdC c W v l) (hc : Chg j c c' W W') (hj : j ≠ 0) : RdC c' W' v l :=
  h.keep hc.size (fun b hb h0 => ⟨hc.block b hb (by omega), (hc.col b hb).trans h0⟩)
/-- an owned row in new memory, painted 0 -/
theorem RdC.of_own {c : Nat → Nat} {W : World} {B : Nat} {v : Value} {l : Dk.Bs} (h : W.ownsRow B 5 1 v l.length (dkCells l)) (hc : ∀ b, B ≤ b → b < W.heap.size → c b = 0) : RdC c W v l :=
  ⟨RdB.of_own h, fun _ g hg => hc g (h.lt g hg).1 (h.lt g hg).2⟩

def WrC (c : Nat → Nat) (W : World) (l : List Dk.Wr) (vs : List Value) : Prop :=
  vs.length = l.length ∧ ∀ (k : Nat) (w : Dk.Wr) (v : Value), l[k]? = some w → vs[k]? = some v → RdC c W v w.b ∧ 0 < w.b.length ∧ w.off + w.b.length ≤ 16777216
theorem WrC.keep {c c' : Nat → Nat} {W W' : World} {l : List Dk.Wr} {vs : List Value} (h : WrC c W l vs) (hs : W.heap.size ≤ W'.heap.size)
    (hk : ∀ b, b < W.heap.size → c b = 0 → W'.heap[b]? = W.heap[b]? ∧ c' b = 0) : WrC c' W' l vs :=
  ⟨h.1, fun k w v h1 h2 => ⟨(h.2 k w v h1 h2).1.keep hs hk, (h.2 k w v h1 h2).2⟩⟩
theorem WrC.ok {c : Nat → Nat} {W : World} {l : List Dk.Wr} {vs : List Value} (h : WrC c W l vs) : WrOk W W.heap.size l vs :=
  ⟨h.1, fun k w v h1 h2 => ⟨(h.2 k w v h1 h2).1.1, (h.2 k w v h1 h2).2.1, by have := (h.2 k w v h1 h2).2.2; omega⟩⟩
theorem WrC.nil {c : Nat → Nat} {W : World} : WrC c W [] [] := ⟨rfl, fun k w v h1 _ => by simp at h1⟩
theorem WrC.snoc {c : Nat → Nat} {W : World} {l : List Dk.Wr} {vs : List Value} (h : WrC c W l vs) {w : Dk.Wr} {v : Value} (h1 : RdC c W v w.b) (h2 : 0 < w.b.length) (h3 : w.off + w.b.length ≤ 16777216) : WrC c W (l ++ [w]) (vs ++ [v]) := by
  refine ⟨by simp [h.1], fun k w' v' e1 e2 => ?_⟩
  rcases Nat.lt_or_ge k l.length with hk | hk
  · rw [List.getElem?_append_left hk] at e1
    rw [List.getElem?_append_left (by rw [h.1]; exact hk)] at e2
    exact h.2 k w' v' e1 e2
  · rw [List.getElem?_append_right hk] at e1
    rw [List.getElem?_append_right (by rw [h.1]; exact hk)] at e2
    obtain ⟨j, hj⟩ : ∃ j, k = l.length + j := ⟨k - l.length, by omega⟩
    subst hj
    rw [h.1] at e2
    simp only [Nat.add_sub_cancel_left] at e1 e2
    match j, e1, e2 with
    | 0, e1, e2 =>
      simp at e1 e2
      subst e1 e2
      exact ⟨h1, h2, h3⟩
    | j + 1, e1, _ => simp at e1

/-! ### a file, a disk -/
structure Fe where
  nm : Dk.Bs
  g : Nat
  dv : Value
  pv : Value
  vs : List Value
  f : Dk.Fl
def Fe.blks (x : Fe) : List Nat := x.g :: x.pv.ownBlock.toList
def Fe.ent (x : Fe) : Dk.Bs × Dk.Fl := (x.nm, x.f)
def Fe.key (x : Fe) : Lit × DataW (Option Addr) := (.string x.nm, .held (some ⟨x.g, 0, none⟩))

structure FeAt (c : Nat → Nat) (W : World) (x : Fe) : Prop where
  row : W.heap[x.g]? = some (.cells #[x.dv, x.pv] 43 (0, 0))
  dur : RdC c W x.dv x.f.dur
  own : W.ownsRow 0 61 2 x.pv x.f.pend.length (wrCells x.f.pend x.vs)
  wr : WrC c W x.f.pend x.vs
  size : x.f.contents.length ≤ 16777216
  many : x.f.pend.length ≤ 65536

theorem FeAt.keep {c c' : Nat → Nat} {W W' : World} {x : Fe} (h : FeAt c W x) (hs : W.heap.size ≤ W'.heap.size)
    (hk : ∀ b, b < W.heap.size → c b = 0 → W'.heap[b]? = W.heap[b]? ∧ c' b = 0) (hx : ∀ b ∈ x.blks, W'.heap[b]? = W.heap[b]?) : FeAt c' W' x := by
  refine ⟨(hx x.g (by simp [Fe.blks])).trans h.row, h.dur.keep hs hk, ⟨h.own.1, ?_⟩, h.wr.keep hs hk, h.size, h.many⟩
  rcases h.own.2 with hn | ⟨g, cap, cur, hv, hB, hh, rest⟩
  · exact .inl hn
  · exact .inr ⟨g, cap, cur, hv, hB, (hx g (by simp [Fe.blks, hv, Value.ownBlock])).trans hh, rest⟩
theorem FeAt.rd {c : Nat → Nat} {W : World} {x : Fe} (h : FeAt c W x) : PendRd W W.heap.size x.pv x.f.pend :=
  PendIs.rd (PendIs.of_own h.own) h.wr.ok (by have := h.many; omega)
theorem FeAt.is {c : Nat → Nat} {W : World} {x : Fe} (h : FeAt c W x) : PendIs W W.heap.size x.pv x.f.pend x.vs := PendIs.of_own h.own

structure DiskIs (i : Nat) (c : Nat → Nat) (W : World) (g : Nat) (D : Dk.D) (m : Nat) (xs : List Fe) : Prop where
  row : W.heap[g]? = some (.cells #[.map (some m), .int .i64 D.bud, .bool D.down] 37 (0, 0))
  map : W.ownsMap Tryd.prog 9 ptrElem m xs.length (.map (xs.map Fe.key))
  fs : D.fs = xs.map Fe.ent
  file : ∀ x ∈ xs, FeAt c W x
  nd : (g :: m :: xs.flatMap Fe.blks).Nodup
  col : ∀ b ∈ g :: m :: xs.flatMap Fe.blks, c b = i ∧ b < W.heap.size
  ne : i ≠ 0
def DiskAt (i : Nat) (c : Nat → Nat) (W : World) (g : Nat) (D : Dk.D) : Prop := ∃ m xs, DiskIs i c W g D m xs

theorem mem_blks {xs : List Fe} {x : Fe} (hx : x ∈ xs) {b : Nat} (hb : b ∈ x.blks) (g m : Nat) : b ∈ g :: m :: xs.flatMap Fe.blks :=
  List.mem_cons_of_mem _ (List.mem_cons_of_mem _ (List.mem_flatMap.2 ⟨x, hx, hb⟩))

theorem ownsMap_block {W W' : World} {m n : Nat} {D : DataW (Option Addr)} (h : W.ownsMap Tryd.prog 9 ptrElem m n D) (hb : W'.heap[m]? = W.heap[m]?) : W'.ownsMap Tryd.prog 9 ptrElem m n D := by
  obtain ⟨es, clock, hm, F, hs, hD⟩ := h
  exact ⟨es, clock, hb.trans hm, F, hs, hD⟩

/-- another colour's steps leave the disk as it is -/
theorem DiskIs.chg {i j : Nat} {c c' : Nat → Nat} {W W' : World} {g : Nat} {D : Dk.D} {m : Nat} {xs : List Fe} (h : DiskIs i c W g D m xs) (hc : Chg j c c' W W') (hij : j ≠ i) (hj : j ≠ 0) : DiskIs i c' W' g D m xs := by
  have hb : ∀ b ∈ g :: m :: xs.flatMap Fe.blks, W'.heap[b]? = W.heap[b]? := fun b hb => hc.block b (h.col b hb).2 (by rw [(h.col b hb).1]; exact hij.symm)
  refine ⟨(hb g (by simp)).trans h.row, ownsMap_block h.map (hb m (by simp)), h.fs, fun x hx => (h.file x hx).keep hc.size (fun b hb h0 => ⟨hc.block b hb (by omega), (hc.col b hb).trans h0⟩) (fun b hb' => hb b (mem_blks hx hb' g m)), h.nd, fun b hb' => ⟨(hc.col b (h.col b hb').2).trans (h.col b hb').1, Nat.lt_of_lt_of_le (h.col b hb').2 hc.size⟩, h.ne⟩
theorem DiskAt.chg {i j : Nat} {c c' : Nat → Nat} {W W' : World} {g : Nat} {D : Dk.D} (h : DiskAt i c W g D) (hc : Chg j c c' W W') (hij : j ≠ i) (hj : j ≠ 0) : DiskAt i c' W' g D := by
  obtain ⟨m, xs, h⟩ := h
  exact ⟨m, xs, h.chg hc hij hj⟩
/-- new blocks alone leave the disk as it is -/
theorem DiskAt.below {i : Nat} {c : Nat → Nat} {W W' : World} {g : Nat} {D : Dk.D} (h : DiskAt i c W g D) (hb : Below W.heap.size W W') (k : Nat) : DiskAt i (pnt c W.heap.size k) W' g D :=
  h.chg (Chg.of_below (i := i + 1) hb k) (by omega) (by omega)

end Go.Proofs.YtegahpgnmeobhaaDoor
