/-
  A DISK IN MEMORY: who owns which block (colours), what a disk is, what keeps it, what becomes of it when one file turns.
  A DISK IN MEMORY, MORE: the look-up of a name; a file that turns; the row that turns; a file more.
-/
import Derived.Test.YtamencnachmhoaaGreatDoorDkFile2
import Derived.Test.YtamencnachmhoaaGreatDoorDkPlain4
namespace Go.Proofs.YtamencnachmhoaaGreatDoor
open Go.RowKit

/-- what an element of the map reads as: an address -/
def ptrElem : Value → Option (DataW (Option Addr) × List MemPlace)
  | .pointer a => some (.held a, [])
  | _ => none

theorem dk_law : Maps.Keyed Tryz.prog 9 := Maps.string_keyed Tryz.underlying9
theorem dk_zero (w : World) : (zeroValue 120).run Tryz.prog w = .ok (.pointer none) w := by kernel_rfl

/-! ### colours -/
/-- blocks of colour i may have turned, new blocks may have been made; the colours of old blocks stay -/
structure Chg (i : Nat) (c c' : Nat → Nat) (W W' : World) : Prop where
  os : W'.os = W.os
  tape : W'.tape = W.tape
  output : W'.output = W.output
  size : W.heap.size ≤ W'.heap.size
  block : ∀ k, k < W.heap.size → c k ≠ i → W'.heap[k]? = W.heap[k]?
  col : ∀ k, k < W.heap.size → c' k = c k

theorem Chg.refl (i : Nat) (c : Nat → Nat) (W : World) : Chg i c c W W := ⟨rfl, rfl, rfl, Nat.le_refl _, fun _ _ _ => rfl, fun _ _ => rfl⟩
theorem Chg.trans {i : Nat} {c c' c'' : Nat → Nat} {W W' W'' : World} (h : Chg i c c' W W') (k : Chg i c' c'' W' W'') : Chg i c c'' W W'' :=
  ⟨k.os.trans h.os, k.tape.trans h.tape, k.output.trans h.output, Nat.le_trans h.size k.size,
    fun b hb hc => (k.block b (Nat.lt_of_lt_of_le hb h.size) (by rw [h.col b hb]; exact hc)).trans (h.block b hb hc),
    fun b hb => (k.col b (Nat.lt_of_lt_of_le hb h.size)).trans (h.col b hb)⟩
/-- paints all blocks from B on -/
def pnt (c : Nat → Nat) (B k : Nat) : Nat → Nat := fun b => if B ≤ b then k else c b
theorem pnt_old {c : Nat → Nat} {B k b : Nat} (h : b < B) : pnt c B k b = c b := by unfold pnt; rw [if_neg (by omega)]
theorem pnt_new {c : Nat → Nat} {B k b : Nat} (h : B ≤ b) : pnt c B k b = k := by unfold pnt; rw [if_pos h]
/-- new blocks alone, of a colour -/
theorem Chg.of_below {i : Nat} {c : Nat → Nat} {W W' : World} (hb : Below W.heap.size W W') (k : Nat) : Chg i c (pnt c W.heap.size k) W W' :=
  ⟨hb.os, hb.tape, hb.output, hb.size, fun b h _ => hb.block b h, fun _ h => pnt_old h⟩
theorem Chg.alloc {i : Nat} {c : Nat → Nat} {W : World} (o : Obj) (k : Nat) : Chg i c (pnt c W.heap.size k) W (W.alloc o) :=
  Chg.of_below ((Below.refl _ _).alloc (Nat.le_refl _) _) k
theorem Chg.below {i B : Nat} {c c' : Nat → Nat} {W W' : World} (h : Chg i c c' W W') (hB : B ≤ W.heap.size) (hc : ∀ b, b < B → c b ≠ i) : Below B W W' :=
  ⟨h.os, h.tape, h.output, h.size, fun b hb => h.block b (by omega) (hc b hb)⟩

/-! ### what is read: colour 0 -/
def RdC (c : Nat → Nat) (W : World) (v : Value) (l : Dk.Bs) : Prop := RdB W W.heap.size v l ∧ (l ≠ [] → ∀ g, v.ownBlock = some g → c g = 0)

theorem RdC.keep {c c' : Nat → Nat} {W W' : World} {v : Value} {l : Dk.Bs} (h : RdC c W v l) (hs : W.heap.size ≤ W'.heap.size)
    (hk : ∀ b, b < W.heap.size → c b = 0 → W'.heap[b]? = W.heap[b]? ∧ c' b = 0) : RdC c' W' v l := by
  obtain ⟨h1, h2⟩ := h
  rcases h1 with h1 | ⟨g, off, cap, rfl, hc, hg, hs', hx⟩
  · exact ⟨.inl h1, fun hne => absurd h1.1 hne⟩
  · by_cases hl : l = []
    · subst hl
      exact ⟨.inl ⟨rfl, _, _, rfl⟩, fun hne => absurd rfl hne⟩
    · have hc0 := h2 hl g rfl
      obtain ⟨e1, e2⟩ := hk g hg hc0
      refine ⟨.inr ⟨g, off, cap, rfl, hc, by omega, by omega, fun j u hj => ?_⟩, fun _ k hk' => ?_⟩
      · rw [World.cell?_of_block (w := W) (a := ⟨g, off + j, none⟩) e1]
        exact hx j u hj
      · simp only [Value.ownBlock, Option.some.injEq] at hk'
        rw [← hk']; exact e2
theorem RdC.chg {j : Nat} {c c' : Nat → Nat} {W W' : World} {v : Value} {l : Dk.Bs} (h : RdC c W v l) (hc : Chg j c c' W W') (hj : j ≠ 0) : RdC c' W' v l :=
  h.keep hc.size (fun b hb h0 => ⟨hc.block b hb (by omega), (hc.col b hb).trans h0⟩)
/-- an owned row in new memory, painted 0 -/
theorem RdC.of_own {c : Nat → Nat} {W : World} {B : Nat} {v : Value} {l : Dk.Bs} (h : W.ownsRow B 5 1 v l.length (dkCells l)) (hc : ∀ b, B ≤ b → b < W.heap.size → c b = 0) : RdC c W v l :=
  ⟨RdB.of_own h, fun _ g hg => hc g (h.lt g hg).1 (h.lt g hg).2⟩

def WrC (c : Nat → Nat) (W : World) (l : List Dk.Wr) (vs : List Value) : Prop :=
  vs.length = l.length ∧ ∀ (k : Nat) (w : Dk.Wr) (v : Value), l[k]? = some w → vs[k]? = some v → RdC c W v w.b ∧ 0 < w.b.length ∧ w.off + w.b.length ≤ 16777216
theorem WrC.keep {c c' : Nat → Nat} {W W' : World} {l : List Dk.Wr} {vs : List Value} (h : WrC c W l vs) (hs : W.heap.size ≤ W'.heap.size)
    (hk : ∀ b, b < W.heap.size → c b = 0 → W'.heap[b]? = W.heap[b]? ∧ c' b = 0) : WrC c' W' l vs :=
  ⟨h.1, fun k w v h1 h2 => ⟨(h.2 k w v h1 h2).1.keep hs hk, (h.2 k w v h1 h2).2⟩⟩
theorem WrC.ok {c : Nat → Nat} {W : World} {l : List Dk.Wr} {vs : List Value} (h : WrC c W l vs) : WrOk W W.heap.size l vs :=
  ⟨h.1, fun k w v h1 h2 => ⟨(h.2 k w v h1 h2).1.1, (h.2 k w v h1 h2).2.1, by have := (h.2 k w v h1 h2).2.2; omega⟩⟩
theorem WrC.nil {c : Nat → Nat} {W : World} : WrC c W [] [] := ⟨rfl, fun k w v h1 _ => by simp at h1⟩
theorem WrC.snoc {c : Nat → Nat} {W : World} {l : List Dk.Wr} {vs : List Value} (h : WrC c W l vs) {w : Dk.Wr} {v : Value} (h1 : RdC c W v w.b) (h2 : 0 < w.b.length) (h3 : w.off + w.b.length ≤ 16777216) : WrC c W (l ++ [w]) (vs ++ [v]) := by
  refine ⟨by simp [h.1], fun k w' v' e1 e2 => ?_⟩
  rcases Nat.lt_or_ge k l.length with hk | hk
  · rw [List.getElem?_append_left hk] at e1
    rw [List.getElem?_append_left (by rw [h.1]; exact hk)] at e2
    exact h.2 k w' v' e1 e2
  · rw [List.getElem?_append_right hk] at e1
    rw [List.getElem?_append_right (by rw [h.1]; exact hk)] at e2
    obtain ⟨j, hj⟩ : ∃ j, k = l.length + j := ⟨k - l.length, by omega⟩
    subst hj
    rw [h.1] at e2
    simp only [Nat.add_sub_cancel_left] at e1 e2
    match j, e1, e2 with
    | 0, e1, e2 =>
      simp at e1 e2
      subst e1 e2
      exact ⟨h1, h2, h3⟩
    | j + 1, e1, _ => simp at e1

/-! ### a file, a disk -/
structure Fe where
  nm : Dk.Bs
  g : Nat
  dv : Value
  pv : Value
  vs : List Value
  f : Dk.Fl
def Fe.blks (x : Fe) : List Nat := x.g :: x.pv.ownBlock.toList
def Fe.ent (x : Fe) : Dk.Bs × Dk.Fl := (x.nm, x.f)
def Fe.key (x : Fe) : Lit × DataW (Option Addr) := (.string x.nm, .held (some ⟨x.g, 0, none⟩))

structure FeAt (c : Nat → Nat) (W : World) (x : Fe) : Prop where
  row : W.heap[x.g]? = some (.cells #[x.dv, x.pv] 131 (0, 0))
  dur : RdC c W x.dv x.f.dur
  own : W.ownsRow 0 183 2 x.pv x.f.pend.length (wrCells x.f.pend x.vs)
  wr : WrC c W x.f.pend x.vs
  size : x.f.contents.length ≤ 16777216
  many : x.f.pend.length ≤ 65536

theorem FeAt.keep {c c' : Nat → Nat} {W W' : World} {x : Fe} (h : FeAt c W x) (hs : W.heap.size ≤ W'.heap.size)
    (hk : ∀ b, b < W.heap.size → c b = 0 → W'.heap[b]? = W.heap[b]? ∧ c' b = 0) (hx : ∀ b ∈ x.blks, W'.heap[b]? = W.heap[b]?) : FeAt c' W' x := by
  refine ⟨(hx x.g (by simp [Fe.blks])).trans h.row, h.dur.keep hs hk, ⟨h.own.1, ?_⟩, h.wr.keep hs hk, h.size, h.many⟩
  rcases h.own.2 with hn | ⟨g, cap, cur, hv, hB, hh, rest⟩
  · exact .inl hn
  · exact .inr ⟨g, cap, cur, hv, hB, (hx g (by simp [Fe.blks, hv, Value.ownBlock])).trans hh, rest⟩
theorem FeAt.rd {c : Nat → Nat} {W : World} {x : Fe} (h : FeAt c W x) : PendRd W W.heap.size x.pv x.f.pend :=
  PendIs.rd (PendIs.of_own h.own) h.wr.ok (by have := h.many; omega)
theorem FeAt.is {c : Nat → Nat} {W : World} {x : Fe} (h : FeAt c W x) : PendIs W W.heap.size x.pv x.f.pend x.vs := PendIs.of_own h.own

structure DiskIs (i : Nat) (c : Nat → Nat) (W : World) (g : Nat) (D : Dk.D) (m : Nat) (xs : List Fe) : Prop where
  row : W.heap[g]? = some (.cells #[.map (some m), .int .i64 D.bud, .bool D.down] 100 (0, 0))
  map : W.ownsMap Tryz.prog 9 ptrElem m xs.length (.map (xs.map Fe.key))
  fs : D.fs = xs.map Fe.ent
  file : ∀ x ∈ xs, FeAt c W x
  nd : (g :: m :: xs.flatMap Fe.blks).Nodup
  col : ∀ b ∈ g :: m :: xs.flatMap Fe.blks, c b = i ∧ b < W.heap.size
  ne : i ≠ 0
def DiskAt (i : Nat) (c : Nat → Nat) (W : World) (g : Nat) (D : Dk.D) : Prop := ∃ m xs, DiskIs i c W g D m xs

theorem mem_blks {xs : List Fe} {x : Fe} (hx : x ∈ xs) {b : Nat} (hb : b ∈ x.blks) (g m : Nat) : b ∈ g :: m :: xs.flatMap Fe.blks :=
  List.mem_cons_of_mem _ (List.mem_cons_of_mem _ (List.mem_flatMap.2 ⟨x, hx, hb⟩))

theorem ownsMap_block {W W' : World} {m n : Nat} {D : DataW (Option Addr)} (h : W.ownsMap Tryz.prog 9 ptrElem m n D) (hb : W'.heap[m]? = W.heap[m]?) : W'.ownsMap Tryz.prog 9 ptrElem m n D := by
  obtain ⟨es, clock, hm, F, hs, hD⟩ := h
  exact ⟨es, clock, hb.trans hm, F, hs, hD⟩

/-- another colour's steps leave the disk as it is -/
theorem DiskIs.chg {i j : Nat} {c c' : Nat → Nat} {W W' : World} {g : Nat} {D : Dk.D} {m : Nat} {xs : List Fe} (h : DiskIs i c W g D m xs) (hc : Chg j c c' W W') (hij : j ≠ i) (hj : j ≠ 0) : DiskIs i c' W' g D m xs := by
  have hb : ∀ b ∈ g :: m :: xs.flatMap Fe.blks, W'.heap[b]? = W.heap[b]? := fun b hb => hc.block b (h.col b hb).2 (by rw [(h.col b hb).1]; exact hij.symm)
  refine ⟨(hb g (by simp)).trans h.row, ownsMap_block h.map (hb m (by simp)), h.fs, fun x hx => (h.file x hx).keep hc.size (fun b hb h0 => ⟨hc.block b hb (by omega), (hc.col b hb).trans h0⟩) (fun b hb' => hb b (mem_blks hx hb' g m)), h.nd, fun b hb' => ⟨(hc.col b (h.col b hb').2).trans (h.col b hb').1, Nat.lt_of_lt_of_le (h.col b hb').2 hc.size⟩, h.ne⟩
theorem DiskAt.chg {i j : Nat} {c c' : Nat → Nat} {W W' : World} {g : Nat} {D : Dk.D} (h : DiskAt i c W g D) (hc : Chg j c c' W W') (hij : j ≠ i) (hj : j ≠ 0) : DiskAt i c' W' g D := by
  obtain ⟨m, xs, h⟩ := h
  exact ⟨m, xs, h.chg hc hij hj⟩
/-- new blocks alone leave the disk as it is -/
theorem DiskAt.below {i : Nat} {c : Nat → Nat} {W W' : World} {g : Nat} {D : Dk.D} (h : DiskAt i c W g D) (hb : Below W.heap.size W W') (k : Nat) : DiskAt i (pnt c W.heap.size k) W' g D :=
  h.chg (Chg.of_below (i := i + 1) hb k) (by omega) (by omega)

end Go.Proofs.YtamencnachmhoaaGreatDoor

namespace Go.Proofs.YtamencnachmhoaaGreatDoor
open Go.RowKit

theorem DiskIs.rising {i : Nat} {c : Nat → Nat} {W : World} {g : Nat} {D : Dk.D} {m : Nat} {xs : List Fe} (h : DiskIs i c W g D m xs) : xs.Pairwise (fun x y => bytesBefore x.nm y.nm = true) := by
  obtain ⟨es, he, hp, _⟩ := h.map.canon dk_law
  obtain rfl : xs.map Fe.key = es := by simpa using he
  rw [List.pairwise_map] at hp
  exact hp
theorem bytesBefore_irrefl (l : Dk.Bs) : bytesBefore l l = false := by
  induction l with
  | nil => rfl
  | cons a r ih => simp [bytesBefore, ih]
theorem DiskIs.apart {i : Nat} {c : Nat → Nat} {W : World} {g : Nat} {D : Dk.D} {m : Nat} {xs : List Fe} (h : DiskIs i c W g D m xs) : xs.Pairwise (fun x y => x.nm ≠ y.nm) :=
  h.rising.imp (fun {a b} hab e => by rw [e, bytesBefore_irrefl] at hab; cases hab)

theorem find_key (n : Dk.Bs) : ∀ xs : List Fe, (xs.map Fe.key).find? (fun p => p.1.sameKey (.string n)) = (xs.find? (fun x => x.nm == n)).map Fe.key
  | [] => rfl
  | x :: xs => by
    rw [List.map_cons, List.find?_cons, List.find?_cons, find_key n xs]
    show (match (x.nm == n) with | true => some x.key | false => _) = _
    cases x.nm == n <;> rfl
theorem find_ent (n : Dk.Bs) : ∀ xs : List Fe, Dk.find n (xs.map Fe.ent) = (xs.find? (fun x => x.nm == n)).map Fe.f
  | [] => rfl
  | x :: xs => by
    have ih := find_ent n xs
    unfold Dk.find at ih ⊢
    rw [List.map_cons, List.find?_cons, List.find?_cons]
    show (match (x.nm == n) with | true => some x.ent | false => _).map _ = _
    cases hx : x.nm == n
    · simpa [hx] using ih
    · rfl
theorem DiskIs.find {i : Nat} {c : Nat → Nat} {W : World} {g : Nat} {D : Dk.D} {m : Nat} {xs : List Fe} (h : DiskIs i c W g D m xs) (n : Dk.Bs) : Dk.find n D.fs = (xs.find? (fun x => x.nm == n)).map Fe.f := by
  rw [h.fs]; exact find_ent n xs
theorem DiskIs.find_some {i : Nat} {c : Nat → Nat} {W : World} {g : Nat} {D : Dk.D} {m : Nat} {xs : List Fe} (h : DiskIs i c W g D m xs) {n : Dk.Bs} {f : Dk.Fl} (hf : Dk.find n D.fs = some f) :
    ∃ l1 x l2, xs = l1 ++ x :: l2 ∧ x.nm = n ∧ x.f = f := by
  rw [h.find n] at hf
  obtain ⟨x, hx, rfl⟩ := Option.map_eq_some_iff.1 hf
  obtain ⟨l1, l2, rfl⟩ := List.append_of_mem (List.mem_of_find?_eq_some hx)
  exact ⟨l1, x, l2, rfl, by simpa using List.find?_some hx, rfl⟩
theorem DiskIs.find_none {i : Nat} {c : Nat → Nat} {W : World} {g : Nat} {D : Dk.D} {m : Nat} {xs : List Fe} (h : DiskIs i c W g D m xs) {n : Dk.Bs} (hf : Dk.find n D.fs = none) : ∀ x ∈ xs, x.nm ≠ n := by
  rw [h.find n] at hf
  intro x hx e
  have := List.find?_eq_none.1 (Option.map_eq_none_iff.1 hf) x hx
  simp [e] at this

theorem DiskIs.look_none {i : Nat} {c : Nat → Nat} {W : World} {g : Nat} {D : Dk.D} {m : Nat} {xs : List Fe} (h : DiskIs i c W g D m xs) (s : ByteArray) (hs : s.size ≤ maxLen) (hf : Dk.find s.data.toList D.fs = none) :
    ∀ W', W'.heap = W.heap → (Instr.lookup 98 (.map (some m)) (.string s) false).run Tryz.prog W' = .ok (.pointer none) W' := by
  intro W' hW
  have hm := ownsMap_block (W' := W') h.map (by rw [hW])
  obtain ⟨v, ps, hrun, hv⟩ := hm.lookup dk_law Tryz.underlying98 (dk_zero W') (zd := .held none) (zp := []) rfl (Go.WideMaps.keyOf_string_mk Tryz.underlying9 hs)
  rw [h.find] at hf
  have hat : (DataW.map (xs.map Fe.key)).atKey (.string s.data.toList) (.held none) = .held none := by
    unfold DataW.atKey
    simp only [find_key, Option.map_eq_none_iff.1 hf]
    rfl
  rw [hat] at hv
  cases v <;> simp [ptrElem] at hv
  rw [hrun, hv.1]
theorem DiskIs.look_some {i : Nat} {c : Nat → Nat} {W : World} {g : Nat} {D : Dk.D} {m : Nat} {l1 l2 : List Fe} {x : Fe} (h : DiskIs i c W g D m (l1 ++ x :: l2)) (s : ByteArray) (hs : s.size ≤ maxLen) (hn : x.nm = s.data.toList) :
    ∀ W', W'.heap = W.heap → (Instr.lookup 98 (.map (some m)) (.string s) false).run Tryz.prog W' = .ok (.pointer (some ⟨x.g, 0, none⟩)) W' := by
  intro W' hW
  have hm := ownsMap_block (W' := W') h.map (by rw [hW])
  obtain ⟨v, ps, hrun, hv⟩ := hm.lookup dk_law Tryz.underlying98 (dk_zero W') (zd := .held none) (zp := []) rfl (Go.WideMaps.keyOf_string_mk Tryz.underlying9 hs)
  have hat : (DataW.map ((l1 ++ x :: l2).map Fe.key)).atKey (.string s.data.toList) (.held none) = .held (some ⟨x.g, 0, none⟩) := by
    refine WideAt.atKey_mem _ trivial ?_ (List.mem_map.2 ⟨x, by simp, by unfold Fe.key; rw [hn]⟩)
    rw [List.pairwise_map]
    exact h.apart.imp (fun {a b} hab e => hab (by simpa [Fe.key] using e))
  rw [hat] at hv
  cases v <;> simp [ptrElem] at hv
  rw [hrun, hv.1]

/-- one file's blocks among the others may be changed for others that are nowhere else -/
theorem nodup_swap (A B : List Nat) (o o' : List Nat) (h : (A ++ (o ++ B)).Nodup) (h' : o'.Nodup) (hd : ∀ b ∈ o', b ∈ o ∨ (b ∉ A ∧ b ∉ B)) : (A ++ (o' ++ B)).Nodup := by
  rw [List.nodup_append] at h
  obtain ⟨hA, hoB, hdis⟩ := h
  rw [List.nodup_append] at hoB
  obtain ⟨ho, hB, hdis2⟩ := hoB
  rw [List.nodup_append]
  refine ⟨hA, ?_, ?_⟩
  · rw [List.nodup_append]
    refine ⟨h', hB, fun a ha b hb e => ?_⟩
    subst e
    rcases hd a ha with h1 | ⟨_, h1⟩
    · exact hdis2 a h1 a hb rfl
    · exact h1 hb
  · intro a ha b hb e
    subst e
    rcases List.mem_append.1 hb with hb | hb
    · rcases hd a hb with h1 | ⟨h1, _⟩
      · exact hdis a ha a (List.mem_append_left _ h1) rfl
      · exact h1 ha
    · exact hdis a ha a (List.mem_append_right _ hb) rfl

theorem upd_ent (l1 l2 : List Fe) (x0 x1 : Fe) (hn : x1.nm = x0.nm) (h : (l1 ++ x0 :: l2).Pairwise (fun x y => x.nm ≠ y.nm)) :
    Dk.upd x0.nm x1.f ((l1 ++ x0 :: l2).map Fe.ent) = (l1 ++ x1 :: l2).map Fe.ent := by
  rw [List.pairwise_append] at h
  obtain ⟨h1, h2, h3⟩ := h
  rw [List.pairwise_cons] at h2
  have other : ∀ l : List Fe, (∀ y ∈ l, y.nm ≠ x0.nm) → Dk.upd x0.nm x1.f (l.map Fe.ent) = l.map Fe.ent := by
    intro l hl
    unfold Dk.upd
    rw [List.map_map]
    apply List.map_congr_left
    intro y hy
    simp [Fe.ent, hl y hy]
  have o1 := other l1 (fun y hy => h3 y hy x0 (by simp))
  have o2 := other l2 (fun y hy => (h2.1 y hy).symm)
  unfold Dk.upd at o1 o2 ⊢
  rw [List.map_append, List.map_append, List.map_append, o1, List.map_cons, List.map_cons, List.map_cons, o2]
  simp [Fe.ent, hn]

/-- ONE FILE TURNS -/
theorem DiskIs.turn {i : Nat} {c c' : Nat → Nat} {W W' : World} {g : Nat} {D : Dk.D} {m : Nat} {l1 l2 : List Fe} {x0 x1 : Fe} (h : DiskIs i c W g D m (l1 ++ x0 :: l2)) (hn : x1.nm = x0.nm) (hg : x1.g = x0.g)
    (hs : W.heap.size ≤ W'.heap.size) (hW : ∀ b, b < W.heap.size → b ∉ x0.blks → W'.heap[b]? = W.heap[b]?) (hc : ∀ b, b < W.heap.size → c' b = c b) (hx1 : FeAt c' W' x1)
    (hpv : ∀ b, x1.pv.ownBlock = some b → x0.pv.ownBlock = some b ∨ (W.heap.size ≤ b ∧ b < W'.heap.size ∧ c' b = i)) :
    DiskIs i c' W' g { D with fs := Dk.upd x0.nm x1.f D.fs } m (l1 ++ x1 :: l2) := by
  have hx0 : x0 ∈ l1 ++ x0 :: l2 := by simp
  have hnd := h.nd
  have e0 : g :: m :: (l1 ++ x0 :: l2).flatMap Fe.blks = (g :: m :: l1.flatMap Fe.blks) ++ (x0.blks ++ l2.flatMap Fe.blks) := by simp
  have e1 : g :: m :: (l1 ++ x1 :: l2).flatMap Fe.blks = (g :: m :: l1.flatMap Fe.blks) ++ (x1.blks ++ l2.flatMap Fe.blks) := by simp
  rw [e0] at hnd
  have hin : ∀ b ∈ g :: m :: l1.flatMap Fe.blks, b ∉ x0.blks := fun b hb hb' => (List.nodup_append.1 hnd).2.2 b hb b (List.mem_append_left _ hb') rfl
  have hin2 : ∀ b ∈ l2.flatMap Fe.blks, b ∉ x0.blks := fun b hb hb' => (List.nodup_append.1 (List.nodup_append.1 hnd).2.1).2.2 b hb' b hb rfl
  have hlt : ∀ b, b ∈ g :: m :: (l1 ++ x0 :: l2).flatMap Fe.blks → b < W.heap.size := fun b hb => (h.col b hb).2
  have keep : ∀ b ∈ g :: m :: l1.flatMap Fe.blks, W'.heap[b]? = W.heap[b]? := fun b hb => hW b (hlt b (by rw [e0]; exact List.mem_append_left _ hb)) (hin b hb)
  have keep2 : ∀ b ∈ l2.flatMap Fe.blks, W'.heap[b]? = W.heap[b]? := fun b hb => hW b (hlt b (by rw [e0]; exact List.mem_append_right _ (List.mem_append_right _ hb))) (hin2 b hb)
  have hx1b : ∀ b ∈ x1.blks, b ∈ x0.blks ∨ (W.heap.size ≤ b ∧ b < W'.heap.size ∧ c' b = i) := by
    intro b hb
    simp only [Fe.blks, List.mem_cons, Option.mem_toList] at hb ⊢
    rcases hb with rfl | hb
    · exact .inl (.inl hg)
    · rcases hpv b hb with h1 | h1
      · exact .inl (.inr h1)
      · exact .inr h1
  have hx0b : ∀ b ∈ x0.blks, c b = i ∧ b < W.heap.size := fun b hb => h.col b (mem_blks hx0 hb g m)
  have hread : ∀ b, b < W.heap.size → c b = 0 → W'.heap[b]? = W.heap[b]? ∧ c' b = 0 := fun b hb h0 =>
    ⟨hW b hb (fun hb' => by have := (hx0b b hb').1; exact h.ne (by omega)), (hc b hb).trans h0⟩
  refine ⟨(keep g (by simp)).trans h.row, ?_, ?_, ?_, ?_, ?_, h.ne⟩
  · have hm := ownsMap_block h.map (keep m (by simp))
    rw [List.map_append, List.map_cons] at hm
    rw [List.map_append, List.map_cons]
    have : x1.key = x0.key := by unfold Fe.key; rw [hn, hg]
    rw [this]
    simpa using hm
  · show Dk.upd x0.nm x1.f D.fs = _
    rw [h.fs]
    exact upd_ent l1 l2 x0 x1 hn h.apart
  · intro y hy
    rcases List.mem_append.1 hy with hy | hy
    · exact (h.file y (by simp [hy])).keep hs hread (fun b hb => keep b (List.mem_cons_of_mem _ (List.mem_cons_of_mem _ (List.mem_flatMap.2 ⟨y, hy, hb⟩))))
    · rcases List.mem_cons.1 hy with rfl | hy
      · exact hx1
      · exact (h.file y (by simp [hy])).keep hs hread (fun b hb => keep2 b (List.mem_flatMap.2 ⟨y, hy, hb⟩))
  · rw [e1]
    refine nodup_swap _ _ _ _ hnd ?_ (fun b hb => ?_)
    · have h0 : x0.blks.Nodup := (List.nodup_append.1 (List.nodup_append.1 hnd).2.1).1
      unfold Fe.blks at h0 ⊢
      cases hpb : x1.pv.ownBlock with
      | none => simp
      | some b =>
        simp only [Option.toList_some, List.nodup_cons, List.mem_singleton, List.not_mem_nil, not_false_eq_true, List.nodup_nil, and_true]
        rintro rfl
        rcases hpv _ hpb with h1 | h1
        · rw [h1] at h0
          simp [hg] at h0
        · have := (hx0b x0.g (by simp [Fe.blks])).2
          omega
    · rcases hx1b b hb with h1 | ⟨h1, _, _⟩
      · exact .inl h1
      · refine .inr ⟨fun h2 => ?_, fun h2 => ?_⟩
        · have := hlt b (by rw [e0]; exact List.mem_append_left _ h2); omega
        · have := hlt b (by rw [e0]; exact List.mem_append_right _ (List.mem_append_right _ h2)); omega
  · intro b hb
    rw [e1] at hb
    rcases List.mem_append.1 hb with hb | hb
    · have h1 := h.col b (by rw [e0]; exact List.mem_append_left _ hb)
      exact ⟨(hc b h1.2).trans h1.1, by omega⟩
    · rcases List.mem_append.1 hb with hb | hb
      · rcases hx1b b hb with h1 | ⟨_, h2, h3⟩
        · have := hx0b b h1
          exact ⟨(hc b this.2).trans this.1, by omega⟩
        · exact ⟨h3, h2⟩
      · have h1 := h.col b (by rw [e0]; exact List.mem_append_right _ (List.mem_append_right _ hb))
        exact ⟨(hc b h1.2).trans h1.1, by omega⟩

/-- .. and that is a step of the disk's colour -/
theorem DiskIs.turn_chg {i : Nat} {c c' : Nat → Nat} {W W' : World} {g : Nat} {D : Dk.D} {m : Nat} {l1 l2 : List Fe} {x0 : Fe} (h : DiskIs i c W g D m (l1 ++ x0 :: l2))
    (hos : W'.os = W.os) (htape : W'.tape = W.tape) (hout : W'.output = W.output) (hs : W.heap.size ≤ W'.heap.size) (hW : ∀ b, b < W.heap.size → b ∉ x0.blks → W'.heap[b]? = W.heap[b]?) (hc : ∀ b, b < W.heap.size → c' b = c b) : Chg i c c' W W' :=
  ⟨hos, htape, hout, hs, fun b hb hne => hW b hb (fun hb' => hne (h.col b (mem_blks (by simp) hb' g m)).1), hc⟩

/-- THE ROW TURNS: the budget, or whether it is down -/
theorem DiskIs.reset {i : Nat} {c : Nat → Nat} {W W' : World} {g : Nat} {D : Dk.D} {m : Nat} {xs : List Fe} (h : DiskIs i c W g D m xs) (bud : Int) (down : Bool) (hs : W.heap.size ≤ W'.heap.size)
    (hW : ∀ b, b < W.heap.size → b ≠ g → W'.heap[b]? = W.heap[b]?) (hrow : W'.heap[g]? = some (.cells #[.map (some m), .int .i64 bud, .bool down] 100 (0, 0))) :
    DiskIs i c W' g { D with bud := bud, down := down } m xs := by
  have hlt : ∀ b, b ∈ g :: m :: xs.flatMap Fe.blks → b < W.heap.size := fun b hb => (h.col b hb).2
  have hg : ∀ b ∈ m :: xs.flatMap Fe.blks, b ≠ g := fun b hb e => (List.nodup_cons.1 h.nd).1 (e ▸ hb)
  have keep : ∀ b ∈ m :: xs.flatMap Fe.blks, W'.heap[b]? = W.heap[b]? := fun b hb => hW b (hlt b (List.mem_cons_of_mem _ hb)) (hg b hb)
  have hgi := (h.col g (by simp)).1
  refine ⟨hrow, ownsMap_block h.map (keep m (by simp)), h.fs, fun x hx => (h.file x hx).keep hs (fun b hb h0 => ⟨hW b hb (fun e => h.ne (by rw [← hgi, ← e]; exact h0)), h0⟩) (fun b hb => keep b (List.mem_cons_of_mem _ (List.mem_flatMap.2 ⟨x, hx, hb⟩))), h.nd, fun b hb => ⟨(h.col b hb).1, Nat.lt_of_lt_of_le (h.col b hb).2 hs⟩, h.ne⟩

end Go.Proofs.YtamencnachmhoaaGreatDoor
