/-
  Open on a disk with files: what lies in memory between two files of the scan.
-/
import Derived.Test.YtcbnbhlgikjbeaaGreatDoorWlIntact
import Derived.Test.YtcbnbhlgikjbeaaGreatDoorWlOpenN
import Derived.Test.YtcbnbhlgikjbeaaGreatDoorWlOpens
namespace Go.Proofs.YtcbnbhlgikjbeaaGreatDoor
open Go.RowKit

/-- between two files: h the log's record, b7 the box of the entries; everything else that was there behind List lies as it lay; the rows of segments and entries and the payloads are younger -/
structure OpSt (w2 wr : World) (h b7 g : Nat) (p : ByteArray) (n : Nat) (nx : Nat) (segs : List (Nat × Nat)) (ents : List (Nat × Wl.Bs)) (sv ev : Value) (vs : List Value) : Prop where
  size : w2.heap.size ≤ wr.heap.size
  os : wr.os = w2.os
  tape : wr.tape = w2.tape
  output : wr.output = w2.output
  hlt : h < w2.heap.size
  blt : b7 < w2.heap.size
  hne : h ≠ b7
  same : ∀ b, b < w2.heap.size → b ≠ h → b ≠ b7 → wr.heap[b]? = w2.heap[b]?
  rowh : wr.heap[h]? = some (.cells #[.pointer (some ⟨g, 0, none⟩), .string p, .int .i64 n, sv, .int .i64 nx, .int .i64 0] 93 (0, 0))
  row7 : wr.heap[b7]? = some (.cells #[ev] 53 (0, 0))
  seg : wr.ownsRow w2.heap.size 101 2 sv segs.length (segCells segs)
  ent : wr.ownsRow w2.heap.size 62 2 ev ents.length (enCells ents vs)
  ne : ∀ q, sv.ownBlock = some q → ev.ownBlock ≠ some q
  e1 : EnOk wr ev.ownBlock ents vs
  e2 : EnOk wr sv.ownBlock ents vs
  e3 : ∀ v ∈ vs, ∀ q, v.ownBlock = some q → w2.heap.size ≤ q

theorem OpSt.below {w2 wr w' : World} {h b7 g : Nat} {p : ByteArray} {n nx : Nat} {segs : List (Nat × Nat)} {ents : List (Nat × Wl.Bs)} {sv ev : Value} {vs : List Value} (S : OpSt w2 wr h b7 g p n nx segs ents sv ev vs) (hb : Below wr.heap.size wr w') :
    OpSt w2 w' h b7 g p n nx segs ents sv ev vs where
  size := Nat.le_trans S.size hb.size
  os := hb.os.trans S.os
  tape := hb.tape.trans S.tape
  output := hb.output.trans S.output
  hlt := S.hlt
  blt := S.blt
  hne := S.hne
  same := fun b h1 h2 h3 => (hb.block b (Nat.lt_of_lt_of_le h1 S.size)).trans (S.same b h1 h2 h3)
  rowh := (hb.block h (Array.getElem?_eq_some_iff.1 S.rowh).1).trans S.rowh
  row7 := (hb.block b7 (Array.getElem?_eq_some_iff.1 S.row7).1).trans S.row7
  seg := own_keep S.seg (fun q hq => hb.block q (S.seg.lt q hq).2)
  ent := own_keep S.ent (fun q hq => hb.block q (S.ent.lt q hq).2)
  ne := S.ne
  e1 := S.e1.below hb
  e2 := S.e2.below hb
  e3 := S.e3

theorem OpSt.low {W w2 wr : World} {h b7 g : Nat} {p : ByteArray} {n nx : Nat} {segs : List (Nat × Nat)} {ents : List (Nat × Wl.Bs)} {sv ev : Value} {vs : List Value} (S : OpSt w2 wr h b7 g p n nx segs ents sv ev vs) (hb : Below W.heap.size W w2) (h1 : W.heap.size ≤ h) (h2 : W.heap.size ≤ b7) : Below W.heap.size W wr :=
  ⟨S.os.trans hb.os, S.tape.trans hb.tape, S.output.trans hb.output, Nat.le_trans hb.size S.size, fun b hlt => (S.same b (Nat.lt_of_lt_of_le hlt hb.size) (by omega) (by omega)).trans (hb.block b hlt)⟩

theorem EnOk.set {W : World} {row : Option Nat} {l : List (Nat × Wl.Bs)} {vs : List Value} {b o : Nat} {u : Value} (h : EnOk W row l vs) (hb : ∀ v ∈ vs, ∀ q, v.ownBlock = some q → q ≠ b) : EnOk (W.setCell ⟨b, o, none⟩ u) row l vs :=
  ⟨h.1, fun k x v hk hv => ⟨(h.2 k x v hk hv).1.past (wl_set W b o u) (fun q hq e => hb v (List.mem_of_getElem? hv) q hq (by cases e; rfl)), fun q hq => ⟨Nat.lt_of_lt_of_le ((h.2 k x v hk hv).2 q hq).1 (wl_set W b o u).size, ((h.2 k x v hk hv).2 q hq).2⟩⟩⟩

theorem OpSt.setNext {w2 wr : World} {h b7 g : Nat} {p : ByteArray} {n nx : Nat} {segs : List (Nat × Nat)} {ents : List (Nat × Wl.Bs)} {sv ev : Value} {vs : List Value} (S : OpSt w2 wr h b7 g p n nx segs ents sv ev vs) (m : Nat) :
    OpSt w2 (wr.setCell ⟨h, 4, none⟩ (.int .i64 m)) h b7 g p n m segs ents sv ev vs := by
  have g2 := wl_set wr h 4 (.int .i64 (m : Int))
  have hq : ∀ v ∈ vs, ∀ q, v.ownBlock = some q → q ≠ h := fun v hv q hq e => by have := S.e3 v hv q hq; have := S.hlt; omega
  exact {
    size := Nat.le_trans S.size g2.size
    os := g2.os.trans S.os
    tape := g2.tape.trans S.tape
    output := g2.output.trans S.output
    hlt := S.hlt
    blt := S.blt
    hne := S.hne
    same := fun b h1 h2 h3 => (g2.block b (Nat.lt_of_lt_of_le h1 S.size) (fun e => h2 (by cases e; rfl))).trans (S.same b h1 h2 h3)
    rowh := by rw [dk_setCell wr h 4 _ _ _ S.rowh]; simp
    row7 := (g2.block b7 (Array.getElem?_eq_some_iff.1 S.row7).1 (fun e => S.hne (by cases e; rfl))).trans S.row7
    seg := own_keep S.seg (fun q hq => g2.block q (S.seg.lt q hq).2 (fun e => by cases e; have := (S.seg.lt h hq).1; have := S.hlt; omega))
    ent := own_keep S.ent (fun q hq => g2.block q (S.ent.lt q hq).2 (fun e => by cases e; have := (S.ent.lt h hq).1; have := S.hlt; omega))
    ne := S.ne
    e1 := S.e1.set hq
    e2 := S.e2.set hq
    e3 := S.e3 }

/-- a segment is appended to the log's row -/
theorem OpSt.addSeg {w2 wr w1 w3 : World} {h b7 g : Nat} {p : ByteArray} {n nx : Nat} {segs : List (Nat × Nat)} {ents : List (Nat × Wl.Bs)} {sv ev v3 : Value} {vs : List Value} {s : Nat × Nat} {q3 : Nat} (S : OpSt w2 wr h b7 g p n nx segs ents sv ev vs) (hb : Below wr.heap.size wr w1)
    (ho : w3.ownsRow w2.heap.size 101 2 v3 (segs.length + 1) (segCells segs ++ [.int .i64 s.1, .int .i64 s.2])) (hg : w1.grownBy w3 sv.ownBlock) (h3 : v3.ownBlock = some q3) (hat : sv.ownBlock = some q3 ∨ q3 = w1.heap.size) :
    OpSt w2 (w3.setCell ⟨h, 3, none⟩ v3) h b7 g p n nx (segs ++ [s]) ents v3 ev vs := by
  have S1 := S.below hb
  have hsvn : ∀ b, b < w2.heap.size → some b ≠ sv.ownBlock := fun b h1 e => by have := (S.seg.lt b e.symm).1; omega
  have g2 := wl_set w3 h 3 v3
  have hrow3 := (hg.block h (Array.getElem?_eq_some_iff.1 S1.rowh).1 (hsvn h S.hlt)).trans S1.rowh
  have hq : ∀ v ∈ vs, ∀ q, v.ownBlock = some q → q ≠ h := fun v hv q hq e => by have := S.e3 v hv q hq; have := S.hlt; omega
  have hev : ∀ q, ev.ownBlock = some q → q < w1.heap.size ∧ some q ≠ sv.ownBlock := fun q hq => ⟨(S1.ent.lt q hq).2, fun e => S.ne q e.symm hq⟩
  exact {
    size := Nat.le_trans (Nat.le_trans S1.size hg.size) g2.size
    os := g2.os.trans (hg.os.trans S1.os)
    tape := g2.tape.trans (hg.tape.trans S1.tape)
    output := g2.output.trans (hg.output.trans S1.output)
    hlt := S.hlt
    blt := S.blt
    hne := S.hne
    same := fun b h1 h2 h4 => (g2.block b (Nat.lt_of_lt_of_le h1 (Nat.le_trans S1.size hg.size)) (fun e => h2 (by cases e; rfl))).trans ((hg.block b (Nat.lt_of_lt_of_le h1 S1.size) (hsvn b h1)).trans (S1.same b h1 h2 h4))
    rowh := by rw [dk_setCell w3 h 3 _ _ _ hrow3]; simp
    row7 := (g2.block b7 (Nat.lt_of_lt_of_le S.blt (Nat.le_trans S1.size hg.size)) (fun e => S.hne (by cases e; rfl))).trans ((hg.block b7 (Nat.lt_of_lt_of_le S.blt S1.size) (hsvn b7 S.blt)).trans S1.row7)
    seg := by
      rw [segCells_append, List.length_append]
      exact own_keep ho (fun q hq => g2.block q (ho.lt q hq).2 (fun e => by cases e; have := (ho.lt h hq).1; have := S.hlt; omega))
    ent := own_keep S1.ent (fun q hq => (g2.block q (by have := (hev q hq).1; have := hg.size; omega) (fun e => by cases e; have := (S.ent.lt h hq).1; have := S.hlt; omega)).trans (hg.block q (hev q hq).1 (hev q hq).2))
    ne := fun q hq e => by
      rw [h3] at hq
      cases hq
      rcases hat with h4 | h4
      · exact S.ne _ h4 e
      · have := (hev _ e).1; omega
    e1 := EnOk.set (by
      refine ⟨S1.e1.1, fun k x v hk hv => ⟨(S1.e2.2 k x v hk hv).1.past hg (fun q hq => ((S1.e2.2 k x v hk hv).2 q hq).2), fun q hq => ⟨Nat.lt_of_lt_of_le ((S1.e1.2 k x v hk hv).2 q hq).1 hg.size, ((S1.e1.2 k x v hk hv).2 q hq).2⟩⟩⟩) hq
    e2 := by rw [h3]; exact EnOk.set (S1.e2.grown hg hat) hq
    e3 := S.e3 }

theorem enCells_append : ∀ (l : List (Nat × Wl.Bs)) (vs : List Value) (m : List (Nat × Wl.Bs)) (ws : List Value), vs.length = l.length → enCells (l ++ m) (vs ++ ws) = enCells l vs ++ enCells m ws
  | [], [], _, _, _ => rfl
  | [], _ :: _, _, _, h => by simp at h
  | _ :: _, [], _, _, h => by simp at h
  | y :: l, w :: vs, m, ws, h => by
    have := enCells_append l vs m ws (by simpa using h)
    simp only [List.cons_append, enCells, this]
theorem enCells_one : ∀ (l : List (Nat × Wl.Bs)) (vs : List Value), (∀ v ∈ vs, v.oneCell' = true) → ∀ u ∈ enCells l vs, u.oneCell' = true
  | [], vs, _ => by cases vs <;> simp [enCells]
  | _ :: _, [], _ => by simp [enCells]
  | y :: l, w :: vs, h => by
    intro u hu
    simp only [enCells, List.mem_cons] at hu
    rcases hu with rfl | rfl | hu
    · rfl
    · exact h _ (by simp)
    · exact enCells_one l vs (fun v hv => h v (List.mem_cons_of_mem _ hv)) u hu
theorem EnOk.append {W : World} {row : Option Nat} {l m : List (Nat × Wl.Bs)} {vs ws : List Value} (h : EnOk W row l vs) (k : EnOk W row m ws) : EnOk W row (l ++ m) (vs ++ ws) := by
  refine ⟨by simp [h.1, k.1], fun i x v hi hv => ?_⟩
  by_cases hlt : i < l.length
  · rw [List.getElem?_append_left hlt] at hi
    rw [List.getElem?_append_left (by rw [h.1]; exact hlt)] at hv
    exact h.2 i x v hi hv
  · rw [List.getElem?_append_right (by omega)] at hi
    rw [List.getElem?_append_right (by rw [h.1]; omega), h.1] at hv
    exact k.2 _ x v hi hv
/-- another row that no payload lies in -/
theorem EnOk.row {W : World} {row row' : Option Nat} {l : List (Nat × Wl.Bs)} {vs : List Value} (h : EnOk W row l vs) (hr : ∀ v ∈ vs, ∀ q, v.ownBlock = some q → some q ≠ row') : EnOk W row' l vs :=
  ⟨h.1, fun k x v hk hv => ⟨(h.2 k x v hk hv).1, fun q hq => ⟨((h.2 k x v hk hv).2 q hq).1, hr v (List.mem_of_getElem? hv) q hq⟩⟩⟩

/-- entries are appended -/
theorem OpSt.addEnts {w2 wr w3 : World} {h b7 g : Nat} {p : ByteArray} {n nx : Nat} {segs : List (Nat × Nat)} {ents l : List (Nat × Wl.Bs)} {sv ev v3 : Value} {vs ws : List Value} (S : OpSt w2 wr h b7 g p n nx segs ents sv ev vs)
    (hl : EnOk wr none l ws) (hlb : ∀ v ∈ ws, ∀ q, v.ownBlock = some q → w2.heap.size ≤ q ∧ some q ≠ ev.ownBlock ∧ some q ≠ sv.ownBlock)
    (ho : w3.ownsRow w2.heap.size 62 2 v3 (ents.length + l.length) (enCells ents vs ++ enCells l ws)) (hg : wr.grownBy w3 ev.ownBlock) (hat : v3.ownBlock = ev.ownBlock ∨ v3.ownBlock = some wr.heap.size) :
    OpSt w2 (w3.setCell ⟨b7, 0, none⟩ v3) h b7 g p n nx segs (ents ++ l) sv v3 (vs ++ ws) := by
  have hevn : ∀ b, b < w2.heap.size → some b ≠ ev.ownBlock := fun b h1 e => by have := (S.ent.lt b e.symm).1; omega
  have g2 := wl_set w3 b7 0 v3
  have hrow3 := (hg.block b7 (Array.getElem?_eq_some_iff.1 S.row7).1 (hevn b7 S.blt)).trans S.row7
  have hvs : ∀ v ∈ vs ++ ws, ∀ q, v.ownBlock = some q → w2.heap.size ≤ q := fun v hv q hq => by
    rcases List.mem_append.1 hv with hv | hv
    · exact S.e3 v hv q hq
    · exact (hlb v hv q hq).1
  have hq : ∀ v ∈ vs ++ ws, ∀ q, v.ownBlock = some q → q ≠ b7 := fun v hv q hq e => by have := hvs v hv q hq; have := S.blt; omega
  have hsv : ∀ q, sv.ownBlock = some q → q < wr.heap.size ∧ some q ≠ ev.ownBlock := fun q hq => ⟨(S.seg.lt q hq).2, fun e => S.ne q hq e.symm⟩
  have a1 : EnOk wr ev.ownBlock (ents ++ l) (vs ++ ws) := S.e1.append (hl.row (fun v hv q hq => (hlb v hv q hq).2.1))
  have a2 : EnOk wr sv.ownBlock (ents ++ l) (vs ++ ws) := S.e2.append (hl.row (fun v hv q hq => (hlb v hv q hq).2.2))
  have past : ∀ row, EnOk wr row (ents ++ l) (vs ++ ws) → EnOk w3 row (ents ++ l) (vs ++ ws) := fun row hr =>
    ⟨hr.1, fun k x v hk hv => ⟨(a1.2 k x v hk hv).1.past hg (fun q hq => ((a1.2 k x v hk hv).2 q hq).2), fun q hq => ⟨Nat.lt_of_lt_of_le ((hr.2 k x v hk hv).2 q hq).1 hg.size, ((hr.2 k x v hk hv).2 q hq).2⟩⟩⟩
  exact {
    size := Nat.le_trans (Nat.le_trans S.size hg.size) g2.size
    os := g2.os.trans (hg.os.trans S.os)
    tape := g2.tape.trans (hg.tape.trans S.tape)
    output := g2.output.trans (hg.output.trans S.output)
    hlt := S.hlt
    blt := S.blt
    hne := S.hne
    same := fun b h1 h2 h4 => (g2.block b (Nat.lt_of_lt_of_le h1 (Nat.le_trans S.size hg.size)) (fun e => h4 (by cases e; rfl))).trans ((hg.block b (Nat.lt_of_lt_of_le h1 S.size) (hevn b h1)).trans (S.same b h1 h2 h4))
    rowh := (g2.block h (Nat.lt_of_lt_of_le S.hlt (Nat.le_trans S.size hg.size)) (fun e => S.hne (by cases e; rfl))).trans ((hg.block h (Nat.lt_of_lt_of_le S.hlt S.size) (hevn h S.hlt)).trans S.rowh)
    row7 := by rw [dk_setCell w3 b7 0 _ _ _ hrow3]; simp
    seg := own_keep S.seg (fun q hq => (g2.block q (by have := (hsv q hq).1; have := hg.size; omega) (fun e => by cases e; have := (S.seg.lt b7 hq).1; have := S.blt; omega)).trans (hg.block q (hsv q hq).1 (hsv q hq).2))
    ent := by
      rw [enCells_append _ _ _ _ S.e1.1, List.length_append]
      exact own_keep ho (fun q hq => g2.block q (ho.lt q hq).2 (fun e => by cases e; have := (ho.lt b7 hq).1; have := S.blt; omega))
    ne := fun q hq e => by
      rcases hat with h4 | h4
      · exact S.ne q hq (h4 ▸ e)
      · rw [h4] at e; cases e; have := (hsv _ hq).1; omega
    e1 := EnOk.set ((past ev.ownBlock a1).row (fun v hv q hq e => by
      have hk : ∃ k, (vs ++ ws)[k]? = some v := List.getElem?_of_mem hv
      obtain ⟨k, hk⟩ := hk
      have hkl : k < (ents ++ l).length := by have := (List.getElem?_eq_some_iff.1 hk).1; rw [a1.1] at this; exact this
      have h5 := (a1.2 k _ v (List.getElem?_eq_getElem hkl) hk).2 q hq
      rcases hat with h4 | h4
      · exact h5.2 (h4 ▸ e)
      · rw [h4] at e; cases e; omega)) hq
    e2 := EnOk.set (past sv.ownBlock a2) hq
    e3 := hvs }

end Go.Proofs.YtcbnbhlgikjbeaaGreatDoor
