/-
  Operations that came in; the state of a disk and its reference side by side.
  A slice of operations, and an operation by value, as the statement's reading of memory hands them in: opened to cells.
-/
import Derived.Test.YtegahpgnmeobhaaGreatDoorRfSame
import Derived.Deep.Matrix
import Derived.Deep.Slices
import Derived.Deep.Fields
import Derived.ChangeSlices
namespace Go.Proofs.YtegahpgnmeobhaaGreatDoor
open Go.RowKit

/-- the cells of an operation as it came in -/
structure OpCells (W : World) (g o : Nat) (r : Dk.Raw) (bv : Value) : Prop where
  c0 : W.cell? ⟨g, o, none⟩ = some (.int .i64 r.kind)
  c1 : W.cell? ⟨g, o + 1, none⟩ = some (.string r.name)
  c2 : W.cell? ⟨g, o + 2, none⟩ = some (.string r.to)
  c3 : W.cell? ⟨g, o + 3, none⟩ = some (.int .i64 r.n)
  c4 : W.cell? ⟨g, o + 4, none⟩ = some bv
structure RawOk (r : Dk.Raw) : Prop where
  k1 : -9223372036854775808 ≤ r.kind
  k2 : r.kind ≤ 9223372036854775807
  n2 : r.n ≤ 9223372036854775807
  name : r.name.size ≤ 9223372036854775807
  tn : r.to.size ≤ 9223372036854775807

/-- a slice of operations that is read -/
def OpsAt (W : World) (v0 : Value) (l : List Dk.Raw) : Prop := ∃ a0 cap, v0 = .slice a0 l.length cap ∧ l.length ≤ 9223372036854775807 ∧
  ∀ i r, l[i]? = some r → ∃ g off bv, a0 = some ⟨g, off, none⟩ ∧ g < W.heap.size ∧ OpCells W g (off + i * 5) r bv ∧ RawOk r ∧ RdB W W.heap.size bv r.b

theorem OpCells.below {W W' : World} {g o : Nat} {r : Dk.Raw} {bv : Value} (h : OpCells W g o r bv) (hb : Below W.heap.size W W') (hg : g < W.heap.size) : OpCells W' g o r bv :=
  ⟨(hb.cell (p := ⟨g, o, none⟩) hg).trans h.c0, (hb.cell (p := ⟨g, o + 1, none⟩) hg).trans h.c1, (hb.cell (p := ⟨g, o + 2, none⟩) hg).trans h.c2, (hb.cell (p := ⟨g, o + 3, none⟩) hg).trans h.c3, (hb.cell (p := ⟨g, o + 4, none⟩) hg).trans h.c4⟩

theorem Chg.paint (i : Nat) (c : Nat → Nat) (W : World) (k : Nat) : Chg i c (pnt c W.heap.size k) W W := ⟨rfl, rfl, rfl, Nat.le_refl _, fun _ _ _ => rfl, fun _ hb => pnt_old hb⟩
theorem Chg.drew {i : Nat} {c c' : Nat → Nat} {W W' : World} (h : Chg i c c' W W') : Chg i c c' W W'.drew := ⟨h.os, h.tape, h.output, h.size, h.block, h.col⟩

/-- a disk and its reference, the reference in a box of colour 7 -/
structure St (W : World) (k : Nat) (c : Nat → Nat) (w : World) (g gw : Nat) (D : Dk.D) (sv : Value) : Prop where
  disk : DiskAt 1 c w g D
  ref : RfD c w (.agg #[sv, .int .i64 D.norm.bud, .bool D.norm.down]) D.norm
  row : w.heap[gw]? = some (.cells #[sv, .int .i64 D.norm.bud, .bool D.norm.down] 27 (0, 0))
  col : c gw = 7
  good : Dk.Good k D
  kn : Kn W w c
  new : W.heap.size ≤ gw

theorem St.paint {W : World} {k : Nat} {c : Nat → Nat} {w : World} {g gw : Nat} {D : Dk.D} {sv : Value} (h : St W k c w g gw D sv) : St W k (pnt c w.heap.size 0) w g gw D sv :=
  ⟨h.disk.chg (Chg.paint 3 c w 0) (by decide) (by decide), h.ref.chg (Chg.paint 3 c w 0) (by decide), h.row, by rw [pnt_old (Array.getElem?_eq_some_iff.1 h.row).1]; exact h.col, h.good, h.kn.chg (Chg.paint 3 c w 0) (by decide), h.new⟩
theorem St.below {W : World} {k : Nat} {c : Nat → Nat} {w w' : World} {g gw : Nat} {D : Dk.D} {sv : Value} (h : St W k c w g gw D sv) (hb : Below w.heap.size w w') : St W k c w' g gw D sv :=
  ⟨h.disk.keepB hb, h.ref.below hb, (hb.block gw (Array.getElem?_eq_some_iff.1 h.row).1).trans h.row, h.col, h.good, h.kn.chg (Chg.of_below_same (i := 3) hb) (by decide), h.new⟩
theorem St.form {W : World} {k : Nat} {c : Nat → Nat} {w : World} {g gw : Nat} {D : Dk.D} {sv : Value} (h : St W k c w g gw D sv) : ∃ a n cap, sv = .slice a n cap := by
  obtain ⟨sv', xs, hv, _, ⟨⟨ao, cap, hs, _⟩, _⟩⟩ := h.ref
  unfold rfVal at hv
  injection hv with hv
  have := congrArg (fun l : Array Value => l[0]?) hv
  simp at this
  exact ⟨ao, xs.length, cap, by rw [this, hs]⟩

end Go.Proofs.YtegahpgnmeobhaaGreatDoor

namespace Go.Proofs.YtegahpgnmeobhaaGreatDoor
open Go.ChangeShapes Go.WideShapes Go.RowKit Go.Deep

theorem cellsB : Tryz.prog.cellsOf 5 = 1 := by kernel_rfl
theorem cellsI : Tryz.prog.cellsOf 3 = 1 := by kernel_rfl
theorem cellsT : Tryz.prog.cellsOf 9 = 1 := by kernel_rfl
theorem cellsS : Tryz.prog.cellsOf 23 = 1 := by kernel_rfl
theorem cellsO : Tryz.prog.cellsOf 54 = 5 := by kernel_rfl

/-- numbers as bytes -/
def bsOf (zs : List Int) (n : Nat) : Dk.Bs := (zs.take n).map fun z => UInt8.ofNat z.toNat

theorem rdB_of_ints (W : World) (a : Addr) (len cap : Nat) (zs : List Int) (hl : len ≤ cap) (hz : zs.length = cap) (hc : ∀ i, i < cap → W.cell? (a.add i) = some (.int .u8 (zs.getD i 0))) (hw : ∀ n ∈ zs, (Lit.int .u8 n).wf = true) :
    RdB W W.heap.size (.slice (some a) len cap) (bsOf zs len) := by
  have hlen : (bsOf zs len).length = len := by unfold bsOf; rw [List.length_map, List.length_take]; omega
  rcases Nat.eq_zero_or_pos len with h0 | h0
  · subst h0
    exact .inl ⟨List.eq_nil_of_length_eq_zero hlen, _, _, rfl⟩
  · obtain ⟨b, off, spot⟩ := a
    have hspot : spot = none := by simpa [Addr.add] using World.cell?_spot (hc 0 (by omega))
    subst hspot
    have hb : b < W.heap.size := by have := World.block_lt_of_cell? W _ (hc 0 (by omega)); simpa [Addr.add] using this
    refine .inr ⟨b, off, cap, by rw [hlen], by omega, hb, hb, fun j c hj => ?_⟩
    have hj' : j < len := by rw [← hlen]; exact (List.getElem?_eq_some_iff.1 hj).1
    have hjz : j < zs.length := by omega
    have := hc j (by omega)
    rw [dk_add] at this
    rw [this]
    unfold bsOf at hj
    rw [List.getElem?_map, List.getElem?_take, if_pos hj', List.getElem?_eq_getElem hjz] at hj
    simp only [Option.map_some, Option.some.injEq] at hj
    have hwz := hw zs[j] (List.getElem_mem hjz)
    have e1 : IntKind.u8.min = 0 := rfl
    have e2 : IntKind.u8.max = 255 := rfl
    simp [Lit.wf, e1, e2] at hwz
    have e3 : zs.getD j 0 = zs[j] := by simp [List.getD, List.getElem?_eq_getElem hjz]
    rw [e3, ← hj]
    have e4 : (UInt8.ofNat zs[j].toNat).toNat = zs[j].toNat := by simp; omega
    rw [e4]
    congr 2
    omega

/-- bytes that came in -/
theorem rd_of_trod {H : Type} {enc : TypeId × Value → H} {W : World} {fuel : Nat} {cs : List Value} {x : DataW H × List MemPlace} (h : DataW.trod enc Tryz.prog W 0 (fun _ => true) true fuel 23 cs = some x) :
    ∃ v l, cs = [v] ∧ RdB W W.heap.size v l := by
  rcases open_ints Tryz.underlying23 Tryz.underlying5 cellsB h with ⟨rfl, _⟩ | ⟨a, len, cap, zs, rfl, _, hl, hm, hz, hx, hcell, hwz⟩
  · exact ⟨_, [], rfl, .inl ⟨rfl, none, 0, rfl⟩⟩
  · simp only [if_true] at hz
    exact ⟨_, _, rfl, rdB_of_ints W a len cap zs hl hz (fun i hi => hcell i (by omega)) hwz⟩

set_option maxRecDepth 100000 in
/-- an operation's five cells -/
theorem raw_of_trod {H : Type} {enc : TypeId × Value → H} {W : World} {fuel : Nat} {cs : List Value} {x : DataW H × List MemPlace} (h : DataW.trod enc Tryz.prog W 0 (fun _ => true) true fuel 54 cs = some x) :
    ∃ r bv, cs = [.int .i64 r.kind, .string r.name, .string r.to, .int .i64 r.n, bv] ∧ RawOk r ∧ RdB W W.heap.size bv r.b := by
  obtain ⟨xs, n, rfl, _, hl, hxl, hall⟩ := DataW.trod_struct Tryz.underlying54 h
  rw [cellsO] at hl
  match xs, hxl, cs, hl with
  | [y0, y1, y2, y3, y4], _, [v0, v1, v2, v3, v4], _ =>
    have g0 : DataW.trod enc Tryz.prog W 0 (fun _ => true) true n 3 (([v0, v1, v2, v3, v4].drop 0).take (Tryz.prog.cellsOf 3)) = some y0 := hall 0 _ rfl
    have g1 : DataW.trod enc Tryz.prog W 0 (fun _ => true) true n 9 (([v0, v1, v2, v3, v4].drop 1).take (Tryz.prog.cellsOf 9)) = some y1 := hall 1 _ rfl
    have g2 : DataW.trod enc Tryz.prog W 0 (fun _ => true) true n 9 (([v0, v1, v2, v3, v4].drop 2).take (Tryz.prog.cellsOf 9)) = some y2 := hall 2 _ rfl
    have g3 : DataW.trod enc Tryz.prog W 0 (fun _ => true) true n 3 (([v0, v1, v2, v3, v4].drop 3).take (Tryz.prog.cellsOf 3)) = some y3 := hall 3 _ rfl
    have g4 : DataW.trod enc Tryz.prog W 0 (fun _ => true) true n 23 (([v0, v1, v2, v3, v4].drop 4).take (Tryz.prog.cellsOf 23)) = some y4 := hall 4 _ rfl
    rw [cellsI] at g0 g3
    rw [cellsT] at g1 g2
    rw [cellsS] at g4
    change DataW.trod _ _ _ _ _ _ n 3 [v0] = some y0 at g0
    change DataW.trod _ _ _ _ _ _ n 9 [v1] = some y1 at g1
    change DataW.trod _ _ _ _ _ _ n 9 [v2] = some y2 at g2
    change DataW.trod _ _ _ _ _ _ n 3 [v3] = some y3 at g3
    change DataW.trod _ _ _ _ _ _ n 23 [v4] = some y4 at g4
    obtain ⟨z0, e0, _, w0⟩ := DataW.trod_int Tryz.underlying3 g0
    obtain ⟨s1, e1, _, w1⟩ := DataW.trod_string Tryz.underlying9 g1
    obtain ⟨s2, e2, _, w2⟩ := DataW.trod_string Tryz.underlying9 g2
    obtain ⟨z3, e3, _, w3⟩ := DataW.trod_int Tryz.underlying3 g3
    obtain ⟨v, l, e4, hr⟩ := rd_of_trod g4
    simp only [List.cons.injEq, and_true] at e0 e1 e2 e3 e4
    subst e0 e1 e2 e3 e4
    have m1 : IntKind.i64.min = -9223372036854775808 := rfl
    have m2 : IntKind.i64.max = 9223372036854775807 := rfl
    simp [Lit.wf, m1, m2] at w0 w3
    unfold maxLen at w1 w2
    exact ⟨⟨z0, s1, s2, z3, l⟩, v4, rfl, ⟨w0.1, w0.2, w3.2, w1, w2⟩, hr⟩

theorem list_of {α : Type} {P : Nat → α → Prop} : ∀ (n : Nat), (∀ i, i < n → ∃ r, P i r) → ∃ l : List α, l.length = n ∧ ∀ i r, l[i]? = some r → P i r
  | 0, _ => ⟨[], rfl, fun i r h => by simp at h⟩
  | n + 1, h => by
    obtain ⟨l, hl, hp⟩ := list_of n (fun i hi => h i (Nat.lt_succ_of_lt hi))
    obtain ⟨r, hr⟩ := h n (Nat.lt_succ_self n)
    refine ⟨l ++ [r], by simp [hl], fun i x hx => ?_⟩
    rcases Nat.lt_or_ge i l.length with hi | hi
    · rw [List.getElem?_append_left hi] at hx
      exact hp i x hx
    · have hi' : i = n := by
        have := (List.getElem?_eq_some_iff.1 hx).1
        simp only [List.length_append, List.length_singleton] at this
        omega
      subst hi'
      rw [List.getElem?_append_right hi, ← hl] at hx
      simp at hx
      subst hx
      exact hr

set_option maxRecDepth 100000 in
/-- a slice of operations that came in -/
theorem ops_of_trod {H : Type} {enc : TypeId × Value → H} {W : World} {fuel : Nat} {cs : List Value} {x : DataW H × List MemPlace} (h : DataW.trod enc Tryz.prog W 0 (fun _ => true) true fuel 22 cs = some x) :
    ∃ v l, cs = [v] ∧ OpsAt W v l := by
  rcases open_slice Tryz.underlying22 h with ⟨rfl, _⟩ | ⟨a, len, cap, m, n, D, Pl, rfl, _, hl, hm, hmm, _, hi⟩
  · exact ⟨_, [], rfl, none, 0, rfl, by decide, fun i r h => by simp at h⟩
  · simp only [if_true] at hmm
    subst hmm
    unfold maxLen at hm
    obtain ⟨l, hll, hp⟩ := list_of (P := fun i r => ∃ g off bv, some a = some ⟨g, off, none⟩ ∧ g < W.heap.size ∧ OpCells W g (off + i * 5) r bv ∧ RawOk r ∧ RdB W W.heap.size bv r.b) len (fun i hil => by
      obtain ⟨cs', hc, ht⟩ := hi i (by omega)
      rw [cellsO] at hc
      obtain ⟨r, bv, rfl, hok, hrd⟩ := raw_of_trod ht
      obtain ⟨_, _, hat⟩ := World.cells?_some hc
      obtain ⟨g, off, spot⟩ := a
      have k0 := hat 0 (by decide)
      have k1 := hat 1 (by decide)
      have k2 := hat 2 (by decide)
      have k3 := hat 3 (by decide)
      have k4 := hat 4 (by decide)
      obtain ⟨cs0, hc0, ht0⟩ := hi 0 (by omega)
      rw [cellsO] at hc0
      obtain ⟨r0, bv0, rfl, _, _⟩ := raw_of_trod ht0
      have hspot : spot = none := by simpa [Addr.add] using World.cell?_spot ((World.cells?_some hc0).2.2 0 (by decide))
      subst hspot
      have hg : g < W.heap.size := by
        have := World.block_lt_of_cell? W _ k0
        rw [dk_add, dk_add] at this
        exact this
      rw [dk_add, dk_add] at k0 k1 k2 k3 k4
      exact ⟨r, g, off, bv, rfl, hg, ⟨k0, k1, k2, k3, k4⟩, hok, hrd⟩)
    exact ⟨_, l, rfl, some a, m, by rw [hll], by omega, hp⟩

end Go.Proofs.YtegahpgnmeobhaaGreatDoor
