/-
  FROM THE ROW's LIST OF VARIABLES TO WHAT THE WALKS OF THE LEXER ASK OF THE WORLD.
  FROM THE ROW's LIST OF VARIABLES TO THE TABLE OF KINDS OF IDENTIFIERS AND TO strconv's ERRORS.
  THE TABLE OF KINDS OF IDENTIFIERS, AS THE ROW's LIST LAYS IT.
  FROM THE ROW's LIST OF VARIABLES TO WHAT THE PARSER ASKS OF THE WORLD.
-/
import Derived.Test.YthijakidnkhbnaaGreatDoorLexWalk
import Derived.Test.YthijakidnkhbnaaGreatDoorRows
import Derived.LaidMore
import Derived.LaidHandle
import Derived.Deep.SlicePairs
import Derived.ProofKit
import Derived.Test.YthijakidnkhbnaaGreatDoorIdWalk
import Derived.Lib.LaidU8
import Derived.OpenShut
import Derived.Test.YthijakidnkhbnaaGreatDoorPsParse

namespace Go.Proofs.YthijakidnkhbnaaGreatDoor
open Go.ChangeShapes Go.WideShapes Go.ChangeAt Go.RowKit

theorem lx_gKinds : Tryz.prog.globalNamed "giro/lexer.kinds" = some 0 := by kernel_rfl
theorem lx_tKinds : (Tryz.prog.globals[0]?).map (·.type) = some 123 := by kernel_rfl
theorem lx_cellsKind : Tryz.prog.cellsOf 125 = 2 := by kernel_rfl

theorem lx_add (g o j : Nat) : (⟨g, o, none⟩ : Addr).add j = ⟨g, o + j, none⟩ := by
  unfold Addr.add
  split
  · rename_i h; simp_all
  · rfl

theorem lx_env_of_laid {l : List (String × DataW Unit)} {W : World} (h : laidMetH Tryz.prog l W) (hm : ("giro/lexer.kinds", (Rows.laid_giro_lexer_kinds : DataW Unit)) ∈ l)
    (m : Int) (hml : W.cell? ⟨2, 0, none⟩ = some (.int .i64 m)) : ∃ kb ko kc, LxEnv m kb ko kc W := by
  obtain ⟨g, t, cs, fuel, p, hg, ht, hv, hd⟩ := h.funcs hm
  obtain rfl := Option.some.inj (lx_gKinds.symm.trans hg)
  obtain rfl := Option.some.inj (lx_tKinds.symm.trans ht)
  have hd' : DataW.trod (funcToken Tryz.prog) Tryz.prog W 0 (fun _ => true) true fuel 123 cs.toList = some (.slice [.agg [.lit (.int .i64 4), .held [103, 105, 114, 111, 47, 108, 101, 120, 101, 114, 46, 100, 97, 116, 101]], .agg [.lit (.int .i64 2), .held [103, 105, 114, 111, 47, 108, 101, 120, 101, 114, 46, 107, 105, 110, 100, 115, 36, 49]], .agg [.lit (.int .i64 3), .held [103, 105, 114, 111, 47, 108, 101, 120, 101, 114, 46, 100, 101, 99, 105, 109, 97, 108]], .agg [.lit (.int .i64 1), .held [103, 105, 114, 111, 47, 108, 101, 120, 101, 114, 46, 107, 105, 110, 100, 115, 36, 50]], .agg [.lit (.int .i64 0), .held [103, 105, 114, 111, 47, 108, 101, 120, 101, 114, 46, 107, 105, 110, 100, 115, 36, 51]]] [], p) := hd
  rcases Go.Deep.open_slice_pairs Tryz.underlying123 Tryz.underlying125 lx_cellsKind rfl rfl (by kernel_rfl) (by kernel_rfl) hd' with ⟨_, hx⟩ | ⟨a, len, cap, mm, n, V0, V1, D0, D1, P0, P1, hcs, _, hlc, _, hmm, hx, hel⟩
  · simp at hx
  simp only [Prod.mk.injEq, DataW.slice.injEq] at hx
  obtain ⟨⟨hL, _⟩, _⟩ := hx
  have hlen : len = 5 := by have := congrArg List.length hL; simpa using this.symm
  subst hlen
  have hm5 : 5 ≤ mm := by rw [hmm]; split <;> omega
  obtain ⟨a0, b0, c0, d0⟩ := hel 0 (by omega)
  have e0 := congrArg (fun l => l[0]?) hL
  simp [List.range_succ] at e0
  rw [← e0.1] at c0
  rw [← e0.2] at d0
  obtain ⟨n0, hn0, hl0, _⟩ := DataW.trod_int Tryz.underlying3 c0
  simp only [Prod.mk.injEq, DataW.lit.injEq, Lit.int.injEq, true_and] at hl0
  obtain rfl := hl0.1
  have hf0 := func_of_trod (f0 := 241) Tryz.underlying43 (by kernel_rfl) d0
  simp only [List.cons.injEq, and_true] at hn0
  rw [hn0] at a0
  rw [hf0] at b0
  obtain ⟨a1, b1, c1, d1⟩ := hel 1 (by omega)
  have e1 := congrArg (fun l => l[1]?) hL
  simp [List.range_succ] at e1
  rw [← e1.1] at c1
  rw [← e1.2] at d1
  obtain ⟨n1, hn1, hl1, _⟩ := DataW.trod_int Tryz.underlying3 c1
  simp only [Prod.mk.injEq, DataW.lit.injEq, Lit.int.injEq, true_and] at hl1
  obtain rfl := hl1.1
  have hf1 := func_of_trod (f0 := 242) Tryz.underlying43 (by kernel_rfl) d1
  simp only [List.cons.injEq, and_true] at hn1
  rw [hn1] at a1
  rw [hf1] at b1
  obtain ⟨a2, b2, c2, d2⟩ := hel 2 (by omega)
  have e2 := congrArg (fun l => l[2]?) hL
  simp [List.range_succ] at e2
  rw [← e2.1] at c2
  rw [← e2.2] at d2
  obtain ⟨n2, hn2, hl2, _⟩ := DataW.trod_int Tryz.underlying3 c2
  simp only [Prod.mk.injEq, DataW.lit.injEq, Lit.int.injEq, true_and] at hl2
  obtain rfl := hl2.1
  have hf2 := func_of_trod (f0 := 244) Tryz.underlying43 (by kernel_rfl) d2
  simp only [List.cons.injEq, and_true] at hn2
  rw [hn2] at a2
  rw [hf2] at b2
  obtain ⟨a3, b3, c3, d3⟩ := hel 3 (by omega)
  have e3 := congrArg (fun l => l[3]?) hL
  simp [List.range_succ] at e3
  rw [← e3.1] at c3
  rw [← e3.2] at d3
  obtain ⟨n3, hn3, hl3, _⟩ := DataW.trod_int Tryz.underlying3 c3
  simp only [Prod.mk.injEq, DataW.lit.injEq, Lit.int.injEq, true_and] at hl3
  obtain rfl := hl3.1
  have hf3 := func_of_trod (f0 := 245) Tryz.underlying43 (by kernel_rfl) d3
  simp only [List.cons.injEq, and_true] at hn3
  rw [hn3] at a3
  rw [hf3] at b3
  obtain ⟨a4, b4, c4, d4⟩ := hel 4 (by omega)
  have e4 := congrArg (fun l => l[4]?) hL
  simp [List.range_succ] at e4
  rw [← e4.1] at c4
  rw [← e4.2] at d4
  obtain ⟨n4, hn4, hl4, _⟩ := DataW.trod_int Tryz.underlying3 c4
  simp only [Prod.mk.injEq, DataW.lit.injEq, Lit.int.injEq, true_and] at hl4
  obtain rfl := hl4.1
  have hf4 := func_of_trod (f0 := 248) Tryz.underlying43 (by kernel_rfl) d4
  simp only [List.cons.injEq, and_true] at hn4
  rw [hn4] at a4
  rw [hf4] at b4
  obtain ⟨b, off, spot⟩ := a
  have hspot : spot = none := by simpa [Addr.add] using World.cell?_spot a0
  subst hspot
  simp only [lx_add] at a0 b0 a1 b1 a2 b2 a3 b3 a4 b4
  have hvar := World.var?_cell hg hv 0
  rw [Array.eq_one_of_toList hcs] at hvar
  exact ⟨b, off, cap, ⟨hml, by simpa using hvar, a0, b0, a1, b1, a2, b2, a3, b3, a4, b4⟩⟩

end Go.Proofs.YthijakidnkhbnaaGreatDoor

namespace Go.Proofs.YthijakidnkhbnaaGreatDoor
open Go.ChangeShapes Go.WideShapes Go.ChangeAt Go.RowKit

theorem ids_iface_of_trod {H : Type} {enc : TypeId × Value → H} {P : Program} {w : World} {base : Nat} {sp : Nat → Bool} {held : Bool} {fuel : Nat} {t : TypeId} {ms : Array (String × TypeId)} {cs : List Value} {nm : String} {d : DataW H} {p : List MemPlace}
    (ht : P.underlying t = some (.interface ms)) (h : DataW.trod enc P w base sp held fuel t cs = some (.iface nm d, p)) : ∃ te v, cs = [.iface te v] := by
  cases fuel with
  | zero => simp [DataW.trod] at h
  | succ n =>
    unfold DataW.trod at h
    rw [ht] at h
    split at h <;> simp_all

theorem ids_reads {P : Program} {l : List (String × DataW Unit)} {w : World} (h : laidMetH P l w) {n : String} {d : DataW Unit} (hx : (n, d) ∈ l) (hd : d.handleName?.isNone = true) : Lib.VarReads P w n d := by
  have hm : (n, d) ∈ l.filter fun x => x.2.handleName?.isNone := List.mem_filter.2 ⟨hx, hd⟩
  unfold laidMetH at h
  generalize (l.filter fun x => x.2.handleName?.isSome) = fl at h
  cases fl with
  | nil => exact Lib.laidMet.reads h hx
  | cons a tl => exact Lib.laidMet.reads h.1 hm

theorem ids_err {l : List (String × DataW Unit)} {W : World} (h : laidMetH Tryz.prog l W) {n : String} {g : Nat} {s : List UInt8} (hg : Tryz.prog.globalNamed n = some g) (ht : (Tryz.prog.globals[g]?).map (·.type) = some 201)
    (hx : (n, (.iface "*errors.errorString" (.ptr (.agg [.lit (.string s)])) : DataW Unit)) ∈ l) : ∃ te pe, W.cell? ⟨g, 0, none⟩ = some (.iface te pe) := by
  obtain ⟨g', t', cs, fuel, p, hg', ht', hv, hd⟩ := ids_reads h hx rfl
  obtain rfl := Option.some.inj (hg.symm.trans hg')
  obtain rfl := Option.some.inj (ht.symm.trans ht')
  obtain ⟨te, v, hcs⟩ := ids_iface_of_trod Tryz.underlying201 hd
  have hvar := World.var?_cell hg hv 0
  rw [Array.eq_one_of_toList hcs] at hvar
  exact ⟨te, v, by simpa using hvar⟩

theorem id_cellsSpan : Tryz.prog.cellsOf 193 = 2 := by kernel_rfl

/-- the name of a function is that of one function alone -/
def IdOne (f : Nat) (nm : UInt8 × List UInt8) : Prop := ((List.range Tryz.prog.funcs.size).filter fun g => (Tryz.prog.funcs[g]?).any (·.name.toUTF8.data.toList == nm.1 :: nm.2)) = [f]

theorem id_spans_open {W : World} {fuel : Nat} {cs : List Value} {p : List MemPlace} (rows : List (Nat × Nat × (UInt8 × List UInt8))) (hone : ∀ x ∈ rows, IdOne x.2.1 x.2.2) (hr : rows ≠ [])
    (h : DataW.trod (funcToken Tryz.prog) Tryz.prog W 0 (fun _ => true) true fuel 166 cs = some (.slice (rows.map fun x => .agg [.lit (.int .i64 x.1), .held (x.2.2.1 :: x.2.2.2)]) [], p)) :
    ∃ sb so sc, cs = [.slice (some ⟨sb, so, none⟩) rows.length sc] ∧ IdSpans W sb so (rows.map fun x => (x.1, x.2.1)) := by
  rcases Go.Deep.open_slice_pairs Tryz.underlying166 Tryz.underlying193 id_cellsSpan rfl rfl (by kernel_rfl) (by kernel_rfl) h with ⟨_, hx⟩ | ⟨a, len, cap, mm, n, V0, V1, D0, D1, P0, P1, hcs, _, hlc, _, hmm, hx, hel⟩
  · simp at hx
  simp only [Prod.mk.injEq, DataW.slice.injEq] at hx
  obtain ⟨⟨hL, _⟩, _⟩ := hx
  have hlen : len = rows.length := by have := congrArg List.length hL; simpa using this.symm
  subst hlen
  have hm5 : rows.length ≤ mm := by rw [hmm]; split <;> omega
  obtain ⟨b, off, spot⟩ := a
  have key : ∀ (j : Nat) (x : Nat × Nat × (UInt8 × List UInt8)), rows[j]? = some x → W.cell? ((⟨b, off, spot⟩ : Addr).add (j * 2)) = some (.int .i64 (x.1 : Int)) ∧ W.cell? ((⟨b, off, spot⟩ : Addr).add (j * 2 + 1)) = some (.func (.func x.2.1) #[] #[]) := by
    intro j x hj
    have hjl : j < rows.length := (List.getElem?_eq_some_iff.1 hj).1
    obtain ⟨a0, b0, c0, d0⟩ := hel j (by omega)
    have e0 := congrArg (fun l => l[j]?) hL
    simp only [List.getElem?_map, hj, Option.map_some, List.getElem?_range hjl, Option.some.injEq, DataW.agg.injEq, List.cons.injEq, and_true] at e0
    rw [← e0.1] at c0
    rw [← e0.2] at d0
    obtain ⟨n0, hn0, hl0, _⟩ := DataW.trod_int Tryz.underlying3 c0
    simp only [Prod.mk.injEq, DataW.lit.injEq, Lit.int.injEq, true_and] at hl0
    have hf0 := func_of_trod (f0 := x.2.1) Tryz.underlying191 (hone x (List.mem_iff_getElem?.2 ⟨j, hj⟩)) d0
    simp only [List.cons.injEq, and_true] at hn0
    rw [hn0, ← hl0.1] at a0
    rw [hf0] at b0
    exact ⟨a0, b0⟩
  obtain ⟨x, rest, rfl⟩ := List.exists_cons_of_ne_nil hr
  have hspot : spot = none := by simpa [Addr.add] using World.cell?_spot (key 0 x rfl).1
  subst hspot
  refine ⟨b, off, cap, hcs, fun j y hy => ?_⟩
  rw [List.getElem?_map, Option.map_eq_some_iff] at hy
  obtain ⟨z, hz, rfl⟩ := hy
  have := key j z hz
  rwa [lx_add, lx_add] at this

theorem id_ci : Tryz.prog.cellsOf 3 = 1 := by kernel_rfl
theorem id_cs : Tryz.prog.cellsOf 166 = 1 := by kernel_rfl
theorem id_cf : Tryz.prog.cellsOf 101 = 1 := by kernel_rfl
theorem id_ck : Tryz.prog.cellsOf 168 = 4 := by kernel_rfl

set_option maxRecDepth 100000 in
theorem id_row_open {W : World} {fuel : Nat} {cs : List Value} {p : List MemPlace} (low body : Int) (rows : List (Nat × Nat × (UInt8 × List UInt8))) (hone : ∀ x ∈ rows, IdOne x.2.1 x.2.2) (hr : rows ≠ []) (cd : DataW (List UInt8)) (chk : Value)
    (hchk : ∀ fuel v p, DataW.trod (funcToken Tryz.prog) Tryz.prog W 0 (fun _ => true) true fuel 101 [v] = some (cd, p) → v = chk)
    (h : DataW.trod (funcToken Tryz.prog) Tryz.prog W 0 (fun _ => true) true fuel 168 cs = some (.agg [.lit (.int .i64 low), .slice (rows.map fun x => .agg [.lit (.int .i64 x.1), .held (x.2.2.1 :: x.2.2.2)]) [], .lit (.int .i64 body), cd], p)) :
    ∃ sb so sc, cs = [.int .i64 low, .slice (some ⟨sb, so, none⟩) rows.length sc, .int .i64 body, chk] ∧ IdSpans W sb so (rows.map fun x => (x.1, x.2.1)) := by
  obtain ⟨xs, n, rfl, hx, hl, hxl, hall⟩ := DataW.trod_struct Tryz.underlying168 h
  rw [id_ck] at hl
  simp only [Prod.mk.injEq, DataW.agg.injEq] at hx
  obtain ⟨hx, _⟩ := hx
  match xs, hx, cs, hl with
  | [y0, y1, y2, y3], hx, [v0, v1, v2, v3], _ =>
    simp only [List.map_cons, List.map_nil, List.cons.injEq, and_true] at hx
    obtain ⟨h0, h1, h2, h3⟩ := hx
    have g0 : DataW.trod (funcToken Tryz.prog) Tryz.prog W 0 (fun _ => true) true n 3 (([v0, v1, v2, v3].drop 0).take (Tryz.prog.cellsOf 3)) = some y0 := hall 0 _ rfl
    rw [id_ci] at g0
    have g1 : DataW.trod (funcToken Tryz.prog) Tryz.prog W 0 (fun _ => true) true n 166 (([v0, v1, v2, v3].drop 1).take (Tryz.prog.cellsOf 166)) = some y1 := hall 1 _ rfl
    rw [id_cs] at g1
    have g2 : DataW.trod (funcToken Tryz.prog) Tryz.prog W 0 (fun _ => true) true n 3 (([v0, v1, v2, v3].drop 2).take (Tryz.prog.cellsOf 3)) = some y2 := hall 2 _ rfl
    rw [id_ci] at g2
    have g3 : DataW.trod (funcToken Tryz.prog) Tryz.prog W 0 (fun _ => true) true n 101 (([v0, v1, v2, v3].drop 3).take (Tryz.prog.cellsOf 101)) = some y3 := hall 3 _ rfl
    rw [id_cf] at g3
    change DataW.trod _ _ _ _ _ _ n 3 [v0] = some y0 at g0
    change DataW.trod _ _ _ _ _ _ n 166 [v1] = some y1 at g1
    change DataW.trod _ _ _ _ _ _ n 3 [v2] = some y2 at g2
    change DataW.trod _ _ _ _ _ _ n 101 [v3] = some y3 at g3
    obtain ⟨a0, b0⟩ := y0
    obtain ⟨a1, b1⟩ := y1
    obtain ⟨a2, b2⟩ := y2
    obtain ⟨a3, b3⟩ := y3
    simp only at h0 h1 h2 h3
    subst h0 h1 h2 h3
    obtain ⟨z0, e0, l0, _⟩ := DataW.trod_int Tryz.underlying3 g0
    obtain ⟨z2, e2, l2, _⟩ := DataW.trod_int Tryz.underlying3 g2
    simp only [Prod.mk.injEq, DataW.lit.injEq, Lit.int.injEq, true_and, List.cons.injEq, and_true] at l0 l2 e0 e2
    obtain ⟨sb, so, sc, e1, hsp⟩ := id_spans_open rows hone hr g1
    simp only [List.cons.injEq, and_true] at e1
    have e3 := hchk _ _ _ g3
    refine ⟨sb, so, sc, ?_, hsp⟩
    rw [e0, e1, e2, e3, ← l0.1, ← l2.1]

end Go.Proofs.YthijakidnkhbnaaGreatDoor

namespace Go.Proofs.YthijakidnkhbnaaGreatDoor
open Go.ChangeShapes Go.WideShapes Go.ChangeAt Go.RowKit

theorem id_gKinds : Tryz.prog.globalNamed "giro/ident.kinds" = some 1 := by kernel_rfl
theorem id_tKinds : (Tryz.prog.globals[1]?).map (·.type) = some 169 := by kernel_rfl

def idNmLetter : UInt8 × List UInt8 := (103, [105, 114, 111, 47, 105, 100, 101, 110, 116, 46, 108, 101, 116, 116, 101, 114])
def idNmAlnum : UInt8 × List UInt8 := (103, [105, 114, 111, 47, 105, 100, 101, 110, 116, 46, 97, 108, 112, 104, 97, 110, 117, 109, 101, 114, 105, 99])
def idNmDigit : UInt8 × List UInt8 := (103, [105, 114, 111, 47, 105, 100, 101, 110, 116, 46, 100, 105, 103, 105, 116])
def idNmRef : UInt8 × List UInt8 := (103, [105, 114, 111, 47, 105, 100, 101, 110, 116, 46, 114, 101, 102, 67, 104, 97, 114, 97, 99, 116, 101, 114])
theorem id_oneLetter : IdOne 256 idNmLetter := by unfold IdOne; kernel_rfl
theorem id_oneAlnum : IdOne 257 idNmAlnum := by unfold IdOne; kernel_rfl
theorem id_oneDigit : IdOne 258 idNmDigit := by unfold IdOne; kernel_rfl
theorem id_oneRef : IdOne 260 idNmRef := by unfold IdOne; kernel_rfl

def idRows (k : Nat) : List (Nat × Nat × (UInt8 × List UInt8)) :=
  if k = 0 then [(2, 256, idNmLetter), (9, 257, idNmAlnum), (1, 258, idNmDigit)]
  else if k = 1 then [(1, 256, idNmLetter), (7, 257, idNmAlnum)]
  else if k = 2 then [(16, 260, idNmRef)]
  else [(18, 257, idNmAlnum), (2, 258, idNmDigit)]
theorem idRows_one (k : Nat) : ∀ x ∈ idRows k, IdOne x.2.1 x.2.2 := by
  unfold idRows
  split
  · intro x hx; simp at hx; rcases hx with rfl | rfl | rfl
    · exact id_oneLetter
    · exact id_oneAlnum
    · exact id_oneDigit
  · split
    · intro x hx; simp at hx; rcases hx with rfl | rfl
      · exact id_oneLetter
      · exact id_oneAlnum
    · split
      · intro x hx; simp at hx; subst hx
        exact id_oneRef
      · intro x hx; simp at hx; rcases hx with rfl | rfl
        · exact id_oneAlnum
        · exact id_oneDigit
theorem idRows_ne (k : Nat) : idRows k ≠ [] := by
  unfold idRows
  split
  · simp
  · split
    · simp
    · split <;> simp
theorem idRows_sp (k : Nat) : (idRows k).map (fun x => (x.1, x.2.1)) = (idRow k).sp := by
  unfold idRows idRow
  split
  · rfl
  · split
    · rfl
    · split <;> rfl

theorem id_nil_of_trod {W : World} {fuel : Nat} {v : Value} {p : List MemPlace} (h : DataW.trod (funcToken Tryz.prog) Tryz.prog W 0 (fun _ => true) true fuel 101 [v] = some (.nil, p)) : v = .nilFunc := by
  cases fuel with
  | zero => simp [DataW.trod] at h
  | succ n =>
    unfold DataW.trod at h
    rw [id_fty] at h
    split at h <;> simp_all

theorem id_held {W : World} {g : Nat} {cs : Array Value} (hg : g = 1) (hcell : ∀ i, W.cell? ⟨g, i, none⟩ = cs[i]?) (k : Nat)
    (h : ∃ sb so sc, (cs.toList.drop (k * 4)).take 4 = [.int .i64 (idRow k).low, .slice (some ⟨sb, so, none⟩) (idRows k).length sc, .int .i64 (idRow k).body, (idRow k).chk] ∧ IdSpans W sb so ((idRows k).map fun x => (x.1, x.2.1))) :
    ∃ sb so sc, IdHeld W k sb so sc := by
  subst hg
  obtain ⟨sb, so, sc, hl, hsp⟩ := h
  have at' : ∀ j v, j < 4 → ((cs.toList.drop (k * 4)).take 4)[j]? = some v → W.cell? ⟨1, k * 4 + j, none⟩ = some v := fun j v hj hv => by
    rw [hcell, ← Array.getElem?_toList, ← List.getElem?_drop, ← hv, List.getElem?_take, if_pos hj]
  rw [idRows_sp] at hsp
  have hlen : (idRows k).length = (idRow k).sp.length := by rw [← idRows_sp, List.length_map]
  rw [hlen] at hl
  refine ⟨sb, so, sc, ⟨?_, ?_, ?_, ?_, hsp⟩⟩
  · exact at' 0 _ (by omega) (by rw [hl]; rfl)
  · exact at' 1 _ (by omega) (by rw [hl]; rfl)
  · exact at' 2 _ (by omega) (by rw [hl]; rfl)
  · exact at' 3 _ (by omega) (by rw [hl]; rfl)

def idDatumOf (k : Nat) (cd : DataW (List UInt8)) : DataW (List UInt8) :=
  .agg [.lit (.int .i64 (idRow k).low), .slice ((idRows k).map fun x => .agg [.lit (.int .i64 x.1), .held (x.2.2.1 :: x.2.2.2)]) [], .lit (.int .i64 (idRow k).body), cd]
def idCd (k : Nat) : DataW (List UInt8) :=
  if k = 0 then .held [103, 105, 114, 111, 47, 105, 100, 101, 110, 116, 46, 108, 117, 104, 110] else if k = 3 then .held [103, 105, 114, 111, 47, 105, 100, 101, 110, 116, 46, 109, 111, 100, 57, 55] else .nil

theorem id_cd_chk {W : World} (k : Nat) (hk : k < 4) (fuel : Nat) (v : Value) (p : List MemPlace) (h : DataW.trod (funcToken Tryz.prog) Tryz.prog W 0 (fun _ => true) true fuel 101 [v] = some (idCd k, p)) : v = (idRow k).chk := by
  match k, hk with
  | 0, _ => exact func_of_trod (f0 := 259) id_fty (by kernel_rfl) h
  | 1, _ => exact id_nil_of_trod h
  | 2, _ => exact id_nil_of_trod h
  | 3, _ => exact func_of_trod (f0 := 261) id_fty (by kernel_rfl) h

set_option maxRecDepth 100000 in
theorem id_env_of_laid {l : List (String × DataW Unit)} {W : World} (h : laidMetH Tryz.prog l W) (hm : ("giro/ident.kinds", (Rows.laid_giro_ident_kinds : DataW Unit)) ∈ l) : IdEnv W := by
  obtain ⟨g, t, cs, fuel, p, hg, ht, hv, hd⟩ := h.funcs hm
  obtain rfl := Option.some.inj (id_gKinds.symm.trans hg)
  obtain rfl := Option.some.inj (id_tKinds.symm.trans ht)
  have hd' : DataW.trod (funcToken Tryz.prog) Tryz.prog W 0 (fun _ => true) true fuel 169 cs.toList = some (.agg [idDatumOf 0 (idCd 0), idDatumOf 1 (idCd 1), idDatumOf 2 (idCd 2), idDatumOf 3 (idCd 3)], p) := hd
  obtain ⟨xs, m, _, hx, _, hxl, hall⟩ := DataW.trod_array Tryz.underlying169 hd'
  simp only [Prod.mk.injEq, DataW.agg.injEq] at hx
  obtain ⟨hx, _⟩ := hx
  intro k hk
  refine id_held rfl (World.var?_cell hg hv) k ?_
  have hrow := hall k hk
  rw [id_ck] at hrow
  have hxk : (xs.map (·.1))[k]? = some (idDatumOf k (idCd k)) := by
    rw [← hx]
    match k, hk with
    | 0, _ => rfl
    | 1, _ => rfl
    | 2, _ => rfl
    | 3, _ => rfl
  rw [List.getElem?_map, Option.map_eq_some_iff] at hxk
  obtain ⟨⟨d, q⟩, hq, hdq⟩ := hxk
  simp only at hdq
  subst hdq
  rw [hq] at hrow
  exact id_row_open _ _ (idRows k) (idRows_one k) (idRows_ne k) (idCd k) (idRow k).chk (fun fuel v p => id_cd_chk k hk fuel v p) hrow

end Go.Proofs.YthijakidnkhbnaaGreatDoor

namespace Go.Proofs.YthijakidnkhbnaaGreatDoor
open Go.ChangeShapes Go.WideShapes Go.ChangeAt Go.RowKit

theorem pr_gNames : Tryz.prog.globalNamed "giro/message.priorityNames" = some 3 := by kernel_rfl
theorem pr_tNames : (Tryz.prog.globals[3]?).map (·.type) = some 207 := by kernel_rfl
theorem pr_c1 : Tryz.prog.cellsOf 9 = 1 := by kernel_rfl
theorem pr_gRange : Tryz.prog.globalNamed "strconv.ErrRange" = some 7 := by kernel_rfl
theorem pr_tRange : (Tryz.prog.globals[7]?).map (·.type) = some 201 := by kernel_rfl
theorem pr_gSyntax : Tryz.prog.globalNamed "strconv.ErrSyntax" = some 6 := by kernel_rfl
theorem pr_tSyntax : (Tryz.prog.globals[6]?).map (·.type) = some 201 := by kernel_rfl

theorem pr_env_of_laid {l : List (String × DataW Unit)} {W : World} (h : laidMetH Tryz.prog l W) (hx : ("giro/message.priorityNames", (Rows.laid_giro_message_priorityNames : DataW Unit)) ∈ l) : PrEnv W := by
  obtain ⟨g', t', cs, fuel, p, hg', ht', hv, hd⟩ := ids_reads h hx rfl
  obtain rfl := Option.some.inj (pr_gNames.symm.trans hg')
  obtain rfl := Option.some.inj (pr_tNames.symm.trans ht')
  have hd' : DataW.trod _ Tryz.prog W 0 (fun _ => true) false fuel 207 cs.toList = some (.agg [.lit (.string [110, 111, 114, 109, 97, 108]), .lit (.string [104, 105, 103, 104]), .lit (.string [117, 114, 103, 101, 110, 116])], p) := hd
  obtain ⟨xs, m, _, hx, _, hxl, hall⟩ := DataW.trod_array Tryz.underlying207 hd'
  simp only [Prod.mk.injEq, DataW.agg.injEq] at hx
  obtain ⟨hx, _⟩ := hx
  intro j s hj
  have hj3 : j < 3 := by have := (List.getElem?_eq_some_iff.1 hj).1; simpa [prN] using this
  have hrow := hall j hj3
  rw [pr_c1, Nat.mul_one] at hrow
  have hxk : (xs.map (·.1))[j]? = some (.lit (.string s.data.toList)) := by
    rw [← hx]
    match j, hj3, hj with
    | 0, _, hj => cases hj; rfl
    | 1, _, hj => cases hj; rfl
    | 2, _, hj => cases hj; rfl
  rw [List.getElem?_map, Option.map_eq_some_iff] at hxk
  obtain ⟨⟨d, q⟩, hq, hdq⟩ := hxk
  simp only at hdq
  subst hdq
  rw [hq] at hrow
  obtain ⟨s', hs', hx', _⟩ := DataW.trod_string Tryz.underlying9 hrow
  simp only [Prod.mk.injEq, DataW.lit.injEq, Lit.string.injEq] at hx'
  have hss : s = s' := by
    have := hx'.1
    obtain ⟨⟨a⟩⟩ := s
    obtain ⟨⟨b⟩⟩ := s'
    have : a = b := this
    rw [this]
  subst hss
  rw [World.var?_cell hg' hv, ← Array.getElem?_toList]
  have : ((cs.toList.drop j).take 1)[0]? = some (.string s) := by rw [hs']; rfl
  rw [List.getElem?_take, if_pos (by omega), List.getElem?_drop, Nat.add_zero] at this
  exact this

theorem pr_below {W w : World} (h : PrEnv W) (hb : Below W.heap.size W w) : PrEnv w := fun j s hj =>
  (hb.cell (World.block_lt_of_cell? W _ (h j s hj))).trans (h j s hj)

/-- all that the parser asks -/
theorem pv_env_of_laid {l : List (String × DataW Unit)} {W : World} (h : laidMetH Tryz.prog l W) (h1 : ("giro/lexer.kinds", (Rows.laid_giro_lexer_kinds : DataW Unit)) ∈ l) (h2 : ("giro/ident.kinds", (Rows.laid_giro_ident_kinds : DataW Unit)) ∈ l) (h3 : ("giro/message.priorityNames", (Rows.laid_giro_message_priorityNames : DataW Unit)) ∈ l)
    (h4 : ("strconv.ErrRange", (Rows.laid_strconv_ErrRange : DataW Unit)) ∈ l) (h5 : ("strconv.ErrSyntax", (Rows.laid_strconv_ErrSyntax : DataW Unit)) ∈ l) (m : Int) (hml : W.cell? ⟨2, 0, none⟩ = some (.int .i64 m)) : ∃ kb ko kc, PvEnv m kb ko kc W := by
  obtain ⟨kb, ko, kc, hl⟩ := lx_env_of_laid h h1 m hml
  exact ⟨kb, ko, kc, hl, fun w hw => (id_env_of_laid h h2).below hw, fun w hw => pr_below (pr_env_of_laid h h3) hw, hml, ids_err h pr_gRange pr_tRange h4, ids_err h pr_gSyntax pr_tSyntax h5⟩
end Go.Proofs.YthijakidnkhbnaaGreatDoor
