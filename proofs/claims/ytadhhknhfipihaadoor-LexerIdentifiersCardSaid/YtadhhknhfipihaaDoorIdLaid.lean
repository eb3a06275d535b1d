/-
  FROM THE ROW's LIST OF VARIABLES TO THE TABLE OF KINDS OF IDENTIFIERS AND TO strconv's ERRORS.
-/
import Derived.Test.YtadhhknhfipihaaDoorLawIds
import Derived.Test.YtadhhknhfipihaaDoorLexLaid
import Derived.Lib.LaidU8
import Derived.OpenShut
namespace Go.Proofs.YtadhhknhfipihaaDoor
open Go.ChangeShapes Go.WideShapes Go.ChangeAt Go.RowKit

theorem ids_iface_of_trod {H : Type} {enc : TypeId × Value → H} {P : Program} {w : World} {base : Nat} {sp : Nat → Bool} {held : Bool} {fuel : Nat} {t : TypeId} {ms : Array (String × TypeId)} {cs : List Value} {nm : String} {d : DataW H} {p : List MemPlace}
    (ht : P.underlying t = some (.interface ms)) (h : DataW.trod enc P w base sp held fuel t cs = some (.iface nm d, p)) : ∃ te v, cs = [.iface te v] := by
  cases fuel with
  | zero => simp [DataW.trod] at h
  | succ n =>
    unfold DataW.trod at h
    rw [ht] at h
    split at h <;> simp_all

theorem ids_reads {P : Program} {l : List (String × DataW Unit)} {w : World} (h : laidMetH P l w) {n : String} {d : DataW Unit} (hx : (n, d) ∈ l) (hd : d.handleName?.isNone = true) : Lib.VarReads P w n d := by
  have hm : (n, d) ∈ l.filter fun x => x.2.handleName?.isNone := List.mem_filter.2 ⟨hx, hd⟩
  unfold laidMetH at h
  generalize (l.filter fun x => x.2.handleName?.isSome) = fl at h
  cases fl with
  | nil => exact Lib.laidMet.reads h hx
  | cons a tl => exact Lib.laidMet.reads h.1 hm

theorem ids_err {l : List (String × DataW Unit)} {W : World} (h : laidMetH Tryd.prog l W) {n : String} {g : Nat} {s : List UInt8} (hg : Tryd.prog.globalNamed n = some g) (ht : (Tryd.prog.globals[g]?).map (·.type) = some 51)
    (hx : (n, (.iface "*errors.errorString" (.ptr (.agg [.lit (.string s)])) : DataW Unit)) ∈ l) : ∃ te pe, W.cell? ⟨g, 0, none⟩ = some (.iface te pe) := by
  obtain ⟨g', t', cs, fuel, p, hg', ht', hv, hd⟩ := ids_reads h hx rfl
  obtain rfl := Option.some.inj (hg.symm.trans hg')
  obtain rfl := Option.some.inj (ht.symm.trans ht')
  obtain ⟨te, v, hcs⟩ := ids_iface_of_trod Tryd.underlying51 hd
  have hvar := World.var?_cell hg hv 0
  rw [Array.eq_one_of_toList hcs] at hvar
  exact ⟨te, v, by simpa using hvar⟩

theorem id_cellsSpan : Tryd.prog.cellsOf 83 = 2 := by kernel_rfl

/-- the name of a function is that of one function alone -/
def IdOne (f : Nat) (nm : UInt8 × List UInt8) : Prop := ((List.range Tryd.prog.funcs.size).filter fun g => (Tryd.prog.funcs[g]?).any (·.name.toUTF8.data.toList == nm.1 :: nm.2)) = [f]

theorem id_spans_open {W : World} {fuel : Nat} {cs : List Value} {p : List MemPlace} (rows : List (Nat × Nat × (UInt8 × List UInt8))) (hone : ∀ x ∈ rows, IdOne x.2.1 x.2.2) (hr : rows ≠ [])
    (h : DataW.trod (funcToken Tryd.prog) Tryd.prog W 0 (fun _ => true) true fuel 65 cs = some (.slice (rows.map fun x => .agg [.lit (.int .i64 x.1), .held (x.2.2.1 :: x.2.2.2)]) [], p)) :
    ∃ sb so sc, cs = [.slice (some ⟨sb, so, none⟩) rows.length sc] ∧ IdSpans W sb so (rows.map fun x => (x.1, x.2.1)) := by
  rcases Go.Deep.open_slice_pairs Tryd.underlying65 Tryd.underlying83 id_cellsSpan rfl rfl (by kernel_rfl) (by kernel_rfl) h with ⟨_, hx⟩ | ⟨a, len, cap, mm, n, V0, V1, D0, D1, P0, P1, hcs, _, hlc, _, hmm, hx, hel⟩
  · simp at hx
  simp only [Prod.mk.injEq, DataW.slice.injEq] at hx
  obtain ⟨⟨hL, _⟩, _⟩ := hx
  have hlen : len = rows.length := by have := congrArg List.length hL; simpa using this.symm
  subst hlen
  have hm5 : rows.length ≤ mm := by rw [hmm]; split <;> omega
  obtain ⟨b, off, spot⟩ := a
  have key : ∀ (j : Nat) (x : Nat × Nat × (UInt8 × List UInt8)), rows[j]? = some x → W.cell? ((⟨b, off, spot⟩ : Addr).add (j * 2)) = some (.int .i64 (x.1 : Int)) ∧ W.cell? ((⟨b, off, spot⟩ : Addr).add (j * 2 + 1)) = some (.func (.func x.2.1) #[] #[]) := by
    intro j x hj
    have hjl : j < rows.length := (List.getElem?_eq_some_iff.1 hj).1
    obtain ⟨a0, b0, c0, d0⟩ := hel j (by omega)
    have e0 := congrArg (fun l => l[j]?) hL
    simp only [List.getElem?_map, hj, Option.map_some, List.getElem?_range hjl, Option.some.injEq, DataW.agg.injEq, List.cons.injEq, and_true] at e0
    rw [← e0.1] at c0
    rw [← e0.2] at d0
    obtain ⟨n0, hn0, hl0, _⟩ := DataW.trod_int Tryd.underlying3 c0
    simp only [Prod.mk.injEq, DataW.lit.injEq, Lit.int.injEq, true_and] at hl0
    have hf0 := func_of_trod (f0 := x.2.1) Tryd.underlying81 (hone x (List.mem_iff_getElem?.2 ⟨j, hj⟩)) d0
    simp only [List.cons.injEq, and_true] at hn0
    rw [hn0, ← hl0.1] at a0
    rw [hf0] at b0
    exact ⟨a0, b0⟩
  obtain ⟨x, rest, rfl⟩ := List.exists_cons_of_ne_nil hr
  have hspot : spot = none := by simpa [Addr.add] using World.cell?_spot (key 0 x rfl).1
  subst hspot
  refine ⟨b, off, cap, hcs, fun j y hy => ?_⟩
  rw [List.getElem?_map, Option.map_eq_some_iff] at hy
  obtain ⟨z, hz, rfl⟩ := hy
  have := key j z hz
  rwa [lx_add, lx_add] at this

theorem id_ci : Tryd.prog.cellsOf 3 = 1 := by kernel_rfl
theorem id_cs : Tryd.prog.cellsOf 65 = 1 := by kernel_rfl
theorem id_cf : Tryd.prog.cellsOf 34 = 1 := by kernel_rfl
theorem id_ck : Tryd.prog.cellsOf 67 = 4 := by kernel_rfl

set_option maxRecDepth 100000 in
theorem id_row_open {W : World} {fuel : Nat} {cs : List Value} {p : List MemPlace} (low body : Int) (rows : List (Nat × Nat × (UInt8 × List UInt8))) (hone : ∀ x ∈ rows, IdOne x.2.1 x.2.2) (hr : rows ≠ []) (cd : DataW (List UInt8)) (chk : Value)
    (hchk : ∀ fuel v p, DataW.trod (funcToken Tryd.prog) Tryd.prog W 0 (fun _ => true) true fuel 34 [v] = some (cd, p) → v = chk)
    (h : DataW.trod (funcToken Tryd.prog) Tryd.prog W 0 (fun _ => true) true fuel 67 cs = some (.agg [.lit (.int .i64 low), .slice (rows.map fun x => .agg [.lit (.int .i64 x.1), .held (x.2.2.1 :: x.2.2.2)]) [], .lit (.int .i64 body), cd], p)) :
    ∃ sb so sc, cs = [.int .i64 low, .slice (some ⟨sb, so, none⟩) rows.length sc, .int .i64 body, chk] ∧ IdSpans W sb so (rows.map fun x => (x.1, x.2.1)) := by
  obtain ⟨xs, n, rfl, hx, hl, hxl, hall⟩ := DataW.trod_struct Tryd.underlying67 h
  rw [id_ck] at hl
  simp only [Prod.mk.injEq, DataW.agg.injEq] at hx
  obtain ⟨hx, _⟩ := hx
  match xs, hx, cs, hl with
  | [y0, y1, y2, y3], hx, [v0, v1, v2, v3], _ =>
    simp only [List.map_cons, List.map_nil, List.cons.injEq, and_true] at hx
    obtain ⟨h0, h1, h2, h3⟩ := hx
    have g0 : DataW.trod (funcToken Tryd.prog) Tryd.prog W 0 (fun _ => true) true n 3 (([v0, v1, v2, v3].drop 0).take (Tryd.prog.cellsOf 3)) = some y0 := hall 0 _ rfl
    rw [id_ci] at g0
    have g1 : DataW.trod (funcToken Tryd.prog) Tryd.prog W 0 (fun _ => true) true n 65 (([v0, v1, v2, v3].drop 1).take (Tryd.prog.cellsOf 65)) = some y1 := hall 1 _ rfl
    rw [id_cs] at g1
    have g2 : DataW.trod (funcToken Tryd.prog) Tryd.prog W 0 (fun _ => true) true n 3 (([v0, v1, v2, v3].drop 2).take (Tryd.prog.cellsOf 3)) = some y2 := hall 2 _ rfl
    rw [id_ci] at g2
    have g3 : DataW.trod (funcToken Tryd.prog) Tryd.prog W 0 (fun _ => true) true n 34 (([v0, v1, v2, v3].drop 3).take (Tryd.prog.cellsOf 34)) = some y3 := hall 3 _ rfl
    rw [id_cf] at g3
    change DataW.trod _ _ _ _ _ _ n 3 [v0] = some y0 at g0
    change DataW.trod _ _ _ _ _ _ n 65 [v1] = some y1 at g1
    change DataW.trod _ _ _ _ _ _ n 3 [v2] = some y2 at g2
    change DataW.trod _ _ _ _ _ _ n 34 [v3] = some y3 at g3
    obtain ⟨a0, b0⟩ := y0
    obtain ⟨a1, b1⟩ := y1
    obtain ⟨a2, b2⟩ := y2
    obtain ⟨a3, b3⟩ := y3
    simp only at h0 h1 h2 h3
    subst h0 h1 h2 h3
    obtain ⟨z0, e0, l0, _⟩ := DataW.trod_int Tryd.underlying3 g0
    obtain ⟨z2, e2, l2, _⟩ := DataW.trod_int Tryd.underlying3 g2
    simp only [Prod.mk.injEq, DataW.lit.injEq, Lit.int.injEq, true_and, List.cons.injEq, and_true] at l0 l2 e0 e2
    obtain ⟨sb, so, sc, e1, hsp⟩ := id_spans_open rows hone hr g1
    simp only [List.cons.injEq, and_true] at e1
    have e3 := hchk _ _ _ g3
    refine ⟨sb, so, sc, ?_, hsp⟩
    rw [e0, e1, e2, e3, ← l0.1, ← l2.1]

end Go.Proofs.YtadhhknhfipihaaDoor
