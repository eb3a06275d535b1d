/-
  FROM THE ROW's LIST OF VARIABLES TO WHAT THE WALKS OF THE LEXER ASK OF THE WORLD.
-/
import Derived.Test.YtadhhknhfipihaaDoorLex4
import Derived.Test.YtadhhknhfipihaaDoorRows
import Derived.LaidMore
import Derived.LaidHandle
import Derived.Deep.SlicePairs
import Derived.ProofKit
namespace Go.Proofs.YtadhhknhfipihaaDoor
open Go.ChangeShapes Go.WideShapes Go.ChangeAt Go.RowKit

theorem lx_gKinds : Tryd.prog.globalNamed "giro/lexer.kinds" = some 0 := by kernel_rfl
theorem lx_tKinds : (Tryd.prog.globals[0]?).map (·.type) = some 42 := by kernel_rfl
theorem lx_cellsKind : Tryd.prog.cellsOf 44 = 2 := by kernel_rfl

theorem lx_add (g o j : Nat) : (⟨g, o, none⟩ : Addr).add j = ⟨g, o + j, none⟩ := by
  unfold Addr.add
  split
  · rename_i h; simp_all
  · rfl

theorem lx_env_of_laid {l : List (String × DataW Unit)} {W : World} (h : laidMetH Tryd.prog l W) (hm : ("giro/lexer.kinds", (Rows.laid_giro_lexer_kinds : DataW Unit)) ∈ l)
    (m : Int) (hml : W.cell? ⟨2, 0, none⟩ = some (.int .i64 m)) : ∃ kb ko kc, LxEnv m kb ko kc W := by
  obtain ⟨g, t, cs, fuel, p, hg, ht, hv, hd⟩ := h.funcs hm
  obtain rfl := Option.some.inj (lx_gKinds.symm.trans hg)
  obtain rfl := Option.some.inj (lx_tKinds.symm.trans ht)
  have hd' : DataW.trod (funcToken Tryd.prog) Tryd.prog W 0 (fun _ => true) true fuel 42 cs.toList = some (.slice [.agg [.lit (.int .i64 4), .held [103, 105, 114, 111, 47, 108, 101, 120, 101, 114, 46, 100, 97, 116, 101]], .agg [.lit (.int .i64 2), .held [103, 105, 114, 111, 47, 108, 101, 120, 101, 114, 46, 107, 105, 110, 100, 115, 36, 49]], .agg [.lit (.int .i64 3), .held [103, 105, 114, 111, 47, 108, 101, 120, 101, 114, 46, 100, 101, 99, 105, 109, 97, 108]], .agg [.lit (.int .i64 1), .held [103, 105, 114, 111, 47, 108, 101, 120, 101, 114, 46, 107, 105, 110, 100, 115, 36, 50]], .agg [.lit (.int .i64 0), .held [103, 105, 114, 111, 47, 108, 101, 120, 101, 114, 46, 107, 105, 110, 100, 115, 36, 51]]] [], p) := hd
  rcases Go.Deep.open_slice_pairs Tryd.underlying42 Tryd.underlying44 lx_cellsKind rfl rfl (by kernel_rfl) (by kernel_rfl) hd' with ⟨_, hx⟩ | ⟨a, len, cap, mm, n, V0, V1, D0, D1, P0, P1, hcs, _, hlc, _, hmm, hx, hel⟩
  · simp at hx
  simp only [Prod.mk.injEq, DataW.slice.injEq] at hx
  obtain ⟨⟨hL, _⟩, _⟩ := hx
  have hlen : len = 5 := by have := congrArg List.length hL; simpa using this.symm
  subst hlen
  have hm5 : 5 ≤ mm := by rw [hmm]; split <;> omega
  obtain ⟨a0, b0, c0, d0⟩ := hel 0 (by omega)
  have e0 := congrArg (fun l => l[0]?) hL
  simp [List.range_succ] at e0
  rw [← e0.1] at c0
  rw [← e0.2] at d0
  obtain ⟨n0, hn0, hl0, _⟩ := DataW.trod_int Tryd.underlying3 c0
  simp only [Prod.mk.injEq, DataW.lit.injEq, Lit.int.injEq, true_and] at hl0
  obtain rfl := hl0.1
  have hf0 := func_of_trod (f0 := 108) Tryd.underlying25 (by kernel_rfl) d0
  simp only [List.cons.injEq, and_true] at hn0
  rw [hn0] at a0
  rw [hf0] at b0
  obtain ⟨a1, b1, c1, d1⟩ := hel 1 (by omega)
  have e1 := congrArg (fun l => l[1]?) hL
  simp [List.range_succ] at e1
  rw [← e1.1] at c1
  rw [← e1.2] at d1
  obtain ⟨n1, hn1, hl1, _⟩ := DataW.trod_int Tryd.underlying3 c1
  simp only [Prod.mk.injEq, DataW.lit.injEq, Lit.int.injEq, true_and] at hl1
  obtain rfl := hl1.1
  have hf1 := func_of_trod (f0 := 109) Tryd.underlying25 (by kernel_rfl) d1
  simp only [List.cons.injEq, and_true] at hn1
  rw [hn1] at a1
  rw [hf1] at b1
  obtain ⟨a2, b2, c2, d2⟩ := hel 2 (by omega)
  have e2 := congrArg (fun l => l[2]?) hL
  simp [List.range_succ] at e2
  rw [← e2.1] at c2
  rw [← e2.2] at d2
  obtain ⟨n2, hn2, hl2, _⟩ := DataW.trod_int Tryd.underlying3 c2
  simp only [Prod.mk.injEq, DataW.lit.injEq, Lit.int.injEq, true_and] at hl2
  obtain rfl := hl2.1
  have hf2 := func_of_trod (f0 := 111) Tryd.underlying25 (by kernel_rfl) d2
  simp only [List.cons.injEq, and_true] at hn2
  rw [hn2] at a2
  rw [hf2] at b2
  obtain ⟨a3, b3, c3, d3⟩ := hel 3 (by omega)
  have e3 := congrArg (fun l => l[3]?) hL
  simp [List.range_succ] at e3
  rw [← e3.1] at c3
  rw [← e3.2] at d3
  obtain ⟨n3, hn3, hl3, _⟩ := DataW.trod_int Tryd.underlying3 c3
  simp only [Prod.mk.injEq, DataW.lit.injEq, Lit.int.injEq, true_and] at hl3
  obtain rfl := hl3.1
  have hf3 := func_of_trod (f0 := 112) Tryd.underlying25 (by kernel_rfl) d3
  simp only [List.cons.injEq, and_true] at hn3
  rw [hn3] at a3
  rw [hf3] at b3
  obtain ⟨a4, b4, c4, d4⟩ := hel 4 (by omega)
  have e4 := congrArg (fun l => l[4]?) hL
  simp [List.range_succ] at e4
  rw [← e4.1] at c4
  rw [← e4.2] at d4
  obtain ⟨n4, hn4, hl4, _⟩ := DataW.trod_int Tryd.underlying3 c4
  simp only [Prod.mk.injEq, DataW.lit.injEq, Lit.int.injEq, true_and] at hl4
  obtain rfl := hl4.1
  have hf4 := func_of_trod (f0 := 115) Tryd.underlying25 (by kernel_rfl) d4
  simp only [List.cons.injEq, and_true] at hn4
  rw [hn4] at a4
  rw [hf4] at b4
  obtain ⟨b, off, spot⟩ := a
  have hspot : spot = none := by simpa [Addr.add] using World.cell?_spot a0
  subst hspot
  simp only [lx_add] at a0 b0 a1 b1 a2 b2 a3 b3 a4 b4
  have hvar := World.var?_cell hg hv 0
  rw [Array.eq_one_of_toList hcs] at hvar
  exact ⟨b, off, cap, ⟨hml, by simpa using hvar, a0, b0, a1, b1, a2, b2, a3, b3, a4, b4⟩⟩

end Go.Proofs.YtadhhknhfipihaaDoor
