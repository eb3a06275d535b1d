/-
  FROM THE ROW's LIST OF VARIABLES TO strconv's TABLE OF POWERS.
-/
import Derived.Test.YtamencnachmhoaaGreatDoorRows
import Derived.Test.YtamencnachmhoaaGreatDoorDkHeap
import Derived.Lib.LaidU8
import Derived.Lib.LaidTab
import Derived.Lib.ItoaNum
import Derived.Below
import Derived.OpenShut
namespace Go.Proofs.YtamencnachmhoaaGreatDoor
open Go.ChangeShapes Go.WideShapes Go.RowKit

theorem tb_reads {P : Program} {l : List (String × DataW Unit)} {w : World} (h : laidMetH P l w) {n : String} {d : DataW Unit} (hx : (n, d) ∈ l) (hd : d.handleName?.isNone = true) : Lib.VarReads P w n d := by
  have hm : (n, d) ∈ l.filter fun x => x.2.handleName?.isNone := List.mem_filter.2 ⟨hx, hd⟩
  unfold laidMetH at h
  generalize (l.filter fun x => x.2.handleName?.isSome) = fl at h
  cases fl with
  | nil => exact Lib.laidMet.reads h hx
  | cons a tl => exact Lib.laidMet.reads h.1 hm

theorem tb_g : Tryz.prog.globalNamed "internal/strconv.uint64pow10" = some 0 := by kernel_rfl
theorem tb_t : (Tryz.prog.globals[0]?).map (·.type) = some 273 := by kernel_rfl
theorem tb_c1 : Tryz.prog.cellsOf 78 = 1 := by kernel_rfl
theorem tb_c20 : Tryz.prog.cellsOf 273 = 20 := by kernel_rfl
theorem tb_data : (Rows.laid_internal_strconv_uint64pow10 : DataW Unit) = Lib.tabData .u64 Lib.pow10Tab := by kernel_rfl

theorem tb_pow10 {l : List (String × DataW Unit)} {W : World} (h : laidMetH Tryz.prog l W) (hx : ("internal/strconv.uint64pow10", (Rows.laid_internal_strconv_uint64pow10 : DataW Unit)) ∈ l) : Lib.TabIs Tryz.prog W "internal/strconv.uint64pow10" .u64 Lib.pow10Tab := by
  obtain ⟨g', t', cs, fuel, p, hg', ht', hv, hd⟩ := tb_reads h hx rfl
  obtain rfl := Option.some.inj (tb_g.symm.trans hg')
  obtain rfl := Option.some.inj (tb_t.symm.trans ht')
  rw [tb_data] at hd
  have hc := Lib.cells_of_tab Tryz.underlying273 Tryz.underlying78 tb_c1 tb_c20 hd
  unfold Lib.TabIs
  rw [hv, ← hc]

theorem tb_below {W W' : World} {n : String} {k : IntKind} {zs : List Int} (h : Lib.TabIs Tryz.prog W n k zs) (hb : Below W.heap.size W W') : Lib.TabIs Tryz.prog W' n k zs := by
  unfold Lib.TabIs World.var? at h ⊢
  cases hg : Tryz.prog.globalNamed n with
  | none => rw [hg] at h; simp at h
  | some g =>
    rw [hg] at h
    simp only [Option.bind_some] at h ⊢
    have hlt : g < W.heap.size := by
      rcases Nat.lt_or_ge g W.heap.size with h' | h'
      · exact h'
      · rw [Array.getElem?_eq_none h'] at h; simp at h
    rw [hb.block g hlt]
    exact h

end Go.Proofs.YtamencnachmhoaaGreatDoor
