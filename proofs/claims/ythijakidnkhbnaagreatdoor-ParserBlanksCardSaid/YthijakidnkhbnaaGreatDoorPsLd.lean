/-
  Whole requests out of memory.
-/
import Derived.Test.YthijakidnkhbnaaGreatDoorPsKnow
namespace Go.Proofs.YthijakidnkhbnaaGreatDoor
open Go.RowKit

/-- a whole request out of memory -/
theorem ld_req (g : Nat) (Q : Ps.Req) (lv : Value) (w : World) (h : w.heap[g]? = some (.cells (reqCells Q lv) 29 (0, 0))) : (Instr.loadAt 29 (.pointer (some ⟨g, 0, none⟩))).run Tryz.prog w = .ok (.agg (reqCells Q lv)) w := by
  have := run_loadVar_row (P := Tryz.prog) w g 29 29 (reqCells Q lv) (0, 0) _ h Tryz.underlying29 rfl (by kernel_rfl)
  unfold Instr.loadAt
  simp [Instr.sureAddr, this]
set_option maxRecDepth 100000 in
theorem bd29 (ρ : Operand → Value) (w : World) : (Instr.build 29 ((#[] : Array (Nat × Operand)).map fun (i, x) => (i, ρ x))).run Tryz.prog w = .ok (.agg (reqCells {} (.slice none 0 0))) w := by
  go_simp
  rfl

theorem wl_loadW {P : Program} {ops : Array Oper} {Q : Exit → Act → World → Prop} {rest : List Oper} {o : Oper} {a : Act} {w : World} {t : TypeId} {x : Operand} {v u : Value} {d : Nat} (hw : Region.wanted o (yielded ops a.tmps) = true) (hd : o.dst = some d) (ho : o.op = .load t x) (hx : a.eval x = v) (hr : (Instr.loadAt t v).run P w = .ok u w) (h : wpList P ops Q rest ⟨a.tmps.setIfInBounds d u, a.defers⟩ w) : wpList P ops Q (o :: rest) a w := by
  refine BigFrame.wpList_want hw fun K hK => ?_
  unfold Oper.wp execOp
  rw [ho]
  simp only [hx, Sem.run_bind, hr, Result.andThen_ok]
  refine hK _ _ ?_
  rw [hd]
  exact h

end Go.Proofs.YthijakidnkhbnaaGreatDoor
