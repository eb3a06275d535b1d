/-
  A range over an iterator that hands nothing over; a function that holds one, and that defers, by its body.
-/
import Derived.RangeFuncNested
import Derived.RangeFuncLeaves
namespace Go.Proofs.YtamencnachmhoaaGreatDoor
open Go.RowKit

/-- a range over an iterator that hands nothing over -/
theorem wp_rangeFunc_none {P : Program} {g : Operand} {ps : Array Tmp} {assign body : Code} {Q : Exit → Act → World → Prop} {a : Act} {w : World}
    {gf : Nat} {lb : Array Value} (hg : a.eval g = .func (.func gf) #[] lb) (eg : ∀ args w, (callFunc gf args).run P w = .ok (.enter gf args) w)
    (hit : ∀ (l : Nat) (W : World), Below w.heap.size w W → Calls P gf (#[.func (.yield l) #[] #[]] ++ lb) W fun e W' => (∃ v, e = .returned v) ∧ W' = W)
    (hK : ∀ (D : Nat) (W : World), w.heap.size ≤ D → Below w.heap.size w W → W.heap[D]? = some (.deferred (some [])) → Q .normal { a with defers := { target := .collected D, args := #[] } :: a.defers } W) :
    (Code.rangeFunc g ps assign body).wp P Q a w := by
  refine (wpIn_wide (n := 5)).1 ?_
  refine wpIn_rangeFunc_ownF (α := Empty) (encs := fun x => x.elim) (Kp := fun _ _ => True) (S := fun xs => xs = []) (Sp := fun _ => False) (N := 0) (w0 := w) rfl (by decide) hg trivial eg ?seq (fun _ _ => trivial) (fun _ _ _ _ _ _ _ _ => trivial) (Below.refl _ _) (fun x => x.elim)
    (fun _ W => Below w.heap.size w W) (fun _ _ _ => False) (ownFrom_below (Nat.le_refl _) (Nat.le_refl _)) (fun c s A B row hs _ _ => hs) (Below.refl _ _) (fun x => x.elim) (fun _ x => x.elim) (fun _ _ x => x.elim) ?done ?stop
  case seq =>
    intro l J Jx W hW hJ hJx hY h0
    refine callsIn_wide.2 ((hit l W hW).mono ?_)
    rintro e W' ⟨hv, rfl⟩
    exact ⟨hv, .inl ⟨[], rfl, h0⟩⟩
  case done =>
    rintro D xs W hD rfl hI hd
    exact hK D W hD hI hd
  case stop =>
    intro D c pre W _ h
    exact h.elim

/-- a function by its body: deferred calls and the marks of ranges over functions -/
theorem calls_of_wp_marks {P : Program} {f : FuncId} {fn : Func} {c : Code} {args : Array Value} {w : World} {R : Ending → World → Prop}
    (hf : P.funcs[f]? = some fn) (hb : fn.body = some c)
    (h : c.wp P (bodyPostM Fence.wide 5 P fn R) { tmps := args ++ Array.replicate (fn.ntmps - args.size) undef, defers := [] } w) : Calls P f args w R :=
  (callsIn_wide (n := 5)).1 (callsIn_of_wp_marks hf hb trivial (wpIn_wide.2 h))

/-- the mark on the way out -/
theorem leavesM_mark {P : Program} {fn : Func} {tmps : Array Value} {R : Ending → World → Prop} {D : Nat} {args : Array Value} {ds : List Deferred} {w : World} (hd : w.heap[D]? = some (.deferred (some [])))
    (h : LeavesInM Fence.wide 5 P fn tmps R ds .returning (w.putObj D (.deferred none))) : LeavesInM Fence.wide 5 P fn tmps R ({ target := .collected D, args := args } :: ds) .returning w :=
  ⟨by simp, .inl ⟨_, _, rfl, run_takeDeferred hd, h⟩⟩
/-- a deferred call on the way out -/
theorem leavesM_call {P : Program} {fn : Func} {tmps : Array Value} {R : Ending → World → Prop} {d : Deferred} {ds : List Deferred} {w : World} {fv : Fn} {cap : Array Value} {f : FuncId} {args : Array Value}
    (ht : d.target = .fn fv cap) (hi : (invoke d.target d.args).run P w = .ok (.enter f args) w) (hc : CallsDIn Fence.wide 4 P f args .returning w fun e u' w' => u' = .returning ∧ (∃ v, e = .returned v) ∧ LeavesInM Fence.wide 5 P fn tmps R ds .returning w') :
    LeavesInM Fence.wide 5 P fn tmps R (d :: ds) .returning w := by
  refine ⟨by simp, .inr ⟨(fun h => by cases h), fv, cap, f, args, ht, hi, fun _ _ => trivial, trivial, fun c cs hu hr => ?_⟩⟩
  obtain ⟨e, u', w', fr, ⟨rfl, ⟨v, rfl⟩, h0⟩, h1, h2, h3, h4⟩ := hc.2 c cs hu hr
  exact ⟨_, _, w', fr, h0, h1, h2, h3, h4⟩
theorem leavesM_end {P : Program} {fn : Func} {tmps : Array Value} {R : Ending → World → Prop} {w : World} {v : Value} (hr : (results fn tmps).run P w = .ok v w) (h : R (.returned v) w) : LeavesInM Fence.wide 5 P fn tmps R [] .returning w := ⟨v, hr, h⟩

end Go.Proofs.YtamencnachmhoaaGreatDoor
