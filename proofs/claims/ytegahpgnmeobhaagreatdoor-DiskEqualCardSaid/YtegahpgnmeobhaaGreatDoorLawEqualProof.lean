/-
  DiskEqual IS TRUE FOR EVERY INPUT. The row lists two package-level variables as the program's text lays them; the card ties them.
-/
import Derived.Test.YtegahpgnmeobhaaGreatDoorCards
import Derived.Test.YtegahpgnmeobhaaGreatDoorTie
import Derived.Test.YtegahpgnmeobhaaGreatDoorLawEqual
import Derived.Test.YtegahpgnmeobhaaGreatDoorOpsOpen
import Derived.Deep.Matrix
import Derived.SizedLaws
import Derived.Deep.DeepHandedRow
import Derived.Deep.DeepWitnessRowRef
import Derived.Lay
import Derived.Lib.LaidIn
import Derived.LaidMore
import Derived.OpenShut
import Derived.SevenTiedAt
import Derived.ChangeMaps5
namespace Go.Proofs.YtegahpgnmeobhaaGreatDoor.lawEqual
open Go.ChangeShapes Go.WideShapes Go.ChangeAt Go.RowKit

theorem own : ownKnob Tryz.prog.godebug = none := by kernel_rfl
theorem laidOut : laidOutB Tryz.prog = true := by kernel_rfl
theorem bytesB : Tryz.prog.bytesOf 5 = 1 := by kernel_rfl

set_option maxRecDepth 100000 in
theorem contract (H : Type) (enc : TypeId × Value → H) (W : World) (base : Nat) (args : Array Value) (ds gs : List (DataW H)) (before : List MemPlace)
    (hval : ∀ (j : Nat) t v, Tryz.f9.params[j]? = some t → args[j]? = some v → Value.okWide Tryz.prog W .any base t v)
    (hW : DataW.Whole enc Tryz.prog Tryz.f9.params.toList Rows.diskEqualSpec.vars false W args.toList ds gs before) :
    Calls Tryz.prog 9 args W fun e W' => ∃ v, e = .returned v ∧ Rows.diskEqualSpec.post enc Tryz.prog Tryz.f9 false true false false W args v W' := by
  have hW' := hW
  obtain ⟨p, q, hA0, hV, rfl, hfz, hnd⟩ := hW
  have hA : DataW.TrodAll enc Tryz.prog W 0 (fun _ => true) true Tryz.f9.params.toList args.toList ds p := hA0
  rw [Tryz.params9] at hA hval
  obtain ⟨v0, vs0, d0, ds0, p0, q0, hargs, rfl, rfl, h0, r0⟩ := trodAll_cons hA
  obtain ⟨v1, vs1, d1, ds1, p1, q1, hargs1, rfl, rfl, h1, r1⟩ := trodAll_cons r0
  obtain ⟨rfl, rfl, rfl⟩ := trodAll_nil r1
  obtain rfl : args = #[v0, v1] := by cases args; simp_all
  obtain ⟨rfl, rfl⟩ := trodVars_none hV
  clear hA0
  simp only [List.append_nil] at hW'
  have hlt : ∀ x ∈ p0 ++ p1, x.block < W.heap.size := fun x hx => by simpa using hW'.lt x hx
  obtain ⟨a0, l0, c0, rfl⟩ := okWide_slice Tryz.underlying22 (hval 0 22 v0 rfl rfl)
  obtain ⟨fuel0, hf0⟩ := h0
  obtain ⟨w0, x0, hcs0, hx0⟩ := ops_of_trod hf0
  simp only [Value.cells, List.cons.injEq, and_true] at hcs0
  subst hcs0
  obtain ⟨a1, l1, c1, rfl⟩ := okWide_slice Tryz.underlying22 (hval 1 22 v1 rfl rfl)
  obtain ⟨fuel1, hf1⟩ := h1
  obtain ⟨w1, x1, hcs1, hx1⟩ := ops_of_trod hf1
  simp only [Value.cells, List.cons.injEq, and_true] at hcs1
  subst hcs1
  refine (law_equal W _ _ x0 x1 hx0 hx1).mono fun e W' ⟨he, hb⟩ => ?_
  subst he
  have t0 := Below.trod laidOut (by kernel_rfl) (of_decide_eq_true (by kernel_rfl)) ⟨_, hf0⟩ hb (fun x hx => by exact hlt x (by simp [hx]))
  have t1 := Below.trod laidOut (by kernel_rfl) (of_decide_eq_true (by kernel_rfl)) ⟨_, hf1⟩ hb (fun x hx => by exact hlt x (by simp [hx]))
  exact ⟨_, rfl, _, _, _, [], _, [], hW', trodAll_cons_mk (shut_bool Tryz.underlying4 _) trodAll_mk0, trodAll_cons_mk t0 (trodAll_cons_mk t1 trodAll_mk0), rfl, hb.frame _, fun h => by cases h⟩

/-- A world for the witness: the door's own, the pinned table laid in it. -/
noncomputable def laidWorld (os : Os) : World := (World.doorLaid Tryz.prog 300 os).layVars Tryz.prog [("unicode/utf8.first", Rows.laid_unicode_utf8_first)]
theorem laid_os (os : Os) : (laidWorld os).os = os := by unfold laidWorld; rw [World.layVars_os]; rfl

set_option maxRecDepth 100000 in
theorem laid_met (os : Os) : laidMetH Tryz.prog Rows.diskEqualRow.laid ((laidWorld os).forCall (fun _ _ => 0) ⟨#[], #[Value.slice none 0 0, .slice none 0 0], []⟩).memory :=
  laidMetH_of_parts3 (fuel := 8)
    (laidMet_layVars (w0 := World.doorLaid Tryz.prog 300 os) ["unicode/utf8.first"] [1] (by rfl) (by kernel_rfl) (by kernel_rfl)
      (LaidIn.of_run _ 8 (by kernel_rfl) (by kernel_rfl) (by kernel_rfl) (by kernel_rfl))) (by kernel_rfl) (by kernel_rfl)

theorem reads (os : Os) {H : Type} (enc : TypeId × Value → H) : ∃ places, DataW.whole enc Tryz.prog ((laidWorld os).forCall (fun _ _ => 0) ⟨#[], #[Value.slice none 0 0, .slice none 0 0], []⟩).memory Tryz.f9.params.toList Rows.diskEqualSpec.vars false #[Value.slice none 0 0, .slice none 0 0].toList 8 = some ([.nil, .nil], [], places) :=
  ⟨[], by kernel_rfl⟩

set_option maxRecDepth 100000 in
theorem lifted (os : Os) (started : os.Started) (H : Type) (enc : TypeId × Value → H) (F : Stop.Interp) :
    ReturnsInHanded {} Tryz.checked os 9 .any ((OpenSpec.ofChange Rows.diskEqualSpec).preRow enc Tryz.prog Tryz.f9 Rows.diskEqualRow.domain false Rows.diskEqualRow.laid) (((OpenSpec.ofChange Rows.diskEqualSpec).at F).post enc Tryz.prog Tryz.f9 false true false false) := by
  obtain ⟨places, hx⟩ := reads os enc
  refine returnsInHanded_of_row (C := Tryz.checked) (s := OpenSpec.ofChange Rows.diskEqualSpec) own started (by kernel_rfl) Tryz.func9
    (witness_row_atRef (enc := enc) (C := Tryz.checked) false (laidWorld os) #[Value.slice none 0 0, .slice none 0 0] (laid_os os) (by kernel_rfl) (by kernel_rfl) (by kernel_rfl)
      (OpenSpec.preRow_of_cond 8 hx (by kernel_rfl) (fun k hk => by cases hk) (by kernel_rfl) (laid_met os))) ?_
  intro W base args ds gs before hval hW _ _ _ _ _ _
  exact contract H enc W base args ds gs before hval hW

theorem said : Rows.DiskEqualSaid :=
  OpenClaim.holds_of_cond 9 Tryz.f9 rfl rfl rfl rfl rfl rfl rfl ⟨rfl, rfl, rfl, rfl, rfl⟩ rfl rfl rfl rfl rfl (by kernel_rfl) Tryz.func9 (by kernel_rfl)
    (of_decide_eq_true (by kernel_rfl)) (by unfold Func.isWrapper; first | (rw [if_pos (by decide +kernel)]; kernel_rfl) | (rw [if_neg (by decide +kernel)]; exact ⟨rfl, rfl⟩))
    (fun os started H enc _ F => by rw [OpenClaim.pre_eq_preRow]; exact lifted os started H enc F)

theorem plain (f : FuncId) (fn : Func) (hf : Tryz.pinned.checked.prog.funcNamed "giro/girolaw10.DiskEqual" = some f) (hfn : Tryz.pinned.checked.prog.funcs[f]? = some fn) :
    false = Tryz.pinned.checked.prog.looks [] ∧ ∀ (j : Nat) t, fn.params[j]? = some t → Tryz.pinned.checked.prog.wantsStandIn t = false := by
  obtain rfl : f = 9 := Option.some.inj ((show Tryz.prog.funcNamed "giro/girolaw10.DiskEqual" = some 9 by kernel_rfl).symm.trans hf) |>.symm
  obtain rfl : fn = Tryz.f9 := (Option.some.inj (Tryz.func9.symm.trans hfn)).symm
  refine ⟨by kernel_rfl, fun j t ht => ?_⟩
  rw [Tryz.params9] at ht
  have hm := Array.mem_of_getElem? ht
  simp at hm
  subst hm
  exact (show Tryz.prog.wantsStandIn 22 = false by kernel_rfl)

/-- THE CARD. -/
theorem card : Rows.DiskEqualCardSaid :=
  Claim7.holds_tied_plain_at .later [] _ _ _ _ said (fun _ h => by cases h) (by kernel_rfl) (fun _ h => by cases h) diskEqual_row_tie rfl ⟨rfl, rfl⟩ (by kernel_rfl) rfl plain (by kernel_rfl)
#print axioms card
end Go.Proofs.YtegahpgnmeobhaaGreatDoor.lawEqual
