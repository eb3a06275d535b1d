/-
  WalErrors IS TRUE FOR EVERY INPUT. The row lists five package-level variables as the program's text lays them; the card ties them.
-/
import Derived.Test.YtcbnbhlgikjbeaaGreatDoorCards
import Derived.Test.YtcbnbhlgikjbeaaGreatDoorTie
import Derived.Test.YtcbnbhlgikjbeaaGreatDoorLawErrors
import Derived.Deep.Matrix
import Derived.SizedLaws
import Derived.Deep.DeepHandedRow
import Derived.Deep.DeepWitnessRowRef
import Derived.Lay
import Derived.Lib.LaidIn
import Derived.LaidMore
import Derived.OpenShut
import Derived.SevenTiedAt
import Derived.ChangeMaps5
namespace Go.Proofs.YtcbnbhlgikjbeaaGreatDoor.lawErrors
open Go.ChangeShapes Go.WideShapes Go.ChangeAt Go.RowKit

theorem own : ownKnob Tryz.prog.godebug = none := by kernel_rfl
theorem laidOut : laidOutB Tryz.prog = true := by kernel_rfl

set_option maxRecDepth 100000 in
theorem contract (H : Type) (enc : TypeId × Value → H) (W : World) (base : Nat) (args : Array Value) (ds gs : List (DataW H)) (before : List MemPlace)
    (hval : ∀ (j : Nat) t v, Tryz.f5.params[j]? = some t → args[j]? = some v → Value.okWide Tryz.prog W .any base t v)
    (hW : DataW.Whole enc Tryz.prog Tryz.f5.params.toList Rows.walErrorsSpec.vars false W args.toList ds gs before) :
    Calls Tryz.prog 5 args W fun e W' => ∃ v, e = .returned v ∧ Rows.walErrorsSpec.post enc Tryz.prog Tryz.f5 false true false false W args v W' := by
  have hW' := hW
  obtain ⟨p, q, hA0, hV, rfl, hfz, hnd⟩ := hW
  have hA : DataW.TrodAll enc Tryz.prog W 0 (fun _ => true) true Tryz.f5.params.toList args.toList ds p := hA0
  rw [Tryz.params5] at hA hval
  obtain ⟨v0, vs0, d0, ds0, p0, q0, hargs, rfl, rfl, h0, r0⟩ := trodAll_cons hA
  obtain ⟨v1, vs1, d1, ds1, p1, q1, hargs1, rfl, rfl, h1, r1⟩ := trodAll_cons r0
  obtain ⟨v2, vs2, d2, ds2, p2, q2, hargs2, rfl, rfl, h2, r2⟩ := trodAll_cons r1
  obtain ⟨rfl, rfl, rfl⟩ := trodAll_nil r2
  obtain rfl : args = #[v0, v1, v2] := by cases args; simp_all
  obtain ⟨rfl, rfl⟩ := trodVars_none hV
  clear hA0
  simp only [List.append_nil] at hW'
  obtain ⟨s0, rfl, rfl, rfl, hs0⟩ := Go.ChangeMaps.open_string Tryz.underlying9 (hval 0 9 v0 rfl rfl) h0
  obtain ⟨z1, rfl, rfl, rfl, hwf1⟩ := open_int Tryz.underlying3 (hval 1 3 v1 rfl rfl) h1
  obtain ⟨z2, rfl, rfl, rfl, hwf2⟩ := open_int Tryz.underlying3 (hval 2 3 v2 rfl rfl) h2
  refine (law_errors W s0 z1 z2 hs0).mono fun e W' ⟨he, hb⟩ => ?_
  subst he
  have t0 := Below.trod laidOut (by kernel_rfl) (of_decide_eq_true (by kernel_rfl)) h0 hb (fun x hx => by cases hx)
  have t1 := Below.trod laidOut (by kernel_rfl) (of_decide_eq_true (by kernel_rfl)) h1 hb (fun x hx => by cases hx)
  have t2 := Below.trod laidOut (by kernel_rfl) (of_decide_eq_true (by kernel_rfl)) h2 hb (fun x hx => by cases hx)
  exact ⟨_, rfl, _, _, _, [], _, [], hW', trodAll_cons_mk (shut_bool Tryz.underlying4 _) trodAll_mk0, trodAll_cons_mk t0 (trodAll_cons_mk t1 (trodAll_cons_mk t2 trodAll_mk0)), rfl, hb.frame _, fun h => by cases h⟩

/-- A world for the witness: the door's own, the pinned table laid in it. -/
noncomputable def laidWorld (os : Os) : World := (World.doorLaid Tryz.prog 300 os).layVars Tryz.prog [("unicode/utf8.first", Rows.laid_unicode_utf8_first)]
theorem laid_os (os : Os) : (laidWorld os).os = os := by unfold laidWorld; rw [World.layVars_os]; rfl

set_option maxRecDepth 100000 in
theorem laid_met (os : Os) : laidMetH Tryz.prog Rows.walErrorsRow.laid ((laidWorld os).forCall (fun _ _ => 0) ⟨#[], #[Value.string ⟨#[]⟩, .int .i64 0, .int .i64 0], []⟩).memory :=
  laidMetH_of_parts3 (fuel := 8)
    (laidMet_layVars (w0 := World.doorLaid Tryz.prog 300 os) ["unicode/utf8.first"] ((List.range (World.doorLaid Tryz.prog 300 os).heap.size).filter (· != 0)) (by rfl) (by kernel_rfl) (by kernel_rfl)
      (LaidIn.of_run _ 8 (by kernel_rfl) (by kernel_rfl) (by kernel_rfl) (by kernel_rfl))) (by kernel_rfl) (by kernel_rfl)

theorem reads (os : Os) {H : Type} (enc : TypeId × Value → H) : ∃ places, DataW.whole enc Tryz.prog ((laidWorld os).forCall (fun _ _ => 0) ⟨#[], #[Value.string ⟨#[]⟩, .int .i64 0, .int .i64 0], []⟩).memory Tryz.f5.params.toList Rows.walErrorsSpec.vars false #[Value.string ⟨#[]⟩, .int .i64 0, .int .i64 0].toList 8 = some ([.lit (.string []), .lit (.int .i64 0), .lit (.int .i64 0)], [], places) :=
  ⟨[], by kernel_rfl⟩

set_option maxRecDepth 100000 in
theorem lifted (os : Os) (started : os.Started) (H : Type) (enc : TypeId × Value → H) (F : Stop.Interp) :
    ReturnsInHanded {} Tryz.checked os 5 .any ((OpenSpec.ofChange Rows.walErrorsSpec).preRow enc Tryz.prog Tryz.f5 Rows.walErrorsRow.domain false Rows.walErrorsRow.laid) (((OpenSpec.ofChange Rows.walErrorsSpec).at F).post enc Tryz.prog Tryz.f5 false true false false) := by
  obtain ⟨places, hx⟩ := reads os enc
  refine returnsInHanded_of_row (C := Tryz.checked) (s := OpenSpec.ofChange Rows.walErrorsSpec) own started (by kernel_rfl) Tryz.func5
    (witness_row_atRef (enc := enc) (C := Tryz.checked) false (laidWorld os) #[Value.string ⟨#[]⟩, .int .i64 0, .int .i64 0] (laid_os os) (by kernel_rfl) (by kernel_rfl) (by kernel_rfl)
      (OpenSpec.preRow_of_cond 8 hx (by kernel_rfl) (fun k hk => by cases hk) (by kernel_rfl) (laid_met os))) ?_
  intro W base args ds gs before hval hW _ _ _ _ _ _
  exact contract H enc W base args ds gs before hval hW

theorem said : Rows.WalErrorsSaid :=
  OpenClaim.holds_of_cond 5 Tryz.f5 rfl rfl rfl rfl rfl rfl rfl ⟨rfl, rfl, rfl, rfl, rfl⟩ rfl rfl rfl rfl rfl (by kernel_rfl) Tryz.func5 (by kernel_rfl)
    (of_decide_eq_true (by kernel_rfl)) (by unfold Func.isWrapper; first | (rw [if_pos (by decide +kernel)]; kernel_rfl) | (rw [if_neg (by decide +kernel)]; exact ⟨rfl, rfl⟩))
    (fun os started H enc _ F => by rw [OpenClaim.pre_eq_preRow]; exact lifted os started H enc F)

theorem plain (f : FuncId) (fn : Func) (hf : Tryz.pinned.checked.prog.funcNamed "giro/girolaw11.WalErrors" = some f) (hfn : Tryz.pinned.checked.prog.funcs[f]? = some fn) :
    false = Tryz.pinned.checked.prog.looks [] ∧ ∀ (j : Nat) t, fn.params[j]? = some t → Tryz.pinned.checked.prog.wantsStandIn t = false := by
  obtain rfl : f = 5 := Option.some.inj ((show Tryz.prog.funcNamed "giro/girolaw11.WalErrors" = some 5 by kernel_rfl).symm.trans hf) |>.symm
  obtain rfl : fn = Tryz.f5 := (Option.some.inj (Tryz.func5.symm.trans hfn)).symm
  refine ⟨by kernel_rfl, fun j t ht => ?_⟩
  rw [Tryz.params5] at ht
  have hm := Array.mem_of_getElem? ht
  simp at hm
  rcases hm with rfl | rfl
  · exact (show Tryz.prog.wantsStandIn 9 = false by kernel_rfl)
  · exact (show Tryz.prog.wantsStandIn 3 = false by kernel_rfl)

/-- THE CARD. -/
theorem card : Rows.WalErrorsCardSaid :=
  Claim7.holds_tied_plain_at .later [] _ _ _ _ said (fun _ h => by cases h) (by kernel_rfl) (fun _ h => by cases h) walErrors_row_tie rfl ⟨rfl, rfl⟩ (by kernel_rfl) rfl plain (by kernel_rfl)
#print axioms card
end Go.Proofs.YtcbnbhlgikjbeaaGreatDoor.lawErrors
