/-
  ParserBlanks IS TRUE FOR EVERY INPUT. The row lists some package-level variables as the program's text lays them; the card ties them.
-/
import Derived.Test.YthijakidnkhbnaaGreatDoorCards
import Derived.Test.YthijakidnkhbnaaGreatDoorTie
import Derived.Test.YthijakidnkhbnaaGreatDoorPsLaid
import Derived.Test.YthijakidnkhbnaaGreatDoorLawPBlanks
import Derived.Deep.Matrix
import Derived.Deep.Grids
import Derived.SizedLaws
import Derived.Deep.DeepHandedRow
import Derived.Deep.DeepWitnessRowRef
import Derived.Lay
import Derived.Lib.LaidIn
import Derived.LaidMore
import Derived.OpenShut
import Derived.SevenTiedAt
import Derived.ChangeMaps5
import Derived.Laws.IdiomArrays
namespace Go.Proofs.YthijakidnkhbnaaGreatDoor.lawPBlanks
open Go.ChangeShapes Go.WideShapes Go.ChangeAt Go.RowKit

theorem own : ownKnob Tryz.prog.godebug = none := by kernel_rfl
theorem laidOut : laidOutB Tryz.prog = true := by kernel_rfl

theorem cellsB : Tryz.prog.cellsOf 5 = 1 := by kernel_rfl
theorem bytes_open {H : Type} {enc : TypeId × Value → H} (W : World) {a : Option Addr} {l c : Nat} {d : DataW H} {p : List MemPlace} (h : DataW.Trod enc Tryz.prog W 0 (fun _ => true) true 47 (.slice a l c) d p) : ∃ zs, U8At W (.slice a l c) zs := by
  obtain ⟨fuel, hf⟩ := h
  rcases open_ints Tryz.underlying47 Tryz.underlying5 cellsB hf with ⟨hcs, _⟩ | ⟨a, len, cap, zs, hcs, _, hl, hm, hz, hx, hcell, hwz⟩
  · simp [Value.cells] at hcs
    obtain ⟨rfl, rfl, rfl⟩ := hcs
    exact ⟨[], .inl ⟨rfl, none, 0, rfl⟩⟩
  · simp [Value.cells] at hcs
    obtain ⟨rfl, rfl, rfl⟩ := hcs
    simp only [if_true] at hz
    exact ⟨_, u8_of_ints W a l c zs hl hz hm (fun i hi => hcell i (by omega)) hwz⟩

set_option maxRecDepth 100000 in
theorem memRange : ("strconv.ErrRange", (Rows.laid_strconv_ErrRange : DataW Unit)) ∈ Rows.parserBlanksRow.laid := by
  unfold Rows.parserBlanksRow
  exact .tail _ (.tail _ (.tail _ (.tail _ ((.head _)))))

set_option maxRecDepth 100000 in
theorem memSyntax : ("strconv.ErrSyntax", (Rows.laid_strconv_ErrSyntax : DataW Unit)) ∈ Rows.parserBlanksRow.laid := by
  unfold Rows.parserBlanksRow
  exact .tail _ (.tail _ (.tail _ (.tail _ (.tail _ ((.head _))))))

set_option maxRecDepth 100000 in
theorem memIds : ("giro/ident.kinds", (Rows.laid_giro_ident_kinds : DataW Unit)) ∈ Rows.parserBlanksRow.laid := by
  unfold Rows.parserBlanksRow
  exact .tail _ (.tail _ (.tail _ (.tail _ (.tail _ (.tail _ ((.head _)))))))

set_option maxRecDepth 100000 in
theorem memLex : ("giro/lexer.kinds", (Rows.laid_giro_lexer_kinds : DataW Unit)) ∈ Rows.parserBlanksRow.laid := by
  unfold Rows.parserBlanksRow
  exact .tail _ (.tail _ (.tail _ (.tail _ (.tail _ (.tail _ (.tail _ ((.head _))))))))

set_option maxRecDepth 100000 in
theorem memPrio : ("giro/message.priorityNames", (Rows.laid_giro_message_priorityNames : DataW Unit)) ∈ Rows.parserBlanksRow.laid := by
  unfold Rows.parserBlanksRow
  exact .tail _ (.tail _ (.tail _ (.tail _ (.tail _ (.tail _ (.tail _ (.tail _ ((.head _)))))))))

set_option maxRecDepth 100000 in
theorem contract (H : Type) (enc : TypeId × Value → H) (W : World) (base : Nat) (args : Array Value) (ds gs : List (DataW H)) (before : List MemPlace)
    (hval : ∀ (j : Nat) t v, Tryz.f5.params[j]? = some t → args[j]? = some v → Value.okWide Tryz.prog W .any base t v)
    (hW : DataW.Whole enc Tryz.prog Tryz.f5.params.toList Rows.parserBlanksSpec.vars false W args.toList ds gs before) (hL : laidMetH Tryz.prog Rows.parserBlanksRow.laid W) (hsh : W.ShapedOpen Tryz.prog) :
    Calls Tryz.prog 5 args W fun e W' => ∃ v, e = .returned v ∧ Rows.parserBlanksSpec.post enc Tryz.prog Tryz.f5 false true false false W args v W' := by
  have hW' := hW
  obtain ⟨p, q, hA0, hV, rfl, hfz, hnd⟩ := hW
  have hA : DataW.TrodAll enc Tryz.prog W 0 (fun _ => true) true Tryz.f5.params.toList args.toList ds p := hA0
  rw [Tryz.params5] at hA hval
  obtain ⟨v0, vs0, d0, ds0, p0, q0, hargs, rfl, rfl, h0, r0⟩ := trodAll_cons hA
  obtain ⟨v1, vs1, d1, ds1, p1, q1, hargs1, rfl, rfl, h1, r1⟩ := trodAll_cons r0
  obtain ⟨rfl, rfl, rfl⟩ := trodAll_nil r1
  obtain rfl : args = #[v0, v1] := by cases args; simp_all
  obtain ⟨rfl, rfl⟩ := trodVars_none hV
  clear hA0
  simp only [List.append_nil] at hW'
  have hlt : ∀ x ∈ (p0 ++ p1), x.block < W.heap.size := fun x hx => by simpa using hW'.lt x hx
  obtain ⟨s0, rfl, rfl, rfl, hs0⟩ := Go.ChangeMaps.open_string Tryz.underlying9 (hval 0 9 v0 rfl rfl) h0
  obtain ⟨a1, l1, c1, rfl⟩ := okWide_slice Tryz.underlying47 (hval 1 47 v1 rfl rfl)
  obtain ⟨bs1, hbs1⟩ := bytes_open W h1
  obtain ⟨m, hml⟩ := Tryz.laysM145.s1_3 W hsh
  obtain ⟨kb, ko, kc, env⟩ := pv_env_of_laid hL memLex memIds memPrio memRange memSyntax m hml
  refine (law_pblanks env s0 _ bs1 hs0 hbs1).mono fun e W' ⟨he, hb⟩ => ?_
  subst he
  have t0 := Below.trod laidOut (by kernel_rfl) (of_decide_eq_true (by kernel_rfl)) h0 hb (fun x hx => by cases hx)
  have t1 := Below.trod laidOut (by kernel_rfl) (of_decide_eq_true (by kernel_rfl)) h1 hb (fun x hx => hlt x (by simp [hx]))
  exact ⟨_, rfl, _, _, _, [], _, [], hW', trodAll_cons_mk (shut_bool Tryz.underlying4 _) trodAll_mk0, trodAll_cons_mk t0 (trodAll_cons_mk t1 trodAll_mk0), rfl, hb.frame _, fun h => by cases h⟩

/-- A world for the witness: the door's own, the pinned table laid in it. -/
noncomputable def laidWorld (os : Os) : World := (World.doorLaid Tryz.prog 300 os).layVars Tryz.prog [("unicode/utf8.first", Rows.laid_unicode_utf8_first)]
theorem laid_os (os : Os) : (laidWorld os).os = os := by unfold laidWorld; rw [World.layVars_os]; rfl

set_option maxRecDepth 100000 in
theorem laid_met (os : Os) : laidMetH Tryz.prog Rows.parserBlanksRow.laid ((laidWorld os).forCall (fun _ _ => 0) ⟨#[], #[Value.string ⟨#[]⟩, .slice none 0 0], []⟩).memory :=
  laidMetH_of_parts3 (fuel := 8)
    (laidMet_layVars (w0 := World.doorLaid Tryz.prog 300 os) ["unicode/utf8.first"] ((List.range (World.doorLaid Tryz.prog 300 os).heap.size).filter (· != 4)) (by rfl) (by kernel_rfl) (by kernel_rfl)
      (LaidIn.of_run _ 8 (by kernel_rfl) (by kernel_rfl) (by kernel_rfl) (by kernel_rfl))) (by kernel_rfl) (by kernel_rfl)

theorem reads (os : Os) {H : Type} (enc : TypeId × Value → H) : ∃ places, DataW.whole enc Tryz.prog ((laidWorld os).forCall (fun _ _ => 0) ⟨#[], #[Value.string ⟨#[]⟩, .slice none 0 0], []⟩).memory Tryz.f5.params.toList Rows.parserBlanksSpec.vars false #[Value.string ⟨#[]⟩, .slice none 0 0].toList 8 = some ([.lit (.string []), .nil], [], places) :=
  ⟨[], by kernel_rfl⟩

set_option maxRecDepth 100000 in
theorem lifted (os : Os) (started : os.Started) (H : Type) (enc : TypeId × Value → H) (F : Stop.Interp) :
    ReturnsInHanded {} Tryz.checked os 5 .any ((OpenSpec.ofChange Rows.parserBlanksSpec).preRow enc Tryz.prog Tryz.f5 Rows.parserBlanksRow.domain false Rows.parserBlanksRow.laid) (((OpenSpec.ofChange Rows.parserBlanksSpec).at F).post enc Tryz.prog Tryz.f5 false true false false) := by
  obtain ⟨places, hx⟩ := reads os enc
  refine returnsInHanded_of_row (C := Tryz.checked) (s := OpenSpec.ofChange Rows.parserBlanksSpec) own started (by kernel_rfl) Tryz.func5
    (witness_row_atRef (enc := enc) (C := Tryz.checked) false (laidWorld os) #[Value.string ⟨#[]⟩, .slice none 0 0] (laid_os os) (by kernel_rfl) (by kernel_rfl) (by kernel_rfl)
      (OpenSpec.preRow_of_cond 8 hx (by kernel_rfl) (fun k hk => by cases hk) (by kernel_rfl) (laid_met os))) ?_
  intro W base args ds gs before hval hW _ _ _ hL hsh _
  exact contract H enc W base args ds gs before hval hW hL hsh

theorem said : Rows.ParserBlanksSaid :=
  OpenClaim.holds_of_cond 5 Tryz.f5 rfl rfl rfl rfl rfl rfl rfl ⟨rfl, rfl, rfl, rfl, rfl⟩ rfl rfl rfl rfl rfl (by kernel_rfl) Tryz.func5 (by kernel_rfl)
    (of_decide_eq_true (by kernel_rfl)) (by unfold Func.isWrapper; first | (rw [if_pos (by decide +kernel)]; kernel_rfl) | (rw [if_neg (by decide +kernel)]; exact ⟨rfl, rfl⟩))
    (fun os started H enc _ F => by rw [OpenClaim.pre_eq_preRow]; exact lifted os started H enc F)

theorem plain (f : FuncId) (fn : Func) (hf : Tryz.pinned.checked.prog.funcNamed "giro/girolaw19.ParserBlanks" = some f) (hfn : Tryz.pinned.checked.prog.funcs[f]? = some fn) :
    true = Tryz.pinned.checked.prog.looks [] ∧ ∀ (j : Nat) t, fn.params[j]? = some t → Tryz.pinned.checked.prog.wantsStandIn t = false := by
  obtain rfl : f = 5 := Option.some.inj ((show Tryz.prog.funcNamed "giro/girolaw19.ParserBlanks" = some 5 by kernel_rfl).symm.trans hf) |>.symm
  obtain rfl : fn = Tryz.f5 := (Option.some.inj (Tryz.func5.symm.trans hfn)).symm
  refine ⟨by kernel_rfl, fun j t ht => ?_⟩
  rw [Tryz.params5] at ht
  have hm := Array.mem_of_getElem? ht
  simp at hm
  rcases hm with rfl | rfl
  · exact (show Tryz.prog.wantsStandIn 9 = false by kernel_rfl)
  · exact (show Tryz.prog.wantsStandIn 47 = false by kernel_rfl)

/-- THE CARD. -/
theorem card : Rows.ParserBlanksCardSaid :=
  Claim7.holds_tied_plain_at .later [] _ _ _ _ said (fun _ h => by cases h) (by kernel_rfl) (fun _ h => by cases h) parserBlanks_row_tie rfl ⟨rfl, rfl⟩ (by kernel_rfl) rfl plain (by kernel_rfl)
#print axioms card
end Go.Proofs.YthijakidnkhbnaaGreatDoor.lawPBlanks
