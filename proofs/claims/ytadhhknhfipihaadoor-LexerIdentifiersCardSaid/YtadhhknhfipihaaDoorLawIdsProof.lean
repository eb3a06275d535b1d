/-
  LexerIdentifiers IS TRUE FOR EVERY TEXT: identifiers have the kinds that the chapter states, and exactly the texts that amount.Parse does not reject as malformed are Decimals (texts of at most 32 bytes; beyond, the examples of the chapter alone). The row lists nine package-level variables as the program's text lays them; the card ties them.
-/
import Derived.Test.YtadhhknhfipihaaDoorCards
import Derived.Test.YtadhhknhfipihaaDoorTie
import Derived.Test.YtadhhknhfipihaaDoorLawIds
import Derived.Test.YtadhhknhfipihaaDoorLexLaid
import Derived.Test.YtadhhknhfipihaaDoorIdLaid2
import Derived.Deep.DeepHandedRow
import Derived.Deep.DeepWitnessRowRef
import Derived.Lay
import Derived.Lib.LaidIn
import Derived.OpenShut
import Derived.SevenTiedAt
namespace Go.Proofs.YtadhhknhfipihaaDoor.lawIds
open Go.ChangeShapes Go.WideShapes Go.ChangeAt Go.RowKit
open Go.ChangeMaps (open_string shut_string)

theorem own : ownKnob Tryd.prog.godebug = none := by kernel_rfl

set_option maxRecDepth 100000 in
theorem memRange : ("strconv.ErrRange", (Rows.laid_strconv_ErrRange : DataW Unit)) ∈ Rows.lexerIdentifiersRow.laid := by
  unfold Rows.lexerIdentifiersRow
  exact .tail _ (.tail _ (.tail _ (.tail _ (.head _))))

set_option maxRecDepth 100000 in
theorem memSyntax : ("strconv.ErrSyntax", (Rows.laid_strconv_ErrSyntax : DataW Unit)) ∈ Rows.lexerIdentifiersRow.laid := by
  unfold Rows.lexerIdentifiersRow
  exact .tail _ (.tail _ (.tail _ (.tail _ (.tail _ (.head _)))))

set_option maxRecDepth 100000 in
theorem memIds : ("giro/ident.kinds", (Rows.laid_giro_ident_kinds : DataW Unit)) ∈ Rows.lexerIdentifiersRow.laid := by
  unfold Rows.lexerIdentifiersRow
  exact .tail _ (.tail _ (.tail _ (.tail _ (.tail _ (.tail _ (.head _))))))

set_option maxRecDepth 100000 in
theorem mem : ("giro/lexer.kinds", (Rows.laid_giro_lexer_kinds : DataW Unit)) ∈ Rows.lexerIdentifiersRow.laid := by
  unfold Rows.lexerIdentifiersRow
  exact .tail _ (.tail _ (.tail _ (.tail _ (.tail _ (.tail _ (.tail _ (.head _)))))))

theorem gRange : Tryd.prog.globalNamed "strconv.ErrRange" = some 4 := by kernel_rfl
theorem tRange : (Tryd.prog.globals[4]?).map (·.type) = some 51 := by kernel_rfl
theorem gSyntax : Tryd.prog.globalNamed "strconv.ErrSyntax" = some 3 := by kernel_rfl
theorem tSyntax : (Tryd.prog.globals[3]?).map (·.type) = some 51 := by kernel_rfl

set_option maxRecDepth 100000 in
theorem contract (H : Type) (enc : TypeId × Value → H) (W : World) (base : Nat) (args : Array Value) (ds gs : List (DataW H)) (before : List MemPlace)
    (hval : ∀ (j : Nat) t v, Tryd.f4.params[j]? = some t → args[j]? = some v → Value.okWide Tryd.prog W .any base t v)
    (hW : DataW.Whole enc Tryd.prog Tryd.f4.params.toList Rows.lexerIdentifiersSpec.vars false W args.toList ds gs before) (hL : laidMetH Tryd.prog Rows.lexerIdentifiersRow.laid W) (hsh : W.ShapedOpen Tryd.prog) :
    Calls Tryd.prog 4 args W fun e W' => ∃ v, e = .returned v ∧ Rows.lexerIdentifiersSpec.post enc Tryd.prog Tryd.f4 false true false false W args v W' := by
  have hW' := hW
  obtain ⟨p, q, hA0, hV, rfl, hfz, hnd⟩ := hW
  have hA : DataW.TrodAll enc Tryd.prog W 0 (fun _ => true) true Tryd.f4.params.toList args.toList ds p := hA0
  rw [Tryd.params4] at hA hval
  obtain ⟨v0, vs0, d0, ds0, p0, q0, hargs, rfl, rfl, h0, r0⟩ := trodAll_cons hA
  obtain ⟨rfl, rfl, rfl⟩ := trodAll_nil r0
  obtain rfl : args = #[v0] := by cases args; simp_all
  obtain ⟨rfl, rfl⟩ := trodVars_none hV
  obtain ⟨s, rfl, rfl, rfl, hmax⟩ := open_string Tryd.underlying9 (hval 0 9 v0 rfl rfl) h0
  clear hA0
  simp only [List.append_nil] at hW'
  obtain ⟨m, hml⟩ := Tryd.laysM145.s1_3 W hsh
  obtain ⟨kb, ko, kc, henv⟩ := lx_env_of_laid hL mem m hml
  have hids := id_env_of_laid hL memIds
  have herr1 := ids_err hL gRange tRange memRange
  have herr2 := ids_err hL gSyntax tSyntax memSyntax
  refine (law_ids s W m kb ko kc (by unfold maxLen at hmax; omega) ⟨henv, hids, ⟨hml, herr1, herr2⟩⟩).mono fun e W' ⟨he, hb⟩ => ?_
  subst he
  exact ⟨_, rfl, _, _, _, [], [], [], hW', trodAll_cons_mk (shut_bool Tryd.underlying4 _) trodAll_mk0, trodAll_cons_mk (shut_string Tryd.underlying9 hmax) trodAll_mk0, rfl, hb.frame _, fun h => by cases h⟩

/-- A world for the witness: the door's own, the pinned table laid in it. -/
noncomputable def laidWorld (os : Os) : World := (World.doorLaid Tryd.prog 300 os).layVars Tryd.prog [("unicode/utf8.first", Rows.laid_unicode_utf8_first)]
theorem laid_os (os : Os) : (laidWorld os).os = os := by unfold laidWorld; rw [World.layVars_os]; rfl

set_option maxRecDepth 100000 in
theorem laid_met (os : Os) : laidMetH Tryd.prog Rows.lexerIdentifiersRow.laid ((laidWorld os).forCall (fun _ _ => 0) ⟨#[], #[.string .empty], []⟩).memory :=
  laidMetH_of_parts3 (fuel := 8)
    (laidMet_layVars (w0 := World.doorLaid Tryd.prog 300 os) ["unicode/utf8.first"] ((List.range (World.doorLaid Tryd.prog 300 os).heap.size).filter (· != 5)) (by rfl) (by kernel_rfl) (by kernel_rfl)
      (LaidIn.of_run _ 8 (by kernel_rfl) (by kernel_rfl) (by kernel_rfl) (by kernel_rfl))) (by kernel_rfl) (by kernel_rfl)

theorem reads (os : Os) {H : Type} (enc : TypeId × Value → H) : ∃ places, DataW.whole enc Tryd.prog ((laidWorld os).forCall (fun _ _ => 0) ⟨#[], #[.string .empty], []⟩).memory Tryd.f4.params.toList Rows.lexerIdentifiersSpec.vars false #[Value.string .empty].toList 8 = some ([.lit (.string [])], [], places) :=
  ⟨[], by kernel_rfl⟩

set_option maxRecDepth 100000 in
theorem lifted (os : Os) (started : os.Started) (H : Type) (enc : TypeId × Value → H) (F : Stop.Interp) :
    ReturnsInHanded {} Tryd.checked os 4 .any ((OpenSpec.ofChange Rows.lexerIdentifiersSpec).preRow enc Tryd.prog Tryd.f4 Rows.lexerIdentifiersRow.domain false Rows.lexerIdentifiersRow.laid) (((OpenSpec.ofChange Rows.lexerIdentifiersSpec).at F).post enc Tryd.prog Tryd.f4 false true false false) := by
  obtain ⟨places, hx⟩ := reads os enc
  refine returnsInHanded_of_row (C := Tryd.checked) (s := OpenSpec.ofChange Rows.lexerIdentifiersSpec) own started (by kernel_rfl) Tryd.func4
    (witness_row_atRef (enc := enc) (C := Tryd.checked) false (laidWorld os) #[.string .empty] (laid_os os) (by kernel_rfl) (by kernel_rfl) (by kernel_rfl)
      (OpenSpec.preRow_of_cond 8 hx (by kernel_rfl) (fun k hk => by cases hk) (by kernel_rfl) (laid_met os))) ?_
  intro W base args ds gs before hval hW _ _ _ hL hsh _
  exact contract H enc W base args ds gs before hval hW hL hsh

theorem said : Rows.LexerIdentifiersSaid :=
  OpenClaim.holds_of_cond 4 Tryd.f4 rfl rfl rfl rfl rfl rfl rfl ⟨rfl, rfl, rfl, rfl, rfl⟩ rfl rfl rfl rfl rfl (by kernel_rfl) Tryd.func4 (by kernel_rfl)
    (of_decide_eq_true (by kernel_rfl)) (by unfold Func.isWrapper; first | (rw [if_pos (by decide +kernel)]; kernel_rfl) | (rw [if_neg (by decide +kernel)]; exact ⟨rfl, rfl⟩))
    (fun os started H enc _ F => by rw [OpenClaim.pre_eq_preRow]; exact lifted os started H enc F)

theorem plain (f : FuncId) (fn : Func) (hf : Tryd.pinned.checked.prog.funcNamed "giro/girolaw17.LexerIdentifiers" = some f) (hfn : Tryd.pinned.checked.prog.funcs[f]? = some fn) :
    true = Tryd.pinned.checked.prog.looks [] ∧ ∀ (j : Nat) t, fn.params[j]? = some t → Tryd.pinned.checked.prog.wantsStandIn t = false := by
  obtain rfl : f = 4 := Option.some.inj ((show Tryd.prog.funcNamed "giro/girolaw17.LexerIdentifiers" = some 4 by kernel_rfl).symm.trans hf) |>.symm
  obtain rfl : fn = Tryd.f4 := (Option.some.inj (Tryd.func4.symm.trans hfn)).symm
  refine ⟨by kernel_rfl, fun j t ht => ?_⟩
  rw [Tryd.params4] at ht
  obtain rfl : t = 9 := by simpa using Array.mem_of_getElem? ht
  exact (show Tryd.prog.wantsStandIn 9 = false by kernel_rfl)

/-- THE CARD. -/
theorem card : Rows.LexerIdentifiersCardSaid :=
  Claim7.holds_tied_plain_at .later [] _ _ _ _ said (fun _ h => by cases h) (by kernel_rfl) (fun _ h => by cases h) lexerIdentifiers_row_tie rfl ⟨rfl, rfl⟩ (by kernel_rfl) rfl plain (by kernel_rfl)
#print axioms card
end Go.Proofs.YtadhhknhfipihaaDoor.lawIds
