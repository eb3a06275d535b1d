/-
  CheckpointNames IS TRUE FOR EVERY INPUT. The row lists some package-level variables as the program's text lays them; the card ties them.
-/
import Derived.Test.YtamencnachmhoaaGreatDoorCards
import Derived.Test.YtamencnachmhoaaGreatDoorTie
import Derived.Test.YtamencnachmhoaaGreatDoorTabLaid
import Derived.Test.YtamencnachmhoaaGreatDoorLawCkNames
import Derived.Deep.Matrix
import Derived.Deep.Grids
import Derived.SizedLaws
import Derived.Deep.DeepHandedRow
import Derived.Deep.DeepWitnessRowRef
import Derived.Lay
import Derived.Lib.LaidIn
import Derived.LaidMore
import Derived.OpenShut
import Derived.SevenTiedAt
import Derived.ChangeMaps5
import Derived.Laws.IdiomArrays
namespace Go.Proofs.YtamencnachmhoaaGreatDoor.lawCkNames
open Go.ChangeShapes Go.WideShapes Go.ChangeAt Go.RowKit

theorem own : ownKnob Tryz.prog.godebug = none := by kernel_rfl
theorem laidOut : laidOutB Tryz.prog = true := by kernel_rfl

theorem cellsB : Tryz.prog.cellsOf 5 = 1 := by kernel_rfl
theorem cellsS : Tryz.prog.cellsOf 22 = 1 := by kernel_rfl

/-- numbers as bytes -/
def bsOf (zs : List Int) (n : Nat) : Dk.Bs := (zs.take n).map fun z => UInt8.ofNat z.toNat

theorem rdB_of_ints (W : World) (a : Addr) (len cap : Nat) (zs : List Int) (hl : len ≤ cap) (hz : zs.length = cap) (hc : ∀ i, i < cap → W.cell? (a.add i) = some (.int .u8 (zs.getD i 0))) (hw : ∀ n ∈ zs, (Lit.int .u8 n).wf = true) :
    RdB W W.heap.size (.slice (some a) len cap) (bsOf zs len) := by
  have hlen : (bsOf zs len).length = len := by unfold bsOf; rw [List.length_map, List.length_take]; omega
  rcases Nat.eq_zero_or_pos len with h0 | h0
  · subst h0
    exact .inl ⟨List.eq_nil_of_length_eq_zero hlen, _, _, rfl⟩
  · obtain ⟨b, off, spot⟩ := a
    have hspot : spot = none := by simpa [Addr.add] using World.cell?_spot (hc 0 (by omega))
    subst hspot
    have hb : b < W.heap.size := by have := World.block_lt_of_cell? W _ (hc 0 (by omega)); simpa [Addr.add] using this
    refine .inr ⟨b, off, cap, by rw [hlen], by omega, hb, hb, fun j c hj => ?_⟩
    have hj' : j < len := by rw [← hlen]; exact (List.getElem?_eq_some_iff.1 hj).1
    have hjz : j < zs.length := by omega
    have := hc j (by omega)
    rw [dk_add] at this
    rw [this]
    unfold bsOf at hj
    rw [List.getElem?_map, List.getElem?_take, if_pos hj', List.getElem?_eq_getElem hjz] at hj
    simp only [Option.map_some, Option.some.injEq] at hj
    have hwz := hw zs[j] (List.getElem_mem hjz)
    have e1 : IntKind.u8.min = 0 := rfl
    have e2 : IntKind.u8.max = 255 := rfl
    simp [Lit.wf, e1, e2] at hwz
    have e3 : zs.getD j 0 = zs[j] := by simp [List.getD, List.getElem?_eq_getElem hjz]
    rw [e3, ← hj]
    have e4 : (UInt8.ofNat zs[j].toNat).toNat = zs[j].toNat := by simp; omega
    rw [e4]
    congr 2
    omega
theorem bytes_open {H : Type} {enc : TypeId × Value → H} (W : World) {a : Option Addr} {l c : Nat} {d : DataW H} {p : List MemPlace} (h : DataW.Trod enc Tryz.prog W 0 (fun _ => true) true 22 (.slice a l c) d p) : ∃ bs, RdB W W.heap.size (.slice a l c) bs := by
  obtain ⟨fuel, hf⟩ := h
  rcases open_ints Tryz.underlying22 Tryz.underlying5 cellsB hf with ⟨hcs, _⟩ | ⟨a, len, cap, zs, hcs, _, hl, hm, hz, hx, hcell, hwz⟩
  · simp [Value.cells] at hcs
    obtain ⟨rfl, rfl, rfl⟩ := hcs
    exact ⟨[], .inl ⟨rfl, none, 0, rfl⟩⟩
  · simp [Value.cells] at hcs
    obtain ⟨rfl, rfl, rfl⟩ := hcs
    simp only [if_true] at hz
    exact ⟨bsOf zs l, rdB_of_ints W a l c zs hl hz (fun i hi => hcell i (by omega)) hwz⟩

set_option maxRecDepth 100000 in
theorem memTab : ("internal/strconv.uint64pow10", (Rows.laid_internal_strconv_uint64pow10 : DataW Unit)) ∈ Rows.checkpointNamesRow.laid := by
  unfold Rows.checkpointNamesRow
  exact .tail _ (.tail _ (.head _))

set_option maxRecDepth 100000 in
theorem contract (H : Type) (enc : TypeId × Value → H) (W : World) (base : Nat) (args : Array Value) (ds gs : List (DataW H)) (before : List MemPlace)
    (hval : ∀ (j : Nat) t v, Tryz.f3.params[j]? = some t → args[j]? = some v → Value.okWide Tryz.prog W .any base t v)
    (hW : DataW.Whole enc Tryz.prog Tryz.f3.params.toList Rows.checkpointNamesSpec.vars false W args.toList ds gs before) (hL : laidMetH Tryz.prog Rows.checkpointNamesRow.laid W) :
    Calls Tryz.prog 3 args W fun e W' => ∃ v, e = .returned v ∧ Rows.checkpointNamesSpec.post enc Tryz.prog Tryz.f3 false true false false W args v W' := by
  have hW' := hW
  obtain ⟨p, q, hA0, hV, rfl, hfz, hnd⟩ := hW
  have hA : DataW.TrodAll enc Tryz.prog W 0 (fun _ => true) true Tryz.f3.params.toList args.toList ds p := hA0
  rw [Tryz.params3] at hA hval
  obtain ⟨v0, vs0, d0, ds0, p0, q0, hargs, rfl, rfl, h0, r0⟩ := trodAll_cons hA
  obtain ⟨v1, vs1, d1, ds1, p1, q1, hargs1, rfl, rfl, h1, r1⟩ := trodAll_cons r0
  obtain ⟨v2, vs2, d2, ds2, p2, q2, hargs2, rfl, rfl, h2, r2⟩ := trodAll_cons r1
  obtain ⟨rfl, rfl, rfl⟩ := trodAll_nil r2
  obtain rfl : args = #[v0, v1, v2] := by cases args; simp_all
  obtain ⟨rfl, rfl⟩ := trodVars_none hV
  clear hA0
  simp only [List.append_nil] at hW'
  have hlt : ∀ x ∈ (p0 ++ (p1 ++ p2)), x.block < W.heap.size := fun x hx => by simpa using hW'.lt x hx
  obtain ⟨s0, rfl, rfl, rfl, hs0⟩ := Go.ChangeMaps.open_string Tryz.underlying9 (hval 0 9 v0 rfl rfl) h0
  obtain ⟨z1, rfl, rfl, rfl, hwf1⟩ := open_int Tryz.underlying3 (hval 1 3 v1 rfl rfl) h1
  obtain ⟨a2, l2, c2, rfl⟩ := okWide_slice Tryz.underlying22 (hval 2 22 v2 rfl rfl)
  obtain ⟨bs2, hbs2⟩ := bytes_open W h2
  refine (law_cknames W s0 z1 _ bs2 hs0 hbs2 (fun W' hb => tb_below (tb_pow10 hL memTab) hb)).mono fun e W' ⟨he, hb⟩ => ?_
  subst he
  have t0 := Below.trod laidOut (by kernel_rfl) (of_decide_eq_true (by kernel_rfl)) h0 hb (fun x hx => by cases hx)
  have t1 := Below.trod laidOut (by kernel_rfl) (of_decide_eq_true (by kernel_rfl)) h1 hb (fun x hx => by cases hx)
  have t2 := Below.trod laidOut (by kernel_rfl) (of_decide_eq_true (by kernel_rfl)) h2 hb (fun x hx => hlt x (by simp [hx]))
  exact ⟨_, rfl, _, _, _, [], _, [], hW', trodAll_cons_mk (shut_bool Tryz.underlying4 _) trodAll_mk0, trodAll_cons_mk t0 (trodAll_cons_mk t1 (trodAll_cons_mk t2 trodAll_mk0)), rfl, hb.frame _, fun h => by cases h⟩

/-- A world for the witness: the door's own, the pinned table laid in it. -/
noncomputable def laidWorld (os : Os) : World := (World.doorLaid Tryz.prog 300 os).layVars Tryz.prog [("unicode/utf8.first", Rows.laid_unicode_utf8_first)]
theorem laid_os (os : Os) : (laidWorld os).os = os := by unfold laidWorld; rw [World.layVars_os]; rfl

set_option maxRecDepth 100000 in
theorem laid_met (os : Os) : laidMetH Tryz.prog Rows.checkpointNamesRow.laid ((laidWorld os).forCall (fun _ _ => 0) ⟨#[], #[Value.string ⟨#[]⟩, .int .i64 0, .slice none 0 0], []⟩).memory :=
  laidMetH_of_parts3 (fuel := 8)
    (laidMet_layVars (w0 := World.doorLaid Tryz.prog 300 os) ["unicode/utf8.first"] ((List.range (World.doorLaid Tryz.prog 300 os).heap.size).filter (· != 4)) (by rfl) (by kernel_rfl) (by kernel_rfl)
      (LaidIn.of_run _ 8 (by kernel_rfl) (by kernel_rfl) (by kernel_rfl) (by kernel_rfl))) (by kernel_rfl) (by kernel_rfl)

theorem reads (os : Os) {H : Type} (enc : TypeId × Value → H) : ∃ places, DataW.whole enc Tryz.prog ((laidWorld os).forCall (fun _ _ => 0) ⟨#[], #[Value.string ⟨#[]⟩, .int .i64 0, .slice none 0 0], []⟩).memory Tryz.f3.params.toList Rows.checkpointNamesSpec.vars false #[Value.string ⟨#[]⟩, .int .i64 0, .slice none 0 0].toList 8 = some ([.lit (.string []), .lit (.int .i64 0), .nil], [], places) :=
  ⟨[], by kernel_rfl⟩

set_option maxRecDepth 100000 in
theorem lifted (os : Os) (started : os.Started) (H : Type) (enc : TypeId × Value → H) (F : Stop.Interp) :
    ReturnsInHanded {} Tryz.checked os 3 .any ((OpenSpec.ofChange Rows.checkpointNamesSpec).preRow enc Tryz.prog Tryz.f3 Rows.checkpointNamesRow.domain false Rows.checkpointNamesRow.laid) (((OpenSpec.ofChange Rows.checkpointNamesSpec).at F).post enc Tryz.prog Tryz.f3 false true false false) := by
  obtain ⟨places, hx⟩ := reads os enc
  refine returnsInHanded_of_row (C := Tryz.checked) (s := OpenSpec.ofChange Rows.checkpointNamesSpec) own started (by kernel_rfl) Tryz.func3
    (witness_row_atRef (enc := enc) (C := Tryz.checked) false (laidWorld os) #[Value.string ⟨#[]⟩, .int .i64 0, .slice none 0 0] (laid_os os) (by kernel_rfl) (by kernel_rfl) (by kernel_rfl)
      (OpenSpec.preRow_of_cond 8 hx (by kernel_rfl) (fun k hk => by cases hk) (by kernel_rfl) (laid_met os))) ?_
  intro W base args ds gs before hval hW _ _ _ hL _ _
  exact contract H enc W base args ds gs before hval hW hL

theorem said : Rows.CheckpointNamesSaid :=
  OpenClaim.holds_of_cond 3 Tryz.f3 rfl rfl rfl rfl rfl rfl rfl ⟨rfl, rfl, rfl, rfl, rfl⟩ rfl rfl rfl rfl rfl (by kernel_rfl) Tryz.func3 (by kernel_rfl)
    (of_decide_eq_true (by kernel_rfl)) (by unfold Func.isWrapper; first | (rw [if_pos (by decide +kernel)]; kernel_rfl) | (rw [if_neg (by decide +kernel)]; exact ⟨rfl, rfl⟩))
    (fun os started H enc _ F => by rw [OpenClaim.pre_eq_preRow]; exact lifted os started H enc F)

theorem plain (f : FuncId) (fn : Func) (hf : Tryz.pinned.checked.prog.funcNamed "giro/girolaw12.CheckpointNames" = some f) (hfn : Tryz.pinned.checked.prog.funcs[f]? = some fn) :
    true = Tryz.pinned.checked.prog.looks [] ∧ ∀ (j : Nat) t, fn.params[j]? = some t → Tryz.pinned.checked.prog.wantsStandIn t = false := by
  obtain rfl : f = 3 := Option.some.inj ((show Tryz.prog.funcNamed "giro/girolaw12.CheckpointNames" = some 3 by kernel_rfl).symm.trans hf) |>.symm
  obtain rfl : fn = Tryz.f3 := (Option.some.inj (Tryz.func3.symm.trans hfn)).symm
  refine ⟨by kernel_rfl, fun j t ht => ?_⟩
  rw [Tryz.params3] at ht
  have hm := Array.mem_of_getElem? ht
  simp at hm
  rcases hm with rfl | rfl | rfl
  · exact (show Tryz.prog.wantsStandIn 9 = false by kernel_rfl)
  · exact (show Tryz.prog.wantsStandIn 3 = false by kernel_rfl)
  · exact (show Tryz.prog.wantsStandIn 22 = false by kernel_rfl)

/-- THE CARD. -/
theorem card : Rows.CheckpointNamesCardSaid :=
  Claim7.holds_tied_plain_at .later [] _ _ _ _ said (fun _ h => by cases h) (by kernel_rfl) (fun _ h => by cases h) checkpointNames_row_tie rfl ⟨rfl, rfl⟩ (by kernel_rfl) rfl plain (by kernel_rfl)
#print axioms card
end Go.Proofs.YtamencnachmhoaaGreatDoor.lawCkNames
