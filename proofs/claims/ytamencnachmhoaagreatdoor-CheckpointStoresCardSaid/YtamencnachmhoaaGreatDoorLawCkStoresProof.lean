/-
  CheckpointStores IS TRUE FOR EVERY INPUT. The row lists some package-level variables as the program's text lays them; the card ties them.
-/
import Derived.Test.YtamencnachmhoaaGreatDoorCards
import Derived.Test.YtamencnachmhoaaGreatDoorTie
import Derived.Test.YtamencnachmhoaaGreatDoorLawCkStores
import Derived.Deep.Matrix
import Derived.Deep.Grids
import Derived.SizedLaws
import Derived.Deep.DeepHandedRow
import Derived.Deep.DeepWitnessRowRef
import Derived.Lay
import Derived.Lib.LaidIn
import Derived.LaidMore
import Derived.OpenShut
import Derived.SevenTiedAt
import Derived.ChangeMaps5
import Derived.Laws.IdiomArrays
namespace Go.Proofs.YtamencnachmhoaaGreatDoor.lawCkStores
open Go.ChangeShapes Go.WideShapes Go.ChangeAt Go.RowKit

theorem own : ownKnob Tryz.prog.godebug = none := by kernel_rfl
theorem laidOut : laidOutB Tryz.prog = true := by kernel_rfl

theorem cellsB : Tryz.prog.cellsOf 5 = 1 := by kernel_rfl
theorem cellsS : Tryz.prog.cellsOf 22 = 1 := by kernel_rfl

/-- numbers as bytes -/
def bsOf (zs : List Int) (n : Nat) : Dk.Bs := (zs.take n).map fun z => UInt8.ofNat z.toNat

theorem rdB_of_ints (W : World) (a : Addr) (len cap : Nat) (zs : List Int) (hl : len ≤ cap) (hz : zs.length = cap) (hc : ∀ i, i < cap → W.cell? (a.add i) = some (.int .u8 (zs.getD i 0))) (hw : ∀ n ∈ zs, (Lit.int .u8 n).wf = true) :
    RdB W W.heap.size (.slice (some a) len cap) (bsOf zs len) := by
  have hlen : (bsOf zs len).length = len := by unfold bsOf; rw [List.length_map, List.length_take]; omega
  rcases Nat.eq_zero_or_pos len with h0 | h0
  · subst h0
    exact .inl ⟨List.eq_nil_of_length_eq_zero hlen, _, _, rfl⟩
  · obtain ⟨b, off, spot⟩ := a
    have hspot : spot = none := by simpa [Addr.add] using World.cell?_spot (hc 0 (by omega))
    subst hspot
    have hb : b < W.heap.size := by have := World.block_lt_of_cell? W _ (hc 0 (by omega)); simpa [Addr.add] using this
    refine .inr ⟨b, off, cap, by rw [hlen], by omega, hb, hb, fun j c hj => ?_⟩
    have hj' : j < len := by rw [← hlen]; exact (List.getElem?_eq_some_iff.1 hj).1
    have hjz : j < zs.length := by omega
    have := hc j (by omega)
    rw [dk_add] at this
    rw [this]
    unfold bsOf at hj
    rw [List.getElem?_map, List.getElem?_take, if_pos hj', List.getElem?_eq_getElem hjz] at hj
    simp only [Option.map_some, Option.some.injEq] at hj
    have hwz := hw zs[j] (List.getElem_mem hjz)
    have e1 : IntKind.u8.min = 0 := rfl
    have e2 : IntKind.u8.max = 255 := rfl
    simp [Lit.wf, e1, e2] at hwz
    have e3 : zs.getD j 0 = zs[j] := by simp [List.getD, List.getElem?_eq_getElem hjz]
    rw [e3, ← hj]
    have e4 : (UInt8.ofNat zs[j].toNat).toNat = zs[j].toNat := by simp; omega
    rw [e4]
    congr 2
    omega
theorem bytes_open {H : Type} {enc : TypeId × Value → H} (W : World) {a : Option Addr} {l c : Nat} {d : DataW H} {p : List MemPlace} (h : DataW.Trod enc Tryz.prog W 0 (fun _ => true) true 22 (.slice a l c) d p) : ∃ bs, RdB W W.heap.size (.slice a l c) bs := by
  obtain ⟨fuel, hf⟩ := h
  rcases open_ints Tryz.underlying22 Tryz.underlying5 cellsB hf with ⟨hcs, _⟩ | ⟨a, len, cap, zs, hcs, _, hl, hm, hz, hx, hcell, hwz⟩
  · simp [Value.cells] at hcs
    obtain ⟨rfl, rfl, rfl⟩ := hcs
    exact ⟨[], .inl ⟨rfl, none, 0, rfl⟩⟩
  · simp [Value.cells] at hcs
    obtain ⟨rfl, rfl, rfl⟩ := hcs
    simp only [if_true] at hz
    exact ⟨bsOf zs l, rdB_of_ints W a l c zs hl hz (fun i hi => hcell i (by omega)) hwz⟩
theorem rows_open {H : Type} {enc : TypeId × Value → H} (W : World) {a0 : Option Addr} {l0 c0 : Nat} {d : DataW H} {p : List MemPlace} (h : DataW.Trod enc Tryz.prog W 0 (fun _ => true) true 39 (.slice a0 l0 c0) d p) : ∃ ps, PiecesAt W (.slice a0 l0 c0) ps := by
  obtain ⟨fuel, hf⟩ := h
  rcases Go.Deep.open_int_rows Tryz.underlying39 Tryz.underlying22 Tryz.underlying5 cellsS cellsB hf with ⟨hcs, _⟩ | ⟨a, len, cap, A, L, C, Z, hcs, _, hl, hm, _, hx⟩
  · simp [Value.cells] at hcs
    obtain ⟨rfl, rfl, rfl⟩ := hcs
    exact ⟨[], none, 0, rfl, by decide, fun i p hp => by simp at hp⟩
  · simp [Value.cells] at hcs
    obtain ⟨rfl, rfl, rfl⟩ := hcs
    have hm' : c0 ≤ 9223372036854775807 := by unfold maxLen at hm; omega
    refine ⟨(List.range l0).map fun r => bsOf (Z r) (L r), some a, c0, by simp, by simp; omega, fun i p hp => ?_⟩
    rw [List.getElem?_map] at hp
    have hi : i < l0 := by
      rcases Nat.lt_or_ge i l0 with h | h
      · exact h
      · rw [List.getElem?_eq_none (by simpa using h)] at hp; cases hp
    rw [List.getElem?_eq_getElem (by simpa using hi)] at hp
    simp only [List.getElem_range, Option.map_some, Option.some.injEq] at hp
    subst hp
    obtain ⟨k1, k2, k3, k4, k5, k6, k7⟩ := hx i (by omega)
    obtain ⟨b, off, spot⟩ := a
    have hspot : spot = none := by simpa [Addr.add] using World.cell?_spot (hx 0 (by omega)).1
    subst hspot
    rw [dk_add] at k1
    refine ⟨b, off, _, rfl, k1, ?_⟩
    cases hA : A i with
    | none =>
      have hL : L i = 0 := by have := k6 hA; omega
      rw [hL]
      exact .inl ⟨by simp [bsOf], none, C i, rfl⟩
    | some a' => exact rdB_of_ints W a' (L i) (C i) (Z i) k2 k4 (k7 a' hA).2 k5

theorem cellsO : Tryz.prog.cellsOf 4 = 1 := by kernel_rfl
theorem bools_open {H : Type} {enc : TypeId × Value → H} (W : World) {a0 : Option Addr} {l0 c0 : Nat} {d : DataW H} {p : List MemPlace} (h : DataW.Trod enc Tryz.prog W 0 (fun _ => true) true 40 (.slice a0 l0 c0) d p) : ∃ ws, BoolsAt W (.slice a0 l0 c0) ws := by
  obtain ⟨fuel, hf⟩ := h
  rcases Go.Deep.open_bools Tryz.underlying40 Tryz.underlying4 cellsO hf with ⟨hcs, _⟩ | ⟨a, len, cap, B, hcs, _, hl, hm, _, hx⟩
  · simp [Value.cells] at hcs
    obtain ⟨rfl, rfl, rfl⟩ := hcs
    exact ⟨[], none, 0, rfl, fun i b hb => by simp at hb⟩
  · simp [Value.cells] at hcs
    obtain ⟨rfl, rfl, rfl⟩ := hcs
    refine ⟨(List.range l0).map B, some a, c0, by simp, fun i b hb => ?_⟩
    rw [List.getElem?_map] at hb
    have hi : i < l0 := by
      rcases Nat.lt_or_ge i l0 with h | h
      · exact h
      · rw [List.getElem?_eq_none (by simpa using h)] at hb; cases hb
    rw [List.getElem?_eq_getElem (by simpa using hi)] at hb
    simp only [List.getElem_range, Option.map_some, Option.some.injEq] at hb
    subst hb
    have k1 := hx i (by omega)
    obtain ⟨g, off, spot⟩ := a
    have hspot : spot = none := by simpa [Addr.add] using World.cell?_spot (hx 0 (by omega))
    subst hspot
    rw [dk_add] at k1
    exact ⟨g, off, rfl, k1⟩

set_option maxRecDepth 100000 in
theorem contract (H : Type) (enc : TypeId × Value → H) (W : World) (base : Nat) (args : Array Value) (ds gs : List (DataW H)) (before : List MemPlace)
    (hval : ∀ (j : Nat) t v, Tryz.f5.params[j]? = some t → args[j]? = some v → Value.okWide Tryz.prog W .any base t v)
    (hW : DataW.Whole enc Tryz.prog Tryz.f5.params.toList Rows.checkpointStoresSpec.vars false W args.toList ds gs before) :
    Calls Tryz.prog 5 args W fun e W' => ∃ v, e = .returned v ∧ Rows.checkpointStoresSpec.post enc Tryz.prog Tryz.f5 false true false false W args v W' := by
  have hW' := hW
  obtain ⟨p, q, hA0, hV, rfl, hfz, hnd⟩ := hW
  have hA : DataW.TrodAll enc Tryz.prog W 0 (fun _ => true) true Tryz.f5.params.toList args.toList ds p := hA0
  rw [Tryz.params5] at hA hval
  obtain ⟨v0, vs0, d0, ds0, p0, q0, hargs, rfl, rfl, h0, r0⟩ := trodAll_cons hA
  obtain ⟨v1, vs1, d1, ds1, p1, q1, hargs1, rfl, rfl, h1, r1⟩ := trodAll_cons r0
  obtain ⟨rfl, rfl, rfl⟩ := trodAll_nil r1
  obtain rfl : args = #[v0, v1] := by cases args; simp_all
  obtain ⟨rfl, rfl⟩ := trodVars_none hV
  clear hA0
  simp only [List.append_nil] at hW'
  have hlt : ∀ x ∈ (p0 ++ p1), x.block < W.heap.size := fun x hx => by simpa using hW'.lt x hx
  obtain ⟨a0, l0, c0, rfl⟩ := okWide_slice Tryz.underlying39 (hval 0 39 v0 rfl rfl)
  obtain ⟨ps0, hps0⟩ := rows_open W h0
  obtain ⟨a1, l1, c1, rfl⟩ := okWide_slice Tryz.underlying40 (hval 1 40 v1 rfl rfl)
  obtain ⟨ws1, hws1⟩ := bools_open W h1
  refine (law_ckstores W _ ps0 _ ws1 hps0 hws1).mono fun e W' ⟨he, hb⟩ => ?_
  subst he
  have t0 := Below.trod laidOut (by kernel_rfl) (of_decide_eq_true (by kernel_rfl)) h0 hb (fun x hx => hlt x (by simp [hx]))
  have t1 := Below.trod laidOut (by kernel_rfl) (of_decide_eq_true (by kernel_rfl)) h1 hb (fun x hx => hlt x (by simp [hx]))
  exact ⟨_, rfl, _, _, _, [], _, [], hW', trodAll_cons_mk (shut_bool Tryz.underlying4 _) trodAll_mk0, trodAll_cons_mk t0 (trodAll_cons_mk t1 trodAll_mk0), rfl, hb.frame _, fun h => by cases h⟩

/-- A world for the witness: the door's own, the pinned table laid in it. -/
noncomputable def laidWorld (os : Os) : World := (World.doorLaid Tryz.prog 300 os).layVars Tryz.prog [("unicode/utf8.first", Rows.laid_unicode_utf8_first)]
theorem laid_os (os : Os) : (laidWorld os).os = os := by unfold laidWorld; rw [World.layVars_os]; rfl

set_option maxRecDepth 100000 in
theorem laid_met (os : Os) : laidMetH Tryz.prog Rows.checkpointStoresRow.laid ((laidWorld os).forCall (fun _ _ => 0) ⟨#[], #[Value.slice none 0 0, .slice none 0 0], []⟩).memory :=
  laidMetH_of_parts3 (fuel := 8)
    (laidMet_layVars (w0 := World.doorLaid Tryz.prog 300 os) ["unicode/utf8.first"] ((List.range (World.doorLaid Tryz.prog 300 os).heap.size).filter (· != 4)) (by rfl) (by kernel_rfl) (by kernel_rfl)
      (LaidIn.of_run _ 8 (by kernel_rfl) (by kernel_rfl) (by kernel_rfl) (by kernel_rfl))) (by kernel_rfl) (by kernel_rfl)

theorem reads (os : Os) {H : Type} (enc : TypeId × Value → H) : ∃ places, DataW.whole enc Tryz.prog ((laidWorld os).forCall (fun _ _ => 0) ⟨#[], #[Value.slice none 0 0, .slice none 0 0], []⟩).memory Tryz.f5.params.toList Rows.checkpointStoresSpec.vars false #[Value.slice none 0 0, .slice none 0 0].toList 8 = some ([.nil, .nil], [], places) :=
  ⟨[], by kernel_rfl⟩

set_option maxRecDepth 100000 in
theorem lifted (os : Os) (started : os.Started) (H : Type) (enc : TypeId × Value → H) (F : Stop.Interp) :
    ReturnsInHanded {} Tryz.checked os 5 .any ((OpenSpec.ofChange Rows.checkpointStoresSpec).preRow enc Tryz.prog Tryz.f5 Rows.checkpointStoresRow.domain false Rows.checkpointStoresRow.laid) (((OpenSpec.ofChange Rows.checkpointStoresSpec).at F).post enc Tryz.prog Tryz.f5 false true false false) := by
  obtain ⟨places, hx⟩ := reads os enc
  refine returnsInHanded_of_row (C := Tryz.checked) (s := OpenSpec.ofChange Rows.checkpointStoresSpec) own started (by kernel_rfl) Tryz.func5
    (witness_row_atRef (enc := enc) (C := Tryz.checked) false (laidWorld os) #[Value.slice none 0 0, .slice none 0 0] (laid_os os) (by kernel_rfl) (by kernel_rfl) (by kernel_rfl)
      (OpenSpec.preRow_of_cond 8 hx (by kernel_rfl) (fun k hk => by cases hk) (by kernel_rfl) (laid_met os))) ?_
  intro W base args ds gs before hval hW _ _ _ _ _ _
  exact contract H enc W base args ds gs before hval hW

theorem said : Rows.CheckpointStoresSaid :=
  OpenClaim.holds_of_cond 5 Tryz.f5 rfl rfl rfl rfl rfl rfl rfl ⟨rfl, rfl, rfl, rfl, rfl⟩ rfl rfl rfl rfl rfl (by kernel_rfl) Tryz.func5 (by kernel_rfl)
    (of_decide_eq_true (by kernel_rfl)) (by unfold Func.isWrapper; first | (rw [if_pos (by decide +kernel)]; kernel_rfl) | (rw [if_neg (by decide +kernel)]; exact ⟨rfl, rfl⟩))
    (fun os started H enc _ F => by rw [OpenClaim.pre_eq_preRow]; exact lifted os started H enc F)

theorem plain (f : FuncId) (fn : Func) (hf : Tryz.pinned.checked.prog.funcNamed "giro/girolaw12.CheckpointStores" = some f) (hfn : Tryz.pinned.checked.prog.funcs[f]? = some fn) :
    true = Tryz.pinned.checked.prog.looks [] ∧ ∀ (j : Nat) t, fn.params[j]? = some t → Tryz.pinned.checked.prog.wantsStandIn t = false := by
  obtain rfl : f = 5 := Option.some.inj ((show Tryz.prog.funcNamed "giro/girolaw12.CheckpointStores" = some 5 by kernel_rfl).symm.trans hf) |>.symm
  obtain rfl : fn = Tryz.f5 := (Option.some.inj (Tryz.func5.symm.trans hfn)).symm
  refine ⟨by kernel_rfl, fun j t ht => ?_⟩
  rw [Tryz.params5] at ht
  have hm := Array.mem_of_getElem? ht
  simp at hm
  rcases hm with rfl | rfl
  · exact (show Tryz.prog.wantsStandIn 39 = false by kernel_rfl)
  · exact (show Tryz.prog.wantsStandIn 40 = false by kernel_rfl)

/-- THE CARD. -/
theorem card : Rows.CheckpointStoresCardSaid :=
  Claim7.holds_tied_plain_at .later [] _ _ _ _ said (fun _ h => by cases h) (by kernel_rfl) (fun _ h => by cases h) checkpointStores_row_tie rfl ⟨rfl, rfl⟩ (by kernel_rfl) rfl plain (by kernel_rfl)
#print axioms card
end Go.Proofs.YtamencnachmhoaaGreatDoor.lawCkStores
