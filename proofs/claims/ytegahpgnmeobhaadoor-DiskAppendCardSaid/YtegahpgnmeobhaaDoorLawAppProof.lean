/-
  DiskAppend IS TRUE FOR EVERY INPUT: after a crash and a restart with an even choice, a file to which was only appended is a prefix of its previous contents that contains the durable contents. The row lists two package-level variables as the program's text lays them; the card ties them.
-/
import Derived.Test.YtegahpgnmeobhaaDoorCards
import Derived.Test.YtegahpgnmeobhaaDoorTie
import Derived.Test.YtegahpgnmeobhaaDoorDkApp2
import Derived.Deep.Matrix
import Derived.SizedLaws
import Derived.Deep.DeepHandedRow
import Derived.Deep.DeepWitnessRowRef
import Derived.Lay
import Derived.Lib.LaidIn
import Derived.LaidMore
import Derived.OpenShut
import Derived.SevenTiedAt
namespace Go.Proofs.YtegahpgnmeobhaaDoor.lawApp
open Go.ChangeShapes Go.WideShapes Go.ChangeAt Go.RowKit

theorem own : ownKnob Tryd.prog.godebug = none := by kernel_rfl
theorem laidOut : laidOutB Tryd.prog = true := by kernel_rfl
theorem cellsB : Tryd.prog.cellsOf 5 = 1 := by kernel_rfl
theorem cellsS : Tryd.prog.cellsOf 23 = 1 := by kernel_rfl
theorem bytesB : Tryd.prog.bytesOf 5 = 1 := by kernel_rfl

/-- numbers as bytes -/
def bsOf (zs : List Int) (n : Nat) : Dk.Bs := (zs.take n).map fun z => UInt8.ofNat z.toNat

theorem rdB_of_ints (W : World) (a : Addr) (len cap : Nat) (zs : List Int) (hl : len ≤ cap) (hz : zs.length = cap) (hc : ∀ i, i < cap → W.cell? (a.add i) = some (.int .u8 (zs.getD i 0))) (hw : ∀ n ∈ zs, (Lit.int .u8 n).wf = true) :
    RdB W W.heap.size (.slice (some a) len cap) (bsOf zs len) := by
  have hlen : (bsOf zs len).length = len := by unfold bsOf; rw [List.length_map, List.length_take]; omega
  rcases Nat.eq_zero_or_pos len with h0 | h0
  · subst h0
    exact .inl ⟨List.eq_nil_of_length_eq_zero hlen, _, _, rfl⟩
  · obtain ⟨b, off, spot⟩ := a
    have hspot : spot = none := by simpa [Addr.add] using World.cell?_spot (hc 0 (by omega))
    subst hspot
    have hb : b < W.heap.size := by have := World.block_lt_of_cell? W _ (hc 0 (by omega)); simpa [Addr.add] using this
    refine .inr ⟨b, off, cap, by rw [hlen], by omega, hb, hb, fun j c hj => ?_⟩
    have hj' : j < len := by rw [← hlen]; exact (List.getElem?_eq_some_iff.1 hj).1
    have hjz : j < zs.length := by omega
    have := hc j (by omega)
    rw [dk_add] at this
    rw [this]
    unfold bsOf at hj
    rw [List.getElem?_map, List.getElem?_take, if_pos hj', List.getElem?_eq_getElem hjz] at hj
    simp only [Option.map_some, Option.some.injEq] at hj
    have hwz := hw zs[j] (List.getElem_mem hjz)
    have e1 : IntKind.u8.min = 0 := rfl
    have e2 : IntKind.u8.max = 255 := rfl
    simp [Lit.wf, e1, e2] at hwz
    have e3 : zs.getD j 0 = zs[j] := by simp [List.getD, List.getElem?_eq_getElem hjz]
    rw [e3, ← hj]
    have e4 : (UInt8.ofNat zs[j].toNat).toNat = zs[j].toNat := by simp; omega
    rw [e4]
    congr 2
    omega

set_option maxRecDepth 100000 in
theorem contract (H : Type) (enc : TypeId × Value → H) (W : World) (base : Nat) (args : Array Value) (ds gs : List (DataW H)) (before : List MemPlace)
    (hval : ∀ (j : Nat) t v, Tryd.f3.params[j]? = some t → args[j]? = some v → Value.okWide Tryd.prog W .any base t v)
    (hW : DataW.Whole enc Tryd.prog Tryd.f3.params.toList Rows.diskAppendSpec.vars false W args.toList ds gs before)
    (hsz : (DataW.weightsEach Tryd.prog (Tryd.f3.params.toList ++ Rows.diskAppendSpec.plain.varTypes Tryd.prog) (ds ++ gs)).all (· ≤ reachBytes) = true) :
    Calls Tryd.prog 3 args W fun e W' => ∃ v, e = .returned v ∧ Rows.diskAppendSpec.post enc Tryd.prog Tryd.f3 false true false false W args v W' := by
  have hW' := hW
  obtain ⟨p, q, hA0, hV, rfl, hfz, hnd⟩ := hW
  have hA : DataW.TrodAll enc Tryd.prog W 0 (fun _ => true) true Tryd.f3.params.toList args.toList ds p := hA0
  rw [Tryd.params3] at hA hval
  obtain ⟨v0, vs0, d0, ds0, p0, q0, hargs, rfl, rfl, h0, r0⟩ := trodAll_cons hA
  obtain ⟨v1, vs1, d1, ds1, p1, q1, hargs1, rfl, rfl, h1, r1⟩ := trodAll_cons r0
  obtain ⟨v2, vs2, d2, ds2, p2, q2, hargs2, rfl, rfl, h2, r2⟩ := trodAll_cons r1
  obtain ⟨rfl, rfl, rfl⟩ := trodAll_nil r2
  obtain rfl : args = #[v0, v1, v2] := by cases args; simp_all
  obtain ⟨rfl, rfl⟩ := trodVars_none hV
  clear hA0
  simp only [List.append_nil] at hW'
  have hlt : ∀ x ∈ p0 ++ (p1 ++ p2), x.block < W.heap.size := fun x hx => by simpa using hW'.lt x hx
  obtain ⟨sy, rfl, rfl, rfl, hwf⟩ := open_int Tryd.underlying5 (hval 1 5 v1 rfl rfl) h1
  have e1 : IntKind.u8.min = 0 := rfl
  have e2 : IntKind.u8.max = 255 := rfl
  simp [Lit.wf, e1, e2] at hwf
  obtain ⟨n, rfl⟩ : ∃ n : Nat, sy = n := ⟨sy.toNat, by omega⟩
  obtain ⟨a0, l0, c0, rfl⟩ := okWide_slice Tryd.underlying22 (hval 0 22 v0 rfl rfl)
  obtain ⟨a2, l2, c2, rfl⟩ := okWide_slice Tryd.underlying23 (hval 2 23 v2 rfl rfl)
  have hpieces : ∃ ps, PiecesAt W (.slice a0 l0 c0) ps := by
    obtain ⟨fuel, hf⟩ := h0
    rcases Go.Deep.open_int_rows Tryd.underlying22 Tryd.underlying23 Tryd.underlying5 cellsS cellsB hf with ⟨hcs, _⟩ | ⟨a, len, cap, A, L, C, Z, hcs, _, hl, hm, _, hx⟩
    · simp [Value.cells] at hcs
      obtain ⟨rfl, rfl, rfl⟩ := hcs
      exact ⟨[], none, 0, rfl, by decide, fun i p hp => by simp at hp⟩
    · simp [Value.cells] at hcs
      obtain ⟨rfl, rfl, rfl⟩ := hcs
      have hm' : c0 ≤ 9223372036854775807 := by unfold maxLen at hm; omega
      refine ⟨(List.range l0).map fun r => bsOf (Z r) (L r), some a, c0, by simp, by simp; omega, fun i p hp => ?_⟩
      rw [List.getElem?_map] at hp
      have hi : i < l0 := by
        rcases Nat.lt_or_ge i l0 with h | h
        · exact h
        · rw [List.getElem?_eq_none (by simpa using h)] at hp; cases hp
      rw [List.getElem?_eq_getElem (by simpa using hi)] at hp
      simp only [List.getElem_range, Option.map_some, Option.some.injEq] at hp
      subst hp
      obtain ⟨k1, k2, k3, k4, k5, k6, k7⟩ := hx i (by omega)
      obtain ⟨b, off, spot⟩ := a
      have hspot : spot = none := by simpa [Addr.add] using World.cell?_spot (hx 0 (by omega)).1
      subst hspot
      rw [dk_add] at k1
      refine ⟨b, off, _, rfl, k1, ?_⟩
      cases hA : A i with
      | none =>
        have hL : L i = 0 := by have := k6 hA; omega
        rw [hL]
        exact .inl ⟨by simp [bsOf], none, C i, rfl⟩
      | some a' => exact rdB_of_ints W a' (L i) (C i) (Z i) k2 k4 (k7 a' hA).2 k5
  have hchoices : ∃ ch, RdB W W.heap.size (.slice a2 l2 c2) ch ∧ (Value.slice a2 l2 c2 = .slice none 0 0 ∨ ∃ ad n c, Value.slice a2 l2 c2 = .slice (some ad) n c) ∧ ch.length ≤ 140737488355328 := by
    obtain ⟨fuel, hf⟩ := h2
    rcases open_ints Tryd.underlying23 Tryd.underlying5 cellsB hf with ⟨hcs, _⟩ | ⟨a, len, cap, zs, hcs, _, hl, hm, hz, hx, hcell, hwz⟩
    · simp [Value.cells] at hcs
      obtain ⟨rfl, rfl, rfl⟩ := hcs
      exact ⟨[], .inl ⟨rfl, none, 0, rfl⟩, .inl rfl, by simp⟩
    · simp [Value.cells] at hcs
      obtain ⟨rfl, rfl, rfl⟩ := hcs
      simp only [Prod.mk.injEq] at hx
      obtain ⟨rfl, rfl⟩ := hx
      simp only [if_true] at hz
      have hw := sized_slice hsz (j := 2) (t := 23) (e := 5) (elems := lits .u8 (zs.take l2)) (spare := lits .u8 (zs.drop l2)) (by rw [Tryd.params3]; rfl) (by rfl) Tryd.underlying23
      rw [bytesB] at hw
      have hr : reachBytes = 140737488351232 := rfl
      refine ⟨bsOf zs l2, rdB_of_ints W a l2 c2 zs hl hz (fun i hi => hcell i (by omega)) hwz, .inr ⟨_, _, _, rfl⟩, ?_⟩
      have hlen : (bsOf zs l2).length = l2 := by unfold bsOf; rw [List.length_map, List.length_take]; omega
      have e5 : (lits (H := H) .u8 (zs.take l2)).length + (lits (H := H) .u8 (zs.drop l2)).length = c2 := by simp [lits]; omega
      rw [e5, hr] at hw
      omega
  obtain ⟨ps, hps⟩ := hpieces
  obtain ⟨ch, hch, hch2, hch3⟩ := hchoices
  refine (law_append W _ _ ps n ch hps (by omega) hch hch2 hch3).mono fun e W' ⟨he, hb⟩ => ?_
  subst he
  have t0 := Below.trod laidOut (by kernel_rfl) (of_decide_eq_true (by kernel_rfl)) h0 hb (fun x hx => hlt x (by simp [hx]))
  have t1 := Below.trod laidOut (by kernel_rfl) (of_decide_eq_true (by kernel_rfl)) h1 hb (fun x hx => by cases hx)
  have t2 := Below.trod laidOut (by kernel_rfl) (of_decide_eq_true (by kernel_rfl)) h2 hb (fun x hx => hlt x (by simp [hx]))
  exact ⟨_, rfl, _, _, _, [], _, [], hW', trodAll_cons_mk (shut_bool Tryd.underlying4 _) trodAll_mk0, trodAll_cons_mk t0 (trodAll_cons_mk t1 (trodAll_cons_mk t2 trodAll_mk0)), rfl, hb.frame _, fun h => by cases h⟩

/-- A world for the witness: the door's own, the pinned table laid in it. -/
noncomputable def laidWorld (os : Os) : World := (World.doorLaid Tryd.prog 300 os).layVars Tryd.prog [("unicode/utf8.first", Rows.laid_unicode_utf8_first)]
theorem laid_os (os : Os) : (laidWorld os).os = os := by unfold laidWorld; rw [World.layVars_os]; rfl

set_option maxRecDepth 100000 in
theorem laid_met (os : Os) : laidMetH Tryd.prog Rows.diskAppendRow.laid ((laidWorld os).forCall (fun _ _ => 0) ⟨#[], #[.slice none 0 0, .int .u8 0, .slice none 0 0], []⟩).memory :=
  laidMetH_of_parts3 (fuel := 8)
    (laidMet_layVars (w0 := World.doorLaid Tryd.prog 300 os) ["unicode/utf8.first"] [1] (by rfl) (by kernel_rfl) (by kernel_rfl)
      (LaidIn.of_run _ 8 (by kernel_rfl) (by kernel_rfl) (by kernel_rfl) (by kernel_rfl))) (by kernel_rfl) (by kernel_rfl)

theorem reads (os : Os) {H : Type} (enc : TypeId × Value → H) : ∃ places, DataW.whole enc Tryd.prog ((laidWorld os).forCall (fun _ _ => 0) ⟨#[], #[.slice none 0 0, .int .u8 0, .slice none 0 0], []⟩).memory Tryd.f3.params.toList Rows.diskAppendSpec.vars false #[Value.slice none 0 0, .int .u8 0, .slice none 0 0].toList 8 = some ([.nil, .lit (.int .u8 0), .nil], [], places) :=
  ⟨[], by kernel_rfl⟩

set_option maxRecDepth 100000 in
theorem lifted (os : Os) (started : os.Started) (H : Type) (enc : TypeId × Value → H) (F : Stop.Interp) :
    ReturnsInHanded {} Tryd.checked os 3 .any ((OpenSpec.ofChange Rows.diskAppendSpec).preRow enc Tryd.prog Tryd.f3 Rows.diskAppendRow.domain false Rows.diskAppendRow.laid) (((OpenSpec.ofChange Rows.diskAppendSpec).at F).post enc Tryd.prog Tryd.f3 false true false false) := by
  obtain ⟨places, hx⟩ := reads os enc
  refine returnsInHanded_of_row (C := Tryd.checked) (s := OpenSpec.ofChange Rows.diskAppendSpec) own started (by kernel_rfl) Tryd.func3
    (witness_row_atRef (enc := enc) (C := Tryd.checked) false (laidWorld os) #[.slice none 0 0, .int .u8 0, .slice none 0 0] (laid_os os) (by kernel_rfl) (by kernel_rfl) (by kernel_rfl)
      (OpenSpec.preRow_of_cond 8 hx (by kernel_rfl) (fun k hk => by cases hk) (by kernel_rfl) (laid_met os))) ?_
  intro W base args ds gs before hval hW _ _ hsz _ _ _
  exact contract H enc W base args ds gs before hval hW hsz

theorem said : Rows.DiskAppendSaid :=
  OpenClaim.holds_of_cond 3 Tryd.f3 rfl rfl rfl rfl rfl rfl rfl ⟨rfl, rfl, rfl, rfl, rfl⟩ rfl rfl rfl rfl rfl (by kernel_rfl) Tryd.func3 (by kernel_rfl)
    (of_decide_eq_true (by kernel_rfl)) (by unfold Func.isWrapper; first | (rw [if_pos (by decide +kernel)]; kernel_rfl) | (rw [if_neg (by decide +kernel)]; exact ⟨rfl, rfl⟩))
    (fun os started H enc _ F => by rw [OpenClaim.pre_eq_preRow]; exact lifted os started H enc F)

theorem plain (f : FuncId) (fn : Func) (hf : Tryd.pinned.checked.prog.funcNamed "giro/girolaw10.DiskAppend" = some f) (hfn : Tryd.pinned.checked.prog.funcs[f]? = some fn) :
    false = Tryd.pinned.checked.prog.looks [] ∧ ∀ (j : Nat) t, fn.params[j]? = some t → Tryd.pinned.checked.prog.wantsStandIn t = false := by
  obtain rfl : f = 3 := Option.some.inj ((show Tryd.prog.funcNamed "giro/girolaw10.DiskAppend" = some 3 by kernel_rfl).symm.trans hf) |>.symm
  obtain rfl : fn = Tryd.f3 := (Option.some.inj (Tryd.func3.symm.trans hfn)).symm
  refine ⟨by kernel_rfl, fun j t ht => ?_⟩
  rw [Tryd.params3] at ht
  have hm := Array.mem_of_getElem? ht
  simp at hm
  rcases hm with rfl | rfl | rfl
  · exact (show Tryd.prog.wantsStandIn 22 = false by kernel_rfl)
  · exact (show Tryd.prog.wantsStandIn 5 = false by kernel_rfl)
  · exact (show Tryd.prog.wantsStandIn 23 = false by kernel_rfl)

/-- THE CARD. -/
theorem card : Rows.DiskAppendCardSaid :=
  Claim7.holds_tied_plain_at .later [] _ _ _ _ said (fun _ h => by cases h) (by kernel_rfl) (fun _ h => by cases h) diskAppend_row_tie rfl ⟨rfl, rfl⟩ (by kernel_rfl) rfl plain (by kernel_rfl)
#print axioms card
end Go.Proofs.YtegahpgnmeobhaaDoor.lawApp
