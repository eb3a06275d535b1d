/-
  THE REFERENCE: change: its frame; Create.
-/
import Derived.Test.YtegahpgnmeobhaaGreatDoorRfWith
import Derived.Test.YtegahpgnmeobhaaGreatDoorDkNil
import Derived.Test.YtegahpgnmeobhaaGreatDoorRfNilPlain
namespace Go.Proofs.YtegahpgnmeobhaaGreatDoor
open Go.RowKit

theorem results_cell_t3 {P : Program} {fn : Func} {p u v : Tmp} {ty : TypeId} (h : fn.results = #[.cell p ty, .tmp u, .tmp v]) (tmps : Array Value) (w : World) (g : Nat) (t : TypeId) (cs : Array Value) (fr : Nat × Nat) (d : TypeDesc)
    (hp : tmps.getD p undef = .pointer (some ⟨g, 0, none⟩)) (hg : w.heap[g]? = some (.cells cs t fr))
    (hu : P.underlying ty = some d) (hd : (match d with | .struct _ | .array _ _ => true | _ => false) = true) (hi : (P.info? ty).map (·.size) = some cs.size) :
    (results fn tmps).run P w = .ok (.tuple #[.agg cs, tmps.getD u undef, tmps.getD v undef]) w := by
  have hp' : tmps[p]?.getD undef = .pointer (some ⟨g, 0, none⟩) := by simpa using hp
  simp [results, h, hp', asAddr, run_loadVar_row w g t ty cs fr d hg hu hd hi]
theorem results_cell_t2 {P : Program} {fn : Func} {p u : Tmp} {ty : TypeId} (h : fn.results = #[.cell p ty, .tmp u]) (tmps : Array Value) (w : World) (g : Nat) (t : TypeId) (cs : Array Value) (fr : Nat × Nat) (d : TypeDesc)
    (hp : tmps.getD p undef = .pointer (some ⟨g, 0, none⟩)) (hg : w.heap[g]? = some (.cells cs t fr))
    (hu : P.underlying ty = some d) (hd : (match d with | .struct _ | .array _ _ => true | _ => false) = true) (hi : (P.info? ty).map (·.size) = some cs.size) :
    (results fn tmps).run P w = .ok (.tuple #[.agg cs, tmps.getD u undef]) w := by
  have hp' : tmps[p]?.getD undef = .pointer (some ⟨g, 0, none⟩) := by simpa using hp
  simp [results, h, hp', asAddr, run_loadVar_row w g t ty cs fr d hg hu hd hi]

/-- what change leaves -/
def ChPost (c : Nat → Nat) (W : World) (D : Dk.D) (fs : List (Dk.Bs × Dk.Fl)) (r : Int) (b : Bool) (e : Ending) (W' : World) : Prop :=
  ∃ v', e = .returned (.tuple #[v', .int .i64 r, .bool b]) ∧ RfD c W' v' { D with fs := fs } ∧ Below W.heap.size W W'

/-- the cells of change's three boxes -/
def ChCells (w : World) (B : Nat) (sv : Value) (bud : Int) (down : Bool) (o0 o1 o2 o3 o4 : Value) : Prop :=
  (w.cell? ⟨B, 0, none⟩ = some sv ∧ w.cell? ⟨B, 1, none⟩ = some (.int .i64 bud) ∧ w.cell? ⟨B, 2, none⟩ = some (.bool down)) ∧
  (w.cell? ⟨B + 1, 0, none⟩ = some o0 ∧ w.cell? ⟨B + 1, 1, none⟩ = some o1 ∧ w.cell? ⟨B + 1, 2, none⟩ = some o2 ∧ w.cell? ⟨B + 1, 3, none⟩ = some o3 ∧ w.cell? ⟨B + 1, 4, none⟩ = some o4) ∧
  (w.cell? ⟨B + 1 + 1, 0, none⟩ = some (.slice none 0 0) ∧ w.cell? ⟨B + 1 + 1, 1, none⟩ = some (.int .i64 0) ∧ w.cell? ⟨B + 1 + 1, 2, none⟩ = some (.bool false)) ∧
  (w.frozen? ⟨B, 0, none⟩ = false ∧ w.frozen? ⟨B, 1, none⟩ = false ∧ w.frozen? ⟨B, 2, none⟩ = false) ∧
  (w.frozen? ⟨B + 1 + 1, 0, none⟩ = false ∧ w.frozen? ⟨B + 1 + 1, 1, none⟩ = false ∧ w.frozen? ⟨B + 1 + 1, 2, none⟩ = false) ∧
  w.heap[B]? = some (.cells #[sv, .int .i64 bud, .bool down] 27 (0, 0)) ∧
  w.heap[B + 1 + 1]? = some (.cells #[.slice none 0 0, .int .i64 0, .bool false] 27 (0, 0))

theorem ch_start (W : World) (sv : Value) (bud : Int) (down : Bool) (o0 o1 o2 o3 o4 : Value) :
    ∃ W3, W3 = ((W.alloc (.cells #[sv, .int .i64 bud, .bool down] 27)).alloc (.cells #[o0, o1, o2, o3, o4] 54)).alloc (.cells #[.slice none 0 0, .int .i64 0, .bool false] 27) ∧
      Below W.heap.size W W3 ∧ W3.heap.size = W.heap.size + 3 ∧ ∀ wz, Below W3.heap.size W3 wz → ChCells wz W.heap.size sv bud down o0 o1 o2 o3 o4 := by
  obtain ⟨W3, hW3⟩ : ∃ W3, W3 = ((W.alloc (.cells #[sv, .int .i64 bud, .bool down] 27)).alloc (.cells #[o0, o1, o2, o3, o4] 54)).alloc (.cells #[.slice none 0 0, .int .i64 0, .bool false] 27) := ⟨_, rfl⟩
  have hz : W3.heap.size = W.heap.size + 3 := by rw [hW3]; simp
  have r1 : W3.heap[W.heap.size]? = some (.cells #[sv, .int .i64 bud, .bool down] 27 (0, 0)) := by
    rw [hW3, Below.heap_alloc _ _ _ (by simp; omega), Below.heap_alloc _ _ _ (by simp)]; exact heap_alloc_new W _
  have r2 : W3.heap[W.heap.size + 1]? = some (.cells #[o0, o1, o2, o3, o4] 54 (0, 0)) := by
    rw [hW3, Below.heap_alloc _ _ _ (by simp)]; exact rf_new2 W _ _
  have r3 : W3.heap[W.heap.size + 1 + 1]? = some (.cells #[.slice none 0 0, .int .i64 0, .bool false] 27 (0, 0)) := by
    rw [hW3]; have := rf_new2 (W.alloc (.cells #[sv, .int .i64 bud, .bool down] 27)) (.cells #[o0, o1, o2, o3, o4] 54) (.cells #[.slice none 0 0, .int .i64 0, .bool false] 27); simpa using this
  refine ⟨W3, hW3, by rw [hW3]; exact (((Below.refl _ _).alloc (Nat.le_refl _) _).alloc (by simp) _).alloc (by simp; omega) _, hz, fun wz hb => ?_⟩
  have q1 := (hb.block _ (by omega)).trans r1
  have q2 := (hb.block _ (by omega)).trans r2
  have q3 := (hb.block _ (by omega)).trans r3
  refine ⟨⟨?_, ?_, ?_⟩, ⟨?_, ?_, ?_, ?_, ?_⟩, ⟨?_, ?_, ?_⟩, ⟨dk_frozen _ _ _ _ _ q1, dk_frozen _ _ _ _ _ q1, dk_frozen _ _ _ _ _ q1⟩, ⟨dk_frozen _ _ _ _ _ q3, dk_frozen _ _ _ _ _ q3, dk_frozen _ _ _ _ _ q3⟩, q1, q3⟩
  all_goals first
    | (rw [cell_of_row wz _ _ _ _ _ q1]; rfl)
    | (rw [cell_of_row wz _ _ _ _ _ q2]; rfl)
    | (rw [cell_of_row wz _ _ _ _ _ q3]; rfl)

/-- the end: the result box is written -/
theorem ch_below {W wz : World} {v0 v1 v2 : Value} (hb : Below W.heap.size W wz) : Below W.heap.size W (((wz.setCell ⟨W.heap.size + 1 + 1, 0, none⟩ v0).setCell ⟨W.heap.size + 1 + 1, 1, none⟩ v1).setCell ⟨W.heap.size + 1 + 1, 2, none⟩ v2) :=
  ((hb.setCell (by simp; omega) _).setCell (by simp; omega) _).setCell (by simp; omega) _
theorem ch_same {c : Nat → Nat} {W wz : World} {sv : Value} {xs : List Re} {D : Dk.D} (hfs : D.fs = xs.map Re.ent) (hA : RfAt c W sv xs) (hb : Below W.heap.size W wz) (r : Int) (b : Bool) {v0 v1 v2 : Value} :
    ChPost c W D D.fs r b (.returned (.tuple #[.agg #[sv, .int .i64 D.bud, .bool D.down], .int .i64 r, .bool b])) (((wz.setCell ⟨W.heap.size + 1 + 1, 0, none⟩ v0).setCell ⟨W.heap.size + 1 + 1, 1, none⟩ v1).setCell ⟨W.heap.size + 1 + 1, 2, none⟩ v2) :=
  ⟨_, rfl, ⟨sv, xs, rfl, hfs, hA.below (ch_below hb)⟩, ch_below hb⟩
theorem ch_new {c : Nat → Nat} {W wz : World} {sv : Value} {ys : List Re} {D : Dk.D} {B : Nat} (hc : New0 c W.heap.size) (hb : Below W.heap.size W wz) (hB : W.heap.size + 3 ≤ B) (hown : wz.ownsRow B 37 3 sv ys.length (reCells ys)) (hl : ys.length ≤ 65536)
    {v0 v1 v2 : Value} (hys : ∀ y ∈ ys, ReAt c (((wz.setCell ⟨W.heap.size + 1 + 1, 0, none⟩ v0).setCell ⟨W.heap.size + 1 + 1, 1, none⟩ v1).setCell ⟨W.heap.size + 1 + 1, 2, none⟩ v2) y) (fs : List (Dk.Bs × Dk.Fl)) (hfs : fs = ys.map Re.ent) (r : Int) (b : Bool) :
    ChPost c W D fs r b (.returned (.tuple #[.agg #[sv, .int .i64 D.bud, .bool D.down], .int .i64 r, .bool b])) (((wz.setCell ⟨W.heap.size + 1 + 1, 0, none⟩ v0).setCell ⟨W.heap.size + 1 + 1, 1, none⟩ v1).setCell ⟨W.heap.size + 1 + 1, 2, none⟩ v2) := by
  have ho := hown.kept (rf_store3_grown (b := W.heap.size + 1 + 1) (v0 := v0) (v1 := v1) (v2 := v2)) (Or.inr (fun e => by have := (hown.lt _ e).1; omega))
  exact ⟨_, rfl, ⟨sv, ys, rfl, hfs, RfAt.own0 ho (hc.mono (by omega)) hys hl⟩, ch_below hb⟩

/-- an own row stays where its block stays -/
theorem ho_keep {w w' : World} {B : Nat} {t : TypeId} {sz : Nat} {v : Value} {n : Nat} {xs : List Value} (h : w.ownsRow B t sz v n xs) (_hs : w.heap.size ≤ w'.heap.size) (hk : ∀ b, B ≤ b → b < w.heap.size → w'.heap[b]? = w.heap[b]?) : w'.ownsRow B t sz v n xs := by
  refine ⟨h.1, ?_⟩
  rcases h.2 with hn | ⟨g, cap, cur, hv, hB, hg, r⟩
  · exact .inl hn
  · exact .inr ⟨g, cap, cur, hv, hB, (hk g hB (Array.getElem?_eq_some_iff.1 hg).1).trans hg, r⟩
/-- the world behind the stores into the box of the disk, the row of files, the result box -/
def chT2 (w : World) (B : Nat) (s0 s1 s2 : Value) : World := ((w.setCell ⟨B, 0, none⟩ s0).setCell ⟨B, 1, none⟩ s1).setCell ⟨B, 2, none⟩ s2
def chT3 (w : World) (g k : Nat) (y : Re) : World := ((w.setCell ⟨g, k * 3, none⟩ (.string ⟨y.nm.toArray⟩)).setCell ⟨g, k * 3 + 1, none⟩ y.dv).setCell ⟨g, k * 3 + 2, none⟩ y.wv
theorem chT3_row {w : World} {g k p : Nat} {xs : List Re} {B : Nat} (y : Re) (hk : k < xs.length) (ho : w.ownsRow B 37 3 (.slice (some ⟨g, 0, none⟩) xs.length p) xs.length (reCells xs)) :
    (chT3 w g k y).ownsRow B 37 3 (.slice (some ⟨g, 0, none⟩) xs.length p) xs.length (reCells (xs.set k y)) ∧ w.grownBy (chT3 w g k y) (some g) := by
  obtain ⟨o1, _⟩ := ho.stored (k * 3) (.string ⟨y.nm.toArray⟩)
  obtain ⟨o2, _⟩ := o1.stored (k * 3 + 1) y.dv
  obtain ⟨o3, _⟩ := o2.stored (k * 3 + 2) y.wv
  rw [reCells_set xs k y hk] at o3
  exact ⟨o3, dk_grown_setCell _ _ _ _ _ (dk_grown_setCell _ _ _ _ _ (dk_grown_setCell _ _ _ _ _ ⟨rfl, rfl, rfl, Nat.le_refl _, fun _ _ _ => rfl⟩))⟩
theorem ch_put {c : Nat → Nat} {W wm w7 : World} {D : Dk.D} {sv : Value} {xs : List Re} {g p k L : Nat} {n : Dk.Bs} {f' : Dk.Fl} (y : Re) {s0 s1 s2 v0 v1 v2 : Value} {x0 x1 x2 : Value} (hc : New0 c W.heap.size) (hfs : D.fs = xs.map Re.ent) (hA : RfAt c W sv xs)
    (hR : Dk.Rising D.fs) (hkp : Dk.pos n D.fs = some k) (hk : k < xs.length) (hb0 : Below W.heap.size W wm) (hL : W.heap.size + 3 ≤ L) (hLm : L ≤ wm.heap.size) (h7 : Below wm.heap.size wm w7)
    (ho : w7.ownsRow wm.heap.size 37 3 (.slice (some ⟨g, 0, none⟩) xs.length p) xs.length (reCells xs)) (hye : y.ent = (n, f'))
    (hy : ∀ W', Below W.heap.size W W' → wm.heap.size ≤ W'.heap.size → (∀ b, L ≤ b → b < wm.heap.size → W'.heap[b]? = wm.heap[b]?) → ReAt c W' y)
    (hq : w7.heap[W.heap.size + 1 + 1]? = some (.cells #[x0, x1, x2] 27 (0, 0))) :
    (chT3 (chT2 w7 W.heap.size s0 s1 s2) g k y).heap[W.heap.size + 1 + 1]? = some (.cells #[x0, x1, x2] 27 (0, 0)) ∧
    ChPost c W D (Dk.upd n f' D.fs) 0 true (.returned (.tuple #[.agg #[.slice (some ⟨g, 0, none⟩) xs.length p, .int .i64 D.bud, .bool D.down], .int .i64 0, .bool true])) (chT2 (chT3 (chT2 w7 W.heap.size s0 s1 s2) g k y) (W.heap.size + 1 + 1) v0 v1 v2) := by
  have hgm := (ho.lt g rfl).1
  have g2 : w7.grownBy (chT2 w7 W.heap.size s0 s1 s2) (some W.heap.size) := rf_store3_grown
  have o2 := ho.kept g2 (Or.inr (fun e => by have e' : g = W.heap.size := by simpa [Value.ownBlock] using e
                                             omega))
  obtain ⟨o3, g3⟩ := chT3_row y hk o2
  have s7 := h7.size
  have s2' := g2.size
  have s3' := g3.size
  have hq3 : (chT3 (chT2 w7 W.heap.size s0 s1 s2) g k y).heap[W.heap.size + 1 + 1]? = some (.cells #[x0, x1, x2] 27 (0, 0)) := by
    rw [g3.block _ (by omega) (fun e => by cases e; omega), g2.block _ (by omega) (fun e => by injection e with e; omega)]
    exact hq
  have hb7 : Below W.heap.size W w7 := hb0.trans (h7.mono hb0.size)
  have hb3 : Below W.heap.size W (chT3 (chT2 w7 W.heap.size s0 s1 s2) g k y) := (hb7.grown g2 hb7.size (fun j hj => by cases hj; omega)).grown g3 (by omega) (fun j hj => by cases hj; omega)
  have hlen : (xs.set k y).length = xs.length := List.length_set
  refine ⟨hq3, ch_new (B := wm.heap.size) hc hb3 (by omega) (by rw [hlen]; exact o3) (by rw [hlen]; exact hA.2.2) (fun y' hy' => ?_) _ ?_ _ _⟩
  · rcases List.mem_or_eq_of_mem_set hy' with hy' | rfl
    · exact (hA.2.1 y' hy').below (ch_below hb3)
    · have g4 : (chT3 (chT2 w7 W.heap.size s0 s1 s2) g k y').grownBy (chT2 (chT3 (chT2 w7 W.heap.size s0 s1 s2) g k y') (W.heap.size + 1 + 1) v0 v1 v2) (some (W.heap.size + 1 + 1)) := rf_store3_grown
      change ReAt c (chT2 (chT3 (chT2 w7 W.heap.size s0 s1 s2) g k y') (W.heap.size + 1 + 1) v0 v1 v2) y'
      refine hy _ (ch_below hb3) (by have := g4.size; omega) (fun b hb1 hb2 => ?_)
      rw [g4.block b (by omega) (fun e => by injection e with e; omega), g3.block b (by omega) (fun e => by injection e with e; omega), g2.block b (by omega) (fun e => by injection e with e; omega), h7.block b hb2]
  · rw [← Dk.upd_eq f' hR.ne hkp, hfs, List.map_set, hye]

theorem Dk.posInt_none {n : Dk.Bs} {fs : List (Dk.Bs × Dk.Fl)} (h : Dk.find n fs = none) : Dk.posInt n fs = -1 := by
  unfold Dk.posInt; rw [Dk.pos_none.2 h]
theorem Dk.posInt_some {n : Dk.Bs} {f : Dk.Fl} {fs : List (Dk.Bs × Dk.Fl)} (h : Dk.find n fs = some f) : ∃ k, Dk.pos n fs = some k ∧ Dk.posInt n fs = k ∧ k < fs.length ∧ fs[k]? = some (n, f) := by
  cases hp : Dk.pos n fs with
  | none => rw [Dk.pos_none.1 hp] at h; cases h
  | some k =>
    obtain ⟨f', h1, h2, _⟩ := Dk.pos_some hp
    rw [h2] at h
    cases h
    exact ⟨k, rfl, by unfold Dk.posInt; rw [hp], (List.getElem?_eq_some_iff.1 h1).1, h1⟩
theorem Dk.find_none_ne {n : Dk.Bs} {fs : List (Dk.Bs × Dk.Fl)} (h : Dk.find n fs = none) : ∀ p ∈ fs, p.1 ≠ n := by
  intro p hp e
  unfold Dk.find at h
  rw [Option.map_eq_none_iff, List.find?_eq_none] at h
  have := h p hp
  simp [e] at this

namespace Dk
def change0 (d : D) (n : Bs) : List (Bs × Fl) × Int × Bool := if createCheck d n ≠ 0 then (d.fs, createCheck d n, false) else (ins n ⟨[], []⟩ d.fs, 0, true)
end Dk

set_option maxRecDepth 100000 in
set_option maxHeartbeats 1000000 in
theorem rf_change0 {c : Nat → Nat} {W : World} {v : Value} {D : Dk.D} (hc : New0 c W.heap.size) (h : RfD c W v D) (hmany : D.fs.length < 65536) (n : Dk.Bs) (hn : n.length ≤ 9223372036854775807) (o2 o3 o4 : Value) :
    Calls Tryz.prog 56 #[v, .agg #[.int .i64 0, .string ⟨n.toArray⟩, o2, o3, o4]] W (ChPost c W D (Dk.change0 D n).1 (Dk.change0 D n).2.1 (Dk.change0 D n).2.2) := by
  obtain ⟨sv, xs, rfl, hfs, hA⟩ := h
  have hlx : D.fs.length = xs.length := by rw [hfs]; simp
  have hA' := hA
  obtain ⟨ao, cap, rfl, hcap, _⟩ := hA'.source
  obtain ⟨W3, hW3, hb3, hz, hcl⟩ := ch_start W (.slice ao xs.length cap) D.bud D.down (.int .i64 0) (.string ⟨n.toArray⟩) o2 o3 o4
  have hfd := rf_find (c := c) (W := W3) (v := rfVal (.slice ao xs.length cap) D) (D := D) ⟨_, xs, rfl, hfs, hA.below hb3⟩ n
  have HFD := Lib.hid hfd
  have HCL := Lib.hid hcl
  have HW3 := Lib.hid hW3
  have HB3 := Lib.hid hb3
  have HZ := Lib.hid hz
  have HA := Lib.hid hA
  have HC := Lib.hid hc
  have HFS := Lib.hid hfs
  have HLX := Lib.hid hlx
  clear hfd hcl hW3 hb3 hz hA' hc hfs hlx
  unfold rfVal at HFD ⊢
  unfold Dk.change0 Dk.createCheck
  cases hv : Dk.valid n with
  | false =>
    simp only [if_true]
    go_enter Tryz.func56, Tryz.ntmps56
    go_wp2_with fail
    rw [← HW3.out]
    refine HFD.out.mono ?_
    rintro e w4 ⟨rfl, hb4⟩
    obtain ⟨⟨a0, a1, a2⟩, ⟨b0, b1, b2, b3, b4⟩, ⟨d0, d1, d2⟩, _, ⟨g0, g1, g2⟩, q1, q3⟩ := HCL.out w4 hb4
    have Q3 := Lib.hid q3
    have HB4 := Lib.hid hb4
    have HV := Lib.hid hv
    clear q1 q3 hb4 hv
    go_wp2_with fail
    refine (rf_valid ⟨n.toArray⟩ w4 (by simpa [ByteArray.size] using hn)).mono ?_
    rintro e w5 ⟨rfl, rfl⟩
    rw [show (⟨n.toArray⟩ : ByteArray).data.toList = n from by simp, HV.out]
    go_wp2_with fail
    refine bodyPost_ret (results_cell_t3 rfl _ _ (W.heap.size + 1 + 1) _ _ (0, 0) _ rfl (rf_store3 Q3.out) Tryz.underlying27 rfl (by kernel_rfl)) rfl ?_
    exact ch_same HFS.out HA.out (HB3.out.trans (HB4.out.mono (by rw [HZ.out]; omega))) _ _
  | true =>
    simp only [Bool.true_eq_false, if_false]
    cases hf : Dk.find n D.fs with
    | some f =>
      simp only [Option.isSome_some, if_true]
      obtain ⟨k, _, hk, _⟩ := Dk.posInt_some hf
      rw [hk] at HFD
      clear hk hf
      go_enter Tryz.func56, Tryz.ntmps56
      go_wp2_with fail
      rw [← HW3.out]
      refine HFD.out.mono ?_
      rintro e w4 ⟨rfl, hb4⟩
      obtain ⟨⟨a0, a1, a2⟩, ⟨b0, b1, b2, b3, b4⟩, ⟨d0, d1, d2⟩, _, ⟨g0, g1, g2⟩, q1, q3⟩ := HCL.out w4 hb4
      have Q3 := Lib.hid q3
      have HB4 := Lib.hid hb4
      have HV := Lib.hid hv
      clear q1 q3 hb4 hv
      go_wp2_with fail
      refine (rf_valid ⟨n.toArray⟩ w4 (by simpa [ByteArray.size] using hn)).mono ?_
      rintro e w5 ⟨rfl, rfl⟩
      rw [show (⟨n.toArray⟩ : ByteArray).data.toList = n from by simp, HV.out]
      go_wp2_with fail
      refine bodyPost_ret (results_cell_t3 rfl _ _ (W.heap.size + 1 + 1) _ _ (0, 0) _ rfl (rf_store3 Q3.out) Tryz.underlying27 rfl (by kernel_rfl)) rfl ?_
      exact ch_same HFS.out HA.out (HB3.out.trans (HB4.out.mono (by rw [HZ.out]; omega))) _ _
    | none =>
      rw [Dk.posInt_none hf] at HFD
      by_cases hl : 256 ≤ D.fs.length
      · simp only [Option.isSome_none, Bool.false_eq_true, if_false, if_pos hl]
        have hl2 : (256 : Int) ≤ xs.length := by have := HLX.out; omega
        clear hf
        go_enter Tryz.func56, Tryz.ntmps56
        go_wp2_with fail
        rw [← HW3.out]
        refine HFD.out.mono ?_
        rintro e w4 ⟨rfl, hb4⟩
        obtain ⟨⟨a0, a1, a2⟩, ⟨b0, b1, b2, b3, b4⟩, ⟨d0, d1, d2⟩, _, ⟨g0, g1, g2⟩, q1, q3⟩ := HCL.out w4 hb4
        have Q3 := Lib.hid q3
        have HB4 := Lib.hid hb4
        have HV := Lib.hid hv
        clear q1 q3 hb4 hv
        go_wp2_with fail
        refine (rf_valid ⟨n.toArray⟩ w4 (by simpa [ByteArray.size] using hn)).mono ?_
        rintro e w5 ⟨rfl, rfl⟩
        rw [show (⟨n.toArray⟩ : ByteArray).data.toList = n from by simp, HV.out]
        go_wp2_with fail
        refine bodyPost_ret (results_cell_t3 rfl _ _ (W.heap.size + 1 + 1) _ _ (0, 0) _ rfl (rf_store3 Q3.out) Tryz.underlying27 rfl (by kernel_rfl)) rfl ?_
        exact ch_same HFS.out HA.out (HB3.out.trans (HB4.out.mono (by rw [HZ.out]; omega))) _ _
      · simp only [Option.isSome_none, Bool.false_eq_true, if_false, if_neg hl]
        have hl2 : ¬ (256 : Int) ≤ xs.length := by have := HLX.out; omega
        have HF := Lib.hid hf
        clear hf
        go_enter Tryz.func56, Tryz.ntmps56
        go_wp2_with fail
        rw [← HW3.out]
        refine HFD.out.mono ?_
        rintro e w4 ⟨rfl, hb4⟩
        obtain ⟨⟨a0, a1, a2⟩, ⟨b0, b1, b2, b3, b4⟩, ⟨d0, d1, d2⟩, _, ⟨g0, g1, g2⟩, q1, q3⟩ := HCL.out w4 hb4
        have Q3 := Lib.hid q3
        have HB4 := Lib.hid hb4
        have HV := Lib.hid hv
        clear q1 q3 hb4 hv
        go_wp2_with fail
        refine (rf_valid ⟨n.toArray⟩ w4 (by simpa [ByteArray.size] using hn)).mono ?_
        rintro e w5 ⟨rfl, rfl⟩
        rw [show (⟨n.toArray⟩ : ByteArray).data.toList = n from by simp, HV.out]
        go_wp2_with fail
        have hb04 : Below W.heap.size W w4 := HB3.out.trans (HB4.out.mono (by rw [HZ.out]; omega))
        have hwi := rf_with D.bud D.down (HA.out.below hb04) ⟨n, .slice none 0 0, .slice none 0 0, [], ⟨[], []⟩⟩ (by intro u hu; simp [Re.cells] at hu; rcases hu with rfl | rfl <;> rfl)
        unfold Re.val at hwi
        simp only [] at hwi
        refine hwi.mono ?_
        rintro e w6 ⟨sv', rfl, ho6, hb6⟩
        have hs4 := HB4.out.size
        have hz := HZ.out
        obtain ⟨_, _, ⟨d0, d1, d2⟩, _, ⟨g0, g1, g2⟩, _, q3⟩ := HCL.out w6 (HB4.out.trans (hb6.mono hs4))
        have Q6 := Lib.hid q3
        have HB6 := Lib.hid (hb04.trans (hb6.mono (by omega)))
        have HO6 := Lib.hid ho6
        obtain ⟨a6, p6, rfl⟩ := rf_own_form ho6
        clear q3 hb6 ho6 hwi
        go_wp2_with fail
        refine bodyPost_ret (results_cell_t3 rfl _ _ (W.heap.size + 1 + 1) _ _ (0, 0) _ rfl (rf_store3 Q6.out) Tryz.underlying27 rfl (by kernel_rfl)) rfl ?_
        have hmap : (xs.take (Dk.ahead n (xs.map Re.ent)) ++ (⟨n, .slice none 0 0, .slice none 0 0, [], ⟨[], []⟩⟩ : Re) :: xs.drop (Dk.ahead n (xs.map Re.ent))).map Re.ent = Dk.ins n ⟨[], []⟩ D.fs := by
          rw [← Dk.ins_eq n ⟨[], []⟩ D.fs (Dk.find_none_ne HF.out), HFS.out, List.map_append, List.map_take, List.map_cons, List.map_drop]
          rfl
        have hlen : (xs.take (Dk.ahead n (xs.map Re.ent)) ++ (⟨n, .slice none 0 0, .slice none 0 0, [], ⟨[], []⟩⟩ : Re) :: xs.drop (Dk.ahead n (xs.map Re.ent))).length = xs.length + 1 := by
          have := Dk.ahead_le n (xs.map Re.ent)
          rw [List.length_map] at this
          rw [List.length_append, List.length_cons, List.length_take, List.length_drop]
          omega
        refine ch_new (B := w4.heap.size) HC.out HB6.out (by omega) (by rw [hlen]; exact HO6.out) (by rw [hlen]; have := HLX.out; omega) (fun y hy => ?_) _ hmap.symm _ _
        rcases List.mem_append.1 hy with hy | hy
        · exact (HA.out.2.1 y (List.mem_of_mem_take hy)).below (ch_below HB6.out)
        · rcases List.mem_cons.1 hy with rfl | hy
          · exact ⟨⟨.inl ⟨rfl, _, _, rfl⟩, fun hne => absurd rfl hne⟩, PendC.nil, WrC.nil, Nat.zero_le _, Nat.zero_le _, hn⟩
          · exact (HA.out.2.1 y (List.mem_of_mem_drop hy)).below (ch_below HB6.out)

end Go.Proofs.YtegahpgnmeobhaaGreatDoor
