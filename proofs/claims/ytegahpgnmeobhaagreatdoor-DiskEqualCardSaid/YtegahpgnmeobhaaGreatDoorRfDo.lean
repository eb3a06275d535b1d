/-
  THE REFERENCE: Do.
-/
import Derived.Test.YtegahpgnmeobhaaGreatDoorRfChange1
import Derived.Test.YtegahpgnmeobhaaGreatDoorRfChange2
import Derived.Test.YtegahpgnmeobhaaGreatDoorRfChange6
import Derived.Test.YtegahpgnmeobhaaGreatDoorRfChange5
import Derived.Test.YtegahpgnmeobhaaGreatDoorRfRestart
namespace Go.Proofs.YtegahpgnmeobhaaGreatDoor
open Go.RowKit

namespace Dk
/-- what the reference keeps of a disk: a disk that is down has no budget -/
def D.norm (d : D) : D := if d.down then { d with bud := 0 } else d
theorem D.norm_fs (d : D) : d.norm.fs = d.fs := by unfold D.norm; split <;> rfl
theorem D.norm_down (d : D) : d.norm.down = d.down := by unfold D.norm; split <;> rfl
theorem D.norm_up {d : D} (h : d.down = false) : d.norm = d := by unfold D.norm; rw [if_neg (by rw [h]; simp)]

def chg (d : D) (o : Op) : List (Bs × Fl) × Int × Bool := match o.kind with
  | 0 => change0 d o.name.data.toList
  | 1 => changeW d o.name.data.toList (fun _ => o.n) o.b
  | 2 => changeW d o.name.data.toList (fun n => n) o.b
  | 3 => change3 d o.name.data.toList o.n
  | 4 => change4 d o.name.data.toList
  | 5 => change5 d o.name.data.toList o.to.data.toList
  | _ => change6 d o.name.data.toList

theorem act_chg (d : D) (o : Op) (hd : d.down = false) (hk : o.kind ≤ 6) : d.act o = if (chg d o).2.1 ≠ 0 ∨ (chg d o).2.2 = false then (d, (chg d o).2.1) else d.modify (chg d o).1 := by
  obtain ⟨kind, name, tn, n, b⟩ := o
  simp only [] at hk
  have hkk : kind = 0 ∨ kind = 1 ∨ kind = 2 ∨ kind = 3 ∨ kind = 4 ∨ kind = 5 ∨ kind = 6 := by omega
  have hw : ∀ pos : Nat → Int, d.write name.data.toList pos b = if (changeW d name.data.toList pos b).2.1 ≠ 0 ∨ (changeW d name.data.toList pos b).2.2 = false then (d, (changeW d name.data.toList pos b).2.1) else d.modify (changeW d name.data.toList pos b).1 := by
    intro pos
    unfold D.write changeW writeCheck
    rw [hd]
    cases find name.data.toList d.fs with
    | none => simp
    | some f =>
      simp only [Bool.false_eq_true, if_false]
      by_cases h : pos f.contents.length < 0 ∨ 16777216 - (b.length : Int) < pos f.contents.length
      · simp [h]
      · simp only [if_neg h]
        by_cases hb : b = [] <;> simp [hb]
  rcases hkk with rfl | rfl | rfl | rfl | rfl | rfl | rfl
  · show d.create _ = _
    unfold D.create chg change0
    rw [hd]
    by_cases h : createCheck d name.data.toList = 0 <;> simp [h]
  · exact hw _
  · exact hw _
  · show d.truncate _ _ = _
    unfold D.truncate chg change3 truncCheck
    rw [hd]
    cases find name.data.toList d.fs with
    | none => simp
    | some f =>
      simp only [Bool.false_eq_true, if_false]
      by_cases h : n < 0 ∨ (f.contents.length : Int) < n <;> simp [h]
  · show d.sync _ = _
    unfold D.sync chg change4
    rw [hd]
    cases find name.data.toList d.fs <;> simp
  · show d.rename _ _ = _
    unfold D.rename chg change5 renameCheck
    rw [hd]
    cases find name.data.toList d.fs with
    | none => simp
    | some f =>
      simp only [Bool.false_eq_true, if_false]
      by_cases h : valid tn.data.toList = false <;> simp [h]
  · show d.remove _ = _
    unfold D.remove chg change6
    rw [hd]
    cases find name.data.toList d.fs <;> simp
end Dk

theorem ba_form (s : ByteArray) : s = ⟨s.data.toList.toArray⟩ := by cases s; simp
theorem rf_change {c : Nat → Nat} {W : World} {v : Value} {D : Dk.D} (hc : New0 c W.heap.size) (h : RfD c W v D) (hR : Dk.Rising D.fs) (hmany : D.fs.length < 65536) (hpd : ∀ n f, Dk.find n D.fs = some f → f.pend.length < 65536) (o : Dk.Op) (hk : o.kind ≤ 6) (hn : o.name.size ≤ 9223372036854775807) (ht : o.to.size ≤ 9223372036854775807)
    (bv : Value) (hbv : RdB W W.heap.size bv o.b) (hbl : o.b.length ≤ 1073741824) : Calls Tryz.prog 56 #[v, opVal o bv] W (ChPost c W D (Dk.chg D o).1 (Dk.chg D o).2.1 (Dk.chg D o).2.2) := by
  obtain ⟨kind, name, tn, n, b⟩ := o
  simp only [] at hk hn ht hbv hbl
  have hkk : kind = 0 ∨ kind = 1 ∨ kind = 2 ∨ kind = 3 ∨ kind = 4 ∨ kind = 5 ∨ kind = 6 := by omega
  unfold opVal
  simp only []
  have e1 := ba_form name
  have e2 := ba_form tn
  have hn' : name.data.toList.length ≤ 9223372036854775807 := by rw [Array.length_toList]; exact hn
  have ht' : tn.data.toList.length ≤ 9223372036854775807 := by rw [Array.length_toList]; exact ht
  rcases hkk with rfl | rfl | rfl | rfl | rfl | rfl | rfl
  · have := rf_change0 hc h hmany name.data.toList hn' (.string tn) (.int .i64 n) bv
    rwa [← e1] at this
  · have := rf_change1 hc h hR name.data.toList n (.string tn) b bv hbv hbl (hpd _)
    rwa [← e1] at this
  · have := rf_change2 hc h hR name.data.toList (.string tn) (.int .i64 n) b bv hbv hbl (hpd _)
    rwa [← e1] at this
  · have := rf_change3 hc h hR name.data.toList n (.string tn) bv
    rwa [← e1] at this
  · have := rf_change4 hc h hR name.data.toList (.string tn) (.int .i64 n) bv
    rwa [← e1] at this
  · have := rf_change5 hc h hR name.data.toList tn.data.toList ht' (.int .i64 n) bv
    rwa [← e1, ← e2] at this
  · have := rf_change6 hc h hR name.data.toList (.string tn) (.int .i64 n) bv
    rwa [← e1] at this

/-- Do's frame: as change's, the boxes of another colour -/
def doCol (c : Nat → Nat) (B : Nat) : Nat → Nat := fun b => if B ≤ b ∧ b < B + 3 then 7 else c b
theorem doCol_zero {c : Nat → Nat} {B b : Nat} (h : doCol c B b = 0) : c b = 0 ∧ ¬ (B ≤ b ∧ b < B + 3) := by
  unfold doCol at h
  split at h
  · cases h
  · exact ⟨h, by assumption⟩
theorem doCol_old {c : Nat → Nat} {B b : Nat} (h : b < B) : doCol c B b = c b := by unfold doCol; rw [if_neg (by omega)]
theorem doCol_new {c : Nat → Nat} {B : Nat} (h : New0 c B) : New0 (doCol c B) (B + 3) := fun b hb => by unfold doCol; rw [if_neg (by omega)]; exact h b (by omega)
theorem RfD.doIn {c : Nat → Nat} {W W3 : World} {v : Value} {D : Dk.D} (h : RfD c W v D) (hb : Below W.heap.size W W3) : RfD (doCol c W.heap.size) W3 v D :=
  h.keep hb.size (fun b hb' h0 => ⟨hb.block b hb', (doCol_old hb').trans h0⟩)
theorem RfD.doOut {c : Nat → Nat} {W w W' : World} {v : Value} {D : Dk.D} (h : RfD (doCol c W.heap.size) w v D) (hs : w.heap.size ≤ W'.heap.size) (hk : ∀ b, b < w.heap.size → ¬ (W.heap.size ≤ b ∧ b < W.heap.size + 3) → W'.heap[b]? = w.heap[b]?) : RfD c W' v D :=
  h.keep hs (fun b hb h0 => ⟨hk b hb (doCol_zero h0).2, (doCol_zero h0).1⟩)

/-- what Do leaves -/
def DoPost (c : Nat → Nat) (W : World) (r : Dk.D × Int) (e : Ending) (W' : World) : Prop :=
  ∃ v', e = .returned (.tuple #[v', .int .i64 r.2]) ∧ RfD c W' v' r.1.norm ∧ Below W.heap.size W W'

theorem do_same {c : Nat → Nat} {W wz : World} {sv : Value} {xs : List Re} {D : Dk.D} {d : Bool} (hd : D.down = d) (hfs : D.norm.fs = xs.map Re.ent) (hA : RfAt c W sv xs) (hb : Below W.heap.size W wz) (r : Int) {v0 v1 v2 : Value} :
    DoPost c W (D, r) (.returned (.tuple #[.agg #[sv, .int .i64 D.norm.bud, .bool d], .int .i64 r])) (((wz.setCell ⟨W.heap.size + 1 + 1, 0, none⟩ v0).setCell ⟨W.heap.size + 1 + 1, 1, none⟩ v1).setCell ⟨W.heap.size + 1 + 1, 2, none⟩ v2) :=
  ⟨_, rfl, ⟨sv, xs, by unfold rfVal; rw [Dk.D.norm_down, hd], hfs, hA.below (ch_below hb)⟩, ch_below hb⟩

theorem do_sameU {c : Nat → Nat} {W wz : World} {sv : Value} {xs : List Re} {D : Dk.D} (hd : D.down = false) (hfs : D.fs = xs.map Re.ent) (hA : RfAt c W sv xs) (hb : Below W.heap.size W wz) (r : Int) {v0 v1 v2 : Value} :
    DoPost c W (D, r) (.returned (.tuple #[.agg #[sv, .int .i64 D.bud, .bool false], .int .i64 r])) (((wz.setCell ⟨W.heap.size + 1 + 1, 0, none⟩ v0).setCell ⟨W.heap.size + 1 + 1, 1, none⟩ v1).setCell ⟨W.heap.size + 1 + 1, 2, none⟩ v2) :=
  ⟨_, rfl, ⟨sv, xs, by unfold rfVal; rw [Dk.D.norm_up hd, hd], by rw [Dk.D.norm_fs]; exact hfs, hA.below (ch_below hb)⟩, ch_below hb⟩

set_option maxRecDepth 100000 in
set_option maxHeartbeats 2000000 in
theorem rf_Do {c : Nat → Nat} {W : World} {v : Value} {D : Dk.D} (hc : New0 c W.heap.size) (h : RfD c W v D.norm) (hR : Dk.Rising D.fs) (hbd : D.bud ≤ 9223372036854775807) (hmany : D.fs.length < 65536) (hpd : ∀ n f, Dk.find n D.fs = some f → f.pend.length < 65536) (o : Dk.Op) (hk : o.kind < 10) (hn : o.name.size ≤ 9223372036854775807) (ht : o.to.size ≤ 9223372036854775807)
    (bv : Value) (hbv : RdC c W bv o.b) (hbl : o.b.length ≤ 1073741824) : Calls Tryz.prog 28 #[v, opVal o bv] W (DoPost c W (D.act o)) := by
  obtain ⟨kind, name, tn, n, b⟩ := o
  simp only [] at hk hn ht hbv hbl
  obtain ⟨sv, xs, rfl, hfs, hA⟩ := h
  obtain ⟨ao, cap, rfl, hcap, _⟩ := hA.source
  obtain ⟨W3, hW3, hb3, hz, hcl⟩ := ch_start W (.slice ao xs.length cap) D.norm.bud D.norm.down (.int .i64 kind) (.string name) (.string tn) (.int .i64 n) bv
  have hv3 : RfD (doCol c W.heap.size) W3 (rfVal (.slice ao xs.length cap) D.norm) D.norm := RfD.doIn ⟨_, xs, rfl, hfs, hA⟩ hb3
  have hvW : RfD c W (rfVal (.slice ao xs.length cap) D.norm) D.norm := ⟨_, xs, rfl, hfs, hA⟩
  have HCL := Lib.hid hcl
  have HW3 := Lib.hid hW3
  have HB3 := Lib.hid hb3
  have HZ := Lib.hid hz
  have HV3 := Lib.hid hv3
  have HVW := Lib.hid hvW
  have HFS := Lib.hid hfs
  have HA := Lib.hid hA
  have HC := Lib.hid hc
  have HR := Lib.hid hR
  have HPD := Lib.hid hpd
  have HBV := Lib.hid hbv
  obtain ⟨ba, bc, rfl⟩ := hbv.1.form
  obtain ⟨⟨a0, a1, a2⟩, ⟨b0, b1, b2, b3, b4⟩, ⟨d0, d1, d2⟩, ⟨f0, f1, f2⟩, ⟨g0, g1, g2⟩, q1, q3⟩ := hcl W3 (Below.refl _ _)
  have Q3 := Lib.hid q3
  have Q1 := Lib.hid q1
  rw [D.norm_down] at *
  clear hcl hW3 hb3 hz hv3 hvW hfs hA hc hR hpd hbv q1 q3 hcap
  unfold rfVal opVal
  simp only []
  rw [Dk.D.norm_down]
  by_cases h9 : kind = 9
  · have e9 : ((kind : Int) == 9) = true := by rw [beq_iff_eq]; omega
    cases hdn : D.down with
    | false =>
      have hw := HW3.out
      rw [hdn] at hw a2
      clear HW3
      have HW3 := Lib.hid hw
      have he : Dk.D.act D ⟨kind, name, tn, n, b⟩ = (D, 10) := by subst h9; simp [Dk.D.act, Dk.D.restart, hdn]
      rw [he]
      have HDN := Lib.hid hdn
      clear hw hdn he h9
      go_enter Tryz.func28, Tryz.ntmps28
      go_upto_region 1 with (fail)
      rw [← HW3.out]
      clear HW3
      go_wp2_with fail
      refine bodyPost_ret (results_cell_t2 rfl _ _ (W.heap.size + 1 + 1) _ _ (0, 0) _ rfl (rf_store3 Q3.out) Tryz.underlying27 rfl (by kernel_rfl)) rfl ?_
      exact do_same HDN.out HFS.out HA.out HB3.out 10
    | true =>
      have hw := HW3.out
      rw [hdn] at hw a2
      clear HW3
      have HW3 := Lib.hid hw
      have he : Dk.D.act D ⟨kind, name, tn, n, b⟩ = (⟨(Dk.restartFs D.fs b).1, -1, false⟩, 0) := by subst h9; simp [Dk.D.act, Dk.D.restart, hdn]
      rw [he]
      have HDN := Lib.hid hdn
      clear hw hdn he h9
      have hA3 : RfAt (doCol c W.heap.size) W3 (.slice ao xs.length cap) xs := HA.out.keep HB3.out.size (fun b hb h0 => ⟨HB3.out.block b hb, (doCol_old hb).trans h0⟩)
      have hb3' : RdC (doCol c W.heap.size) W3 (.slice ba b.length bc) b := HBV.out.keep HB3.out.size (fun b hb h0 => ⟨HB3.out.block b hb, (doCol_old hb).trans h0⟩)
      have hrs := rf_restart (c := doCol c W.heap.size) D.norm.bud true (by rw [HZ.out]; exact doCol_new HC.out) hA3 hb3' (by omega)
      have HRS := Lib.hid hrs
      clear hA3 hb3' hrs
      go_enter Tryz.func28, Tryz.ntmps28
      go_upto_region 1 with (fail)
      rw [← HW3.out]
      clear HW3
      go_wp2_with fail
      refine HRS.out.mono ?_
      rintro e w4 ⟨sv', ys, rfl, hys, hA', hb4⟩
      obtain ⟨ao', cap', rfl, _, _⟩ := hA'.source
      obtain ⟨_, _, ⟨d0, d1, d2⟩, _, ⟨g0, g1, g2⟩, _, q3⟩ := HCL.out w4 hb4
      have Q34 := Lib.hid q3
      have HB04 := Lib.hid (HB3.out.trans (hb4.mono HB3.out.size))
      have HA' := Lib.hid hA'
      have HYS := Lib.hid hys
      clear q3 hb4 hA' hys
      go_wp2_with fail
      refine bodyPost_ret (results_cell_t2 rfl _ _ (W.heap.size + 1 + 1) _ _ (0, 0) _ rfl (rf_store3 Q34.out) Tryz.underlying27 rfl (by kernel_rfl)) rfl ?_
      have hb := ch_below (v0 := .slice ao' ys.length cap') (v1 := .int .i64 (-1)) (v2 := .bool false) HB04.out
      refine ⟨_, rfl, ?_, hb⟩
      have hg2 := rf_store3_grown (w := w4) (b := W.heap.size + 1 + 1) (v0 := .slice ao' ys.length cap') (v1 := .int .i64 (-1)) (v2 := .bool false)
      have hs2 := hg2.size
      have hfs := HFS.out
      rw [Dk.D.norm_fs] at hfs
      have hrd : RfD (doCol c W.heap.size) w4 (rfVal (.slice ao' ys.length cap') ⟨(Dk.restartFs D.fs b).1, -1, false⟩) ⟨(Dk.restartFs D.fs b).1, -1, false⟩ := ⟨_, ys, rfl, by rw [hfs]; exact HYS.out.symm, HA'.out⟩
      exact hrd.doOut (by omega) (fun b hb hnot => by rw [hg2.block b (by omega) (fun e => by injection e with e; omega)])
  · have e9 : ((kind : Int) == 9) = false := by rw [beq_eq_false_iff_ne]; omega
    cases hdn : D.down with
    | true =>
      have hw := HW3.out
      rw [hdn] at hw a2
      clear HW3
      have HW3 := Lib.hid hw
      have he : Dk.D.act D ⟨kind, name, tn, n, b⟩ = (D, 32) := by
        have hkk : kind = 0 ∨ kind = 1 ∨ kind = 2 ∨ kind = 3 ∨ kind = 4 ∨ kind = 5 ∨ kind = 6 ∨ kind = 7 ∨ kind = 8 := by omega
        rcases hkk with rfl | rfl | rfl | rfl | rfl | rfl | rfl | rfl | rfl <;> simp [Dk.D.act, Dk.D.create, Dk.D.write, Dk.D.truncate, Dk.D.sync, Dk.D.rename, Dk.D.remove, Dk.D.setBudget, Dk.D.crash, hdn]
      rw [he]
      have HDN := Lib.hid hdn
      clear hw hdn he h9
      go_enter Tryz.func28, Tryz.ntmps28
      go_upto_region 1 with (fail)
      rw [← HW3.out]
      clear HW3
      go_wp2_with fail
      refine bodyPost_ret (results_cell_t2 rfl _ _ (W.heap.size + 1 + 1) _ _ (0, 0) _ rfl (rf_store3 Q3.out) Tryz.underlying27 rfl (by kernel_rfl)) rfl ?_
      exact do_same HDN.out HFS.out HA.out HB3.out 32
    | false =>
      have hw := HW3.out
      rw [hdn] at hw a2
      clear HW3
      have HW3 := Lib.hid hw
      have HDN := Lib.hid hdn
      have hnorm := Dk.D.norm_up hdn
      rw [hnorm] at hw a1 HFS HVW HV3 ⊢
      clear HW3
      have HW3 := Lib.hid hw
      have hfs := HFS.out
      have hvw := HVW.out
      have hv3 := HV3.out
      have hq1 := Q1.out
      rw [hnorm, hdn] at hq1
      have hcl2 := HCL.out
      rw [hnorm, hdn] at hcl2
      clear HCL
      have HCL := Lib.hid hcl2
      clear hcl2
      clear HFS HVW HV3 Q1
      have HFS := Lib.hid hfs
      have HVW := Lib.hid hvw
      have HV3 := Lib.hid hv3
      have Q1 := Lib.hid hq1
      clear hw hdn hnorm hfs hvw hv3 hq1
      by_cases h7 : kind = 7
      · have he : Dk.D.act D ⟨kind, name, tn, n, b⟩ = if n < -1 then (D, 2) else ({ D with bud := n }, 0) := by subst h7; simp [Dk.D.act, Dk.D.setBudget, HDN.out]
        rw [he]
        have e7 : ((kind : Int) == 7) = true := by rw [beq_iff_eq]; omega
        clear h7
        by_cases hn1 : n < -1
        · rw [if_pos hn1]
          clear he h9
          go_enter Tryz.func28, Tryz.ntmps28
          go_upto_region 1 with (fail)
          rw [← HW3.out]
          clear HW3
          go_wp2_with fail
          refine bodyPost_ret (results_cell_t2 rfl _ _ (W.heap.size + 1 + 1) _ _ (0, 0) _ rfl (rf_store3 Q3.out) Tryz.underlying27 rfl (by kernel_rfl)) rfl ?_
          exact do_sameU HDN.out HFS.out HA.out HB3.out 2
        · rw [if_neg hn1]
          clear he h9
          go_enter Tryz.func28, Tryz.ntmps28
          go_upto_region 1 with (fail)
          rw [← HW3.out]
          clear HW3
          go_wp2_with fail
          have HZ3 := HZ.out
          have hq := rf_other W3 W.heap.size 1 (.int .i64 n) (W.heap.size + 1 + 1) (by omega) Q3.out
          refine bodyPost_ret (results_cell_t2 rfl _ _ (W.heap.size + 1 + 1) _ _ (0, 0) _ rfl (rf_store3 hq) Tryz.underlying27 rfl (by kernel_rfl)) rfl ?_
          have hb := ch_below (v0 := .slice ao xs.length cap) (v1 := .int .i64 n) (v2 := .bool false) (HB3.out.setCell (p := ⟨W.heap.size, 1, none⟩) (by simp) (.int .i64 n))
          exact ⟨_, rfl, ⟨.slice ao xs.length cap, xs, by rw [Dk.D.norm_up (show ({ D with bud := n } : Dk.D).down = false from HDN.out)]; unfold rfVal; simp only []; rw [HDN.out], by rw [Dk.D.norm_fs]; exact HFS.out, HA.out.below hb⟩, hb⟩
      · by_cases h8 : kind = 8
        · have he : Dk.D.act D ⟨kind, name, tn, n, b⟩ = ({ D with down := true }, 0) := by subst h8; simp [Dk.D.act, Dk.D.crash, HDN.out]
          rw [he]
          have e7 : ((kind : Int) == 7) = false := by rw [beq_eq_false_iff_ne]; omega
          have e8 : ((kind : Int) == 8) = true := by rw [beq_iff_eq]; omega
          clear he h9 h7 h8
          go_enter Tryz.func28, Tryz.ntmps28
          go_upto_region 1 with (fail)
          rw [← HW3.out]
          clear HW3
          go_wp2_with fail
          have hq := rf_other _ W.heap.size 1 (.int .i64 0) (W.heap.size + 1 + 1) (by omega) (rf_other W3 W.heap.size 2 (.bool true) (W.heap.size + 1 + 1) (by omega) Q3.out)
          refine bodyPost_ret (results_cell_t2 rfl _ _ (W.heap.size + 1 + 1) _ _ (0, 0) _ rfl (rf_store3 hq) Tryz.underlying27 rfl (by kernel_rfl)) rfl ?_
          have hb := ch_below (v0 := .slice ao xs.length cap) (v1 := .int .i64 0) (v2 := .bool true) ((HB3.out.setCell (p := ⟨W.heap.size, 2, none⟩) (by simp) (.bool true)).setCell (p := ⟨W.heap.size, 1, none⟩) (by simp) (.int .i64 0))
          exact ⟨_, rfl, ⟨.slice ao xs.length cap, xs, rfl, by rw [Dk.D.norm_fs]; exact HFS.out, HA.out.below hb⟩, hb⟩
        · have e7 : ((kind : Int) == 7) = false := by rw [beq_eq_false_iff_ne]; omega
          have e8 : ((kind : Int) == 8) = false := by rw [beq_eq_false_iff_ne]; omega
          have he := Dk.act_chg D ⟨kind, name, tn, n, b⟩ HDN.out (by show kind ≤ 6; omega)
          have hch := rf_change (c := doCol c W.heap.size) (by rw [HZ.out]; exact doCol_new HC.out) HV3.out HR.out hmany HPD.out ⟨kind, name, tn, n, b⟩ (by show kind ≤ 6; omega) hn ht (.slice ba b.length bc) ((HBV.out.1.below HB3.out).mono HB3.out.size) hbl
          generalize (Dk.chg D ⟨kind, name, tn, n, b⟩).1 = fs' at *
          generalize (Dk.chg D ⟨kind, name, tn, n, b⟩).2.1 = r at *
          generalize (Dk.chg D ⟨kind, name, tn, n, b⟩).2.2 = cnt at *
          unfold rfVal opVal at hch
          simp only [] at hch
          rw [HDN.out] at hch
          rw [he]
          have HCH := Lib.hid hch
          clear he hch h7 h8 h9
          by_cases hr : r ≠ 0 ∨ cnt = false
          · rw [if_pos hr]
            by_cases hr0 : r = 0
            · have hc0 : cnt = false := by rcases hr with h | h; exact absurd hr0 h; exact h
              subst hr0 hc0
              clear hr
              go_enter Tryz.func28, Tryz.ntmps28
              go_upto_region 1 with (fail)
              rw [← HW3.out]
              clear HW3
              go_wp2_with fail
              refine HCH.out.mono ?_
              rintro e w4 ⟨v', rfl, ⟨sv', ys, hv', hfs', hA'⟩, hb4⟩
              unfold rfVal at hv'
              simp only [] at hv'
              rw [HDN.out] at hv'
              subst hv'
              obtain ⟨ao', cap', rfl, _, _⟩ := hA'.source
              obtain ⟨⟨a0, a1, a2⟩, ⟨b0, b1, b2, b3, b4⟩, ⟨d0, d1, d2⟩, ⟨f0, f1, f2⟩, ⟨g0, g1, g2⟩, q1, q3⟩ := HCL.out w4 hb4
              obtain ⟨w5, hw5⟩ : ∃ w5, w5 = w4.alloc (.cells #[.slice ao' ys.length cap', .int .i64 D.bud, .bool false] 27) := ⟨_, rfl⟩
              have hb45 : Below w4.heap.size w4 w5 := by rw [hw5]; exact (Below.refl _ _).alloc (Nat.le_refl _) _
              have r5 : w5.heap[w4.heap.size]? = some (.cells #[.slice ao' ys.length cap', .int .i64 D.bud, .bool false] 27 (0, 0)) := by rw [hw5]; exact heap_alloc_new _ _
              have hz := HZ.out
              have hs4 := hb4.size
              have hs5 : w5.heap.size = w4.heap.size + 1 := by rw [hw5]; simp
              have Q35 := Lib.hid ((hb45.block _ (by omega)).trans q3)
              have Q15 := Lib.hid ((hb45.block _ (by omega)).trans q1)
              have R5 := Lib.hid r5
              have HW5 := Lib.hid hw5
              have HB4 := Lib.hid hb4
              have HB05 := Lib.hid (HB3.out.trans ((hb4.trans (hb45.mono hs4)).mono (by omega)))
              have HA' := Lib.hid hA'
              have HFS' := Lib.hid hfs'
              have HB45 := Lib.hid hb45
              have HS5 := Lib.hid hs5
              clear q1 q3 r5 hw5 hb4 hb45 hA' hfs' hs5
              go_upto_region 16 with (fail)
              rw [← HW5.out]
              obtain ⟨⟨a0, a1, a2⟩, _, ⟨d0, d1, d2⟩, _, ⟨g0, g1, g2⟩, _, _⟩ := HCL.out w5 (HB4.out.trans (HB45.out.mono hs4))
              go_wp2_with fail
              refine bodyPost_ret (results_cell_t2 rfl _ _ (W.heap.size + 1 + 1) _ _ (0, 0) _ rfl (rf_store3 Q35.out) Tryz.underlying27 rfl (by kernel_rfl)) rfl ?_
              exact do_sameU HDN.out HFS.out HA.out HB05.out 0
            · have er : (r == 0) = false := by rw [beq_eq_false_iff_ne]; exact hr0
              clear hr
              go_enter Tryz.func28, Tryz.ntmps28
              go_upto_region 1 with (fail)
              rw [← HW3.out]
              clear HW3
              go_wp2_with fail
              refine HCH.out.mono ?_
              rintro e w4 ⟨v', rfl, ⟨sv', ys, hv', hfs', hA'⟩, hb4⟩
              unfold rfVal at hv'
              simp only [] at hv'
              rw [HDN.out] at hv'
              subst hv'
              obtain ⟨ao', cap', rfl, _, _⟩ := hA'.source
              obtain ⟨⟨a0, a1, a2⟩, ⟨b0, b1, b2, b3, b4⟩, ⟨d0, d1, d2⟩, ⟨f0, f1, f2⟩, ⟨g0, g1, g2⟩, q1, q3⟩ := HCL.out w4 hb4
              obtain ⟨w5, hw5⟩ : ∃ w5, w5 = w4.alloc (.cells #[.slice ao' ys.length cap', .int .i64 D.bud, .bool false] 27) := ⟨_, rfl⟩
              have hb45 : Below w4.heap.size w4 w5 := by rw [hw5]; exact (Below.refl _ _).alloc (Nat.le_refl _) _
              have r5 : w5.heap[w4.heap.size]? = some (.cells #[.slice ao' ys.length cap', .int .i64 D.bud, .bool false] 27 (0, 0)) := by rw [hw5]; exact heap_alloc_new _ _
              have hz := HZ.out
              have hs4 := hb4.size
              have hs5 : w5.heap.size = w4.heap.size + 1 := by rw [hw5]; simp
              have Q35 := Lib.hid ((hb45.block _ (by omega)).trans q3)
              have Q15 := Lib.hid ((hb45.block _ (by omega)).trans q1)
              have R5 := Lib.hid r5
              have HW5 := Lib.hid hw5
              have HB4 := Lib.hid hb4
              have HB05 := Lib.hid (HB3.out.trans ((hb4.trans (hb45.mono hs4)).mono (by omega)))
              have HA' := Lib.hid hA'
              have HFS' := Lib.hid hfs'
              have HB45 := Lib.hid hb45
              have HS5 := Lib.hid hs5
              clear q1 q3 r5 hw5 hb4 hb45 hA' hfs' hs5
              go_upto_region 16 with (fail)
              rw [← HW5.out]
              obtain ⟨⟨a0, a1, a2⟩, _, ⟨d0, d1, d2⟩, _, ⟨g0, g1, g2⟩, _, _⟩ := HCL.out w5 (HB4.out.trans (HB45.out.mono hs4))
              go_wp2_with fail
              refine bodyPost_ret (results_cell_t2 rfl _ _ (W.heap.size + 1 + 1) _ _ (0, 0) _ rfl (rf_store3 Q35.out) Tryz.underlying27 rfl (by kernel_rfl)) rfl ?_
              exact do_sameU HDN.out HFS.out HA.out HB05.out r
          · rw [if_neg hr]
            have hr0 : r = 0 := by by_cases h : r = 0; exact h; exact absurd (.inl h) hr
            have hc0 : cnt = true := by cases cnt; exact absurd (.inr rfl) hr; rfl
            subst hr0 hc0
            clear hr
            unfold Dk.D.modify
            by_cases hbud : D.bud = 0
            · rw [if_pos hbud]
              have eb : (D.bud == 0) = true := by rw [beq_iff_eq]; exact hbud
              have HBUD := Lib.hid hbud
              clear hbud
              go_enter Tryz.func28, Tryz.ntmps28
              go_upto_region 1 with (fail)
              rw [← HW3.out]
              clear HW3
              go_wp2_with fail
              refine HCH.out.mono ?_
              rintro e w4 ⟨v', rfl, ⟨sv', ys, hv', hfs', hA'⟩, hb4⟩
              unfold rfVal at hv'
              simp only [] at hv'
              rw [HDN.out] at hv'
              subst hv'
              obtain ⟨ao', cap', rfl, _, _⟩ := hA'.source
              obtain ⟨⟨a0, a1, a2⟩, ⟨b0, b1, b2, b3, b4⟩, ⟨d0, d1, d2⟩, ⟨f0, f1, f2⟩, ⟨g0, g1, g2⟩, q1, q3⟩ := HCL.out w4 hb4
              obtain ⟨w5, hw5⟩ : ∃ w5, w5 = w4.alloc (.cells #[.slice ao' ys.length cap', .int .i64 D.bud, .bool false] 27) := ⟨_, rfl⟩
              have hb45 : Below w4.heap.size w4 w5 := by rw [hw5]; exact (Below.refl _ _).alloc (Nat.le_refl _) _
              have r5 : w5.heap[w4.heap.size]? = some (.cells #[.slice ao' ys.length cap', .int .i64 D.bud, .bool false] 27 (0, 0)) := by rw [hw5]; exact heap_alloc_new _ _
              have hz := HZ.out
              have hs4 := hb4.size
              have hs5 : w5.heap.size = w4.heap.size + 1 := by rw [hw5]; simp
              have Q35 := Lib.hid ((hb45.block _ (by omega)).trans q3)
              have Q15 := Lib.hid ((hb45.block _ (by omega)).trans q1)
              have R5 := Lib.hid r5
              have HW5 := Lib.hid hw5
              have HB4 := Lib.hid hb4
              have HB05 := Lib.hid (HB3.out.trans ((hb4.trans (hb45.mono hs4)).mono (by omega)))
              have HA' := Lib.hid hA'
              have HFS' := Lib.hid hfs'
              have HB45 := Lib.hid hb45
              have HS5 := Lib.hid hs5
              clear q1 q3 r5 hw5 hb4 hb45 hA' hfs' hs5
              go_upto_region 16 with (fail)
              rw [← HW5.out]
              obtain ⟨⟨a0, a1, a2⟩, _, ⟨d0, d1, d2⟩, ⟨f0, f1, f2⟩, ⟨g0, g1, g2⟩, _, _⟩ := HCL.out w5 (HB4.out.trans (HB45.out.mono hs4))
              go_wp2_with fail
              have hq := rf_other w5 W.heap.size 2 (.bool true) (W.heap.size + 1 + 1) (by omega) Q35.out
              refine bodyPost_ret (results_cell_t2 rfl _ _ (W.heap.size + 1 + 1) _ _ (0, 0) _ rfl (rf_store3 hq) Tryz.underlying27 rfl (by kernel_rfl)) rfl ?_
              have hb := ch_below (v0 := .slice ao xs.length cap) (v1 := .int .i64 D.bud) (v2 := .bool true) (HB05.out.setCell (p := ⟨W.heap.size, 2, none⟩) (by simp) (.bool true))
              refine ⟨_, rfl, ⟨.slice ao xs.length cap, xs, ?_, by rw [Dk.D.norm_fs]; exact HFS.out, HA.out.below hb⟩, hb⟩
              rw [HBUD.out]
              rfl
            · rw [if_neg hbud]
              have eb : (D.bud == 0) = false := by rw [beq_eq_false_iff_ne]; exact hbud
              clear hbud
              by_cases hpos : 0 < D.bud
              · have hsub : IntKind.i64.wrap (D.bud - 1) = D.bud - 1 := IntWalk.i64_in _ (by omega)
                have HPOS := Lib.hid hpos
                go_enter Tryz.func28, Tryz.ntmps28
                go_upto_region 1 with (fail)
                rw [← HW3.out]
                clear HW3
                go_wp2_with fail
                refine HCH.out.mono ?_
                rintro e w4 ⟨v', rfl, ⟨sv', ys, hv', hfs', hA'⟩, hb4⟩
                unfold rfVal at hv'
                simp only [] at hv'
                rw [HDN.out] at hv'
                subst hv'
                obtain ⟨ao', cap', rfl, _, _⟩ := hA'.source
                obtain ⟨⟨a0, a1, a2⟩, ⟨b0, b1, b2, b3, b4⟩, ⟨d0, d1, d2⟩, ⟨f0, f1, f2⟩, ⟨g0, g1, g2⟩, q1, q3⟩ := HCL.out w4 hb4
                obtain ⟨w5, hw5⟩ : ∃ w5, w5 = w4.alloc (.cells #[.slice ao' ys.length cap', .int .i64 D.bud, .bool false] 27) := ⟨_, rfl⟩
                have hb45 : Below w4.heap.size w4 w5 := by rw [hw5]; exact (Below.refl _ _).alloc (Nat.le_refl _) _
                have r5 : w5.heap[w4.heap.size]? = some (.cells #[.slice ao' ys.length cap', .int .i64 D.bud, .bool false] 27 (0, 0)) := by rw [hw5]; exact heap_alloc_new _ _
                have hz := HZ.out
                have hs4 := hb4.size
                have hs5 : w5.heap.size = w4.heap.size + 1 := by rw [hw5]; simp
                have Q35 := Lib.hid ((hb45.block _ (by omega)).trans q3)
                have Q15 := Lib.hid ((hb45.block _ (by omega)).trans q1)
                have R5 := Lib.hid r5
                have HW5 := Lib.hid hw5
                have HB4 := Lib.hid hb4
                have HB05 := Lib.hid (HB3.out.trans ((hb4.trans (hb45.mono hs4)).mono (by omega)))
                have HA' := Lib.hid hA'
                have HFS' := Lib.hid hfs'
                have HB45 := Lib.hid hb45
                have HS5 := Lib.hid hs5
                clear q1 q3 r5 hw5 hb4 hb45 hA' hfs' hs5
                go_upto_region 16 with (fail)
                rw [← HW5.out]
                obtain ⟨⟨a0, a1, a2⟩, _, ⟨d0, d1, d2⟩, ⟨f0, f1, f2⟩, ⟨g0, g1, g2⟩, _, _⟩ := HCL.out w5 (HB4.out.trans (HB45.out.mono hs4))
                have t0 : w5.cell? ⟨w4.heap.size, 0, none⟩ = some (.slice ao' ys.length cap') := by rw [cell_of_row _ _ _ _ _ _ R5.out]; rfl
                have t1 : w5.cell? ⟨w4.heap.size, 1, none⟩ = some (.int .i64 D.bud) := by rw [cell_of_row _ _ _ _ _ _ R5.out]; rfl
                have t2 : w5.cell? ⟨w4.heap.size, 2, none⟩ = some (.bool false) := by rw [cell_of_row _ _ _ _ _ _ R5.out]; rfl
                have u1 := dk_frozen w5 w4.heap.size 1 _ _ R5.out
                have n1 : ¬ w4.heap.size = W.heap.size := by omega
                have n2 : ¬ w4.heap.size = W.heap.size + 1 + 1 := by omega
                go_wp2_with fail
                have hq := rf_other w5 w4.heap.size 1 (.int .i64 (D.bud - 1)) (W.heap.size + 1 + 1) (by omega) Q35.out
                refine bodyPost_ret (results_cell_t2 rfl _ _ (W.heap.size + 1 + 1) _ _ (0, 0) _ rfl (rf_store3 hq) Tryz.underlying27 rfl (by kernel_rfl)) rfl ?_
                have hb := ch_below (v0 := .slice ao' ys.length cap') (v1 := .int .i64 (D.bud - 1)) (v2 := .bool false) (HB05.out.setCell (p := ⟨w4.heap.size, 1, none⟩) (by simp; omega) (.int .i64 (D.bud - 1)))
                refine ⟨_, rfl, ?_, hb⟩
                try rw [if_pos HPOS.out]
                have hg1 : w5.grownBy (w5.setCell ⟨w4.heap.size, 1, none⟩ (.int .i64 (D.bud - 1))) (some w4.heap.size) := dk_grown_setCell _ _ _ _ _ ⟨rfl, rfl, rfl, Nat.le_refl _, fun _ _ _ => rfl⟩
                have hg2 := rf_store3_grown (w := w5.setCell ⟨w4.heap.size, 1, none⟩ (.int .i64 (D.bud - 1))) (b := W.heap.size + 1 + 1) (v0 := .slice ao' ys.length cap') (v1 := .int .i64 (D.bud - 1)) (v2 := .bool false)
                have hs1 := hg1.size
                have hs2 := hg2.size
                have hs5 := HS5.out
                have hrd : RfD (doCol c W.heap.size) w4 (rfVal (.slice ao' ys.length cap') ⟨fs', D.bud - 1, false⟩) ⟨fs', D.bud - 1, false⟩ := ⟨_, ys, rfl, HFS'.out, HA'.out⟩
                show RfD c _ _ (Dk.D.norm ⟨fs', D.bud - 1, D.down⟩)
                rw [Dk.D.norm_up (show (⟨fs', D.bud - 1, D.down⟩ : Dk.D).down = false from HDN.out), HDN.out]
                exact hrd.doOut (by omega) (fun b hb hnot => by rw [hg2.block b (by omega) (fun e => by injection e with e; omega), hg1.block b (by omega) (fun e => by injection e with e; omega), HB45.out.block b hb])
              · have HPOS := Lib.hid hpos
                have hpd : decide (0 < D.bud) = false := by simpa using hpos
                go_enter Tryz.func28, Tryz.ntmps28
                go_upto_region 1 with (fail)
                rw [← HW3.out]
                clear HW3
                go_wp2_with fail
                refine HCH.out.mono ?_
                rintro e w4 ⟨v', rfl, ⟨sv', ys, hv', hfs', hA'⟩, hb4⟩
                unfold rfVal at hv'
                simp only [] at hv'
                rw [HDN.out] at hv'
                subst hv'
                obtain ⟨ao', cap', rfl, _, _⟩ := hA'.source
                obtain ⟨⟨a0, a1, a2⟩, ⟨b0, b1, b2, b3, b4⟩, ⟨d0, d1, d2⟩, ⟨f0, f1, f2⟩, ⟨g0, g1, g2⟩, q1, q3⟩ := HCL.out w4 hb4
                obtain ⟨w5, hw5⟩ : ∃ w5, w5 = w4.alloc (.cells #[.slice ao' ys.length cap', .int .i64 D.bud, .bool false] 27) := ⟨_, rfl⟩
                have hb45 : Below w4.heap.size w4 w5 := by rw [hw5]; exact (Below.refl _ _).alloc (Nat.le_refl _) _
                have r5 : w5.heap[w4.heap.size]? = some (.cells #[.slice ao' ys.length cap', .int .i64 D.bud, .bool false] 27 (0, 0)) := by rw [hw5]; exact heap_alloc_new _ _
                have hz := HZ.out
                have hs4 := hb4.size
                have hs5 : w5.heap.size = w4.heap.size + 1 := by rw [hw5]; simp
                have Q35 := Lib.hid ((hb45.block _ (by omega)).trans q3)
                have Q15 := Lib.hid ((hb45.block _ (by omega)).trans q1)
                have R5 := Lib.hid r5
                have HW5 := Lib.hid hw5
                have HB4 := Lib.hid hb4
                have HB05 := Lib.hid (HB3.out.trans ((hb4.trans (hb45.mono hs4)).mono (by omega)))
                have HA' := Lib.hid hA'
                have HFS' := Lib.hid hfs'
                have HB45 := Lib.hid hb45
                have HS5 := Lib.hid hs5
                clear q1 q3 r5 hw5 hb4 hb45 hA' hfs' hs5
                go_upto_region 16 with (fail)
                rw [← HW5.out]
                obtain ⟨⟨a0, a1, a2⟩, _, ⟨d0, d1, d2⟩, ⟨f0, f1, f2⟩, ⟨g0, g1, g2⟩, _, _⟩ := HCL.out w5 (HB4.out.trans (HB45.out.mono hs4))
                have t0 : w5.cell? ⟨w4.heap.size, 0, none⟩ = some (.slice ao' ys.length cap') := by rw [cell_of_row _ _ _ _ _ _ R5.out]; rfl
                have t1 : w5.cell? ⟨w4.heap.size, 1, none⟩ = some (.int .i64 D.bud) := by rw [cell_of_row _ _ _ _ _ _ R5.out]; rfl
                have t2 : w5.cell? ⟨w4.heap.size, 2, none⟩ = some (.bool false) := by rw [cell_of_row _ _ _ _ _ _ R5.out]; rfl
                go_wp2_with fail
                refine bodyPost_ret (results_cell_t2 rfl _ _ (W.heap.size + 1 + 1) _ _ (0, 0) _ rfl (rf_store3 Q35.out) Tryz.underlying27 rfl (by kernel_rfl)) rfl ?_
                have hb := ch_below (v0 := .slice ao' ys.length cap') (v1 := .int .i64 D.bud) (v2 := .bool false) HB05.out
                refine ⟨_, rfl, ?_, hb⟩
                try rw [if_neg HPOS.out]
                have hg2 := rf_store3_grown (w := w5) (b := W.heap.size + 1 + 1) (v0 := .slice ao' ys.length cap') (v1 := .int .i64 D.bud) (v2 := .bool false)
                have hs2 := hg2.size
                have hs5 := HS5.out
                have hrd : RfD (doCol c W.heap.size) w4 (rfVal (.slice ao' ys.length cap') ⟨fs', D.bud, false⟩) ⟨fs', D.bud, false⟩ := ⟨_, ys, rfl, HFS'.out, HA'.out⟩
                show RfD c _ _ (Dk.D.norm ⟨fs', D.bud, D.down⟩)
                rw [Dk.D.norm_up (show (⟨fs', D.bud, D.down⟩ : Dk.D).down = false from HDN.out), HDN.out]
                exact hrd.doOut (by omega) (fun b hb hnot => by rw [hg2.block b (by omega) (fun e => by injection e with e; omega), HB45.out.block b hb])

end Go.Proofs.YtegahpgnmeobhaaGreatDoor
