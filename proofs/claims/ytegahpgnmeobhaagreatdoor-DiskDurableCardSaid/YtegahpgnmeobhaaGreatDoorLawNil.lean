/-
  DiskNil: the walk (under way).
-/
import Derived.Test.YtegahpgnmeobhaaGreatDoorRfNilPlain
import Derived.Test.YtegahpgnmeobhaaGreatDoorDkApp1
import Derived.Test.YtegahpgnmeobhaaGreatDoorRfApply
namespace Go.Proofs.YtegahpgnmeobhaaGreatDoor
open Go.RowKit

theorem own_block {W W' : World} {B : Nat} {t : TypeId} {sz : Nat} {v : Value} {n : Nat} {xs : List Value} (h : W.ownsRow B t sz v n xs) (hb : ∀ g, v.ownBlock = some g → W'.heap[g]? = W.heap[g]?) : W'.ownsRow B t sz v n xs := by
  refine ⟨h.1, ?_⟩
  rcases h.2 with hn | ⟨g, cap, cur, hv, hB, hh, rest⟩
  · exact .inl hn
  · exact .inr ⟨g, cap, cur, hv, hB, (hb g (by simp [hv, Value.ownBlock])).trans hh, rest⟩

theorem inc_step {wr : World} {B g n cp i : Nat} {l : Dk.Bs} (hO : wr.ownsRow B 5 1 (.slice (some ⟨g, 0, none⟩) n cp) n (dkCells l)) (z : UInt8) :
    (wr.setCell ⟨g, i, none⟩ (.int .u8 (((z.toNat : Int) + 1) % 256))).ownsRow B 5 1 (.slice (some ⟨g, 0, none⟩) n cp) n (dkCells (l.set i (z + 1))) ∧ wr.grownBy (wr.setCell ⟨g, i, none⟩ (.int .u8 (((z.toNat : Int) + 1) % 256))) (some g) := by
  obtain ⟨s, gg⟩ := hO.stored i (.int .u8 (((z.toNat : Int) + 1) % 256))
  have e : (dkCells l).set i (.int .u8 (((z.toNat : Int) + 1) % 256)) = dkCells (l.set i (z + 1)) := by
    unfold dkCells Lib.byteCells
    rw [List.map_set]
    congr 2
  rw [e] at s
  exact ⟨s, gg⟩
theorem chg_step {c : Nat → Nat} {W w w' : World} {g : Nat} (h : Chg 5 c c W w) (hg : w.grownBy w' (some g)) (hc : c g = 5) : Chg 5 c c W w' :=
  h.trans ⟨hg.os, hg.tape, hg.output, hg.size, fun b hb hne => hg.block b hb (by intro e; cases e; exact hne hc), fun _ _ => rfl⟩

namespace Dk
theorem read_x (fs : List (Bs × Fl)) (f : Fl) (h : find [120] fs = some f) : D.read ⟨fs, -1, false⟩ [120] = (f.contents, 0) := by
  unfold D.read
  rw [if_neg (by simp)]
  simp only [h]
theorem find_upd (n : Bs) (f : Fl) (fs : List (Bs × Fl)) (g : Fl) (h : find n fs = some g) : find n (upd n f fs) = some f := by
  unfold find upd at *
  induction fs with
  | nil => simp at h
  | cons p r ih =>
    rw [List.map_cons, List.find?_cons]
    rw [List.find?_cons] at h
    by_cases hp : p.1 = n
    · simp [hp]
    · have hp2 : (p.1 == n) = false := by simpa using hp
      simp only [hp2, Bool.false_eq_true, if_false] at h ⊢
      exact ih h
theorem write_x (fs : List (Bs × Fl)) (h : find [120] fs = some ⟨[], []⟩) (l : Bs) (hl : l.length ≤ 16777216) : ∃ fs2 f, D.write ⟨fs, -1, false⟩ [120] (fun n => n) l = (⟨fs2, -1, false⟩, 0) ∧ find [120] fs2 = some f ∧ f.contents = l := by
  have hc : writeCheck ⟨fs, -1, false⟩ [120] (fun n => n) l = 0 := by
    unfold writeCheck
    simp only [h]
    rw [if_neg]
    simp [Fl.contents, contents]
    omega
  unfold D.write
  rw [if_neg (by simp), if_neg (by rw [hc]; simp)]
  by_cases h0 : l = []
  · rw [if_pos h0]
    exact ⟨fs, _, rfl, h, by rw [h0]; rfl⟩
  · rw [if_neg h0]
    simp only [h]
    refine ⟨_, _, rfl, find_upd _ _ _ _ h, ?_⟩
    simp [Fl.contents, contents, Wr.apply, over]
end Dk

set_option maxRecDepth 100000 in
set_option maxHeartbeats 4000000 in
theorem law_nil (W : World) (o : Dk.Raw) (bv : Value) (name : ByteArray) (hk1 : -9223372036854775808 ≤ o.kind) (hk2 : o.kind ≤ 9223372036854775807) (hn : name.size ≤ 9223372036854775807) (hrd : RdB W W.heap.size bv o.b) :
    Calls Tryz.prog 10 #[rawVal o bv, .string name] W fun e W' => e = .returned (.bool true) ∧ Below W.heap.size W W' := by
  obtain ⟨kind, nm, to, n, b⟩ := o
  simp only [] at hk1 hk2 hrd
  obtain ⟨W1, hW1⟩ : ∃ W1, W1 = W.alloc (.cells #[.int .i64 kind, .string nm, .string to, .int .i64 n, bv] 54) := ⟨_, rfl⟩
  have b1 : Below W.heap.size W W1 := by rw [hW1]; exact (Below.refl _ _).alloc (Nat.le_refl _) _
  have hsm := dk_small W1 ⟨kind, nm, to, n, b⟩ hk1 hk2 bv W.heap.size (hrd.below b1)
  obtain ⟨⟨kd, nm', to', n', b'⟩, ho⟩ : ∃ q, q = Dk.small ⟨kind, nm, to, n, b⟩ := ⟨_, rfl⟩
  rw [← ho] at hsm
  have hrow : W1.heap[W.heap.size]? = some (.cells #[.int .i64 kind, .string nm, .string to, .int .i64 n, bv] 54 (0, 0)) := by rw [hW1]; exact heap_alloc_new _ _
  rw [hW1] at hsm
  unfold opVal rawVal at hsm
  simp only [] at hsm
  have HS := Lib.hid hsm
  clear hsm hrd
  unfold rawVal
  simp only []
  go_enter Tryz.func10, Tryz.ntmps10
  go_wp2_with fail
  refine HS.out.mono ?_
  rintro e W2 ⟨bv', rfl, hrd2, hb2⟩
  rw [← hW1] at hb2 hrd2
  have r2 := (hb2.block W.heap.size (by rw [hW1]; simp)).trans hrow
  have c0 := dk_frozen W2 W.heap.size 0 _ _ r2
  have c1 := dk_frozen W2 W.heap.size 1 _ _ r2
  have c2 := dk_frozen W2 W.heap.size 2 _ _ r2
  have c3 := dk_frozen W2 W.heap.size 3 _ _ r2
  have c4 := dk_frozen W2 W.heap.size 4 _ _ r2
  have a0 : W2.cell? ⟨W.heap.size, 0, none⟩ = some (.int .i64 kind) := by rw [cell_of_row W2 _ _ _ _ _ r2]; rfl
  have a1 : W2.cell? ⟨W.heap.size, 1, none⟩ = some (.string nm) := by rw [cell_of_row W2 _ _ _ _ _ r2]; rfl
  have a2 : W2.cell? ⟨W.heap.size, 2, none⟩ = some (.string to) := by rw [cell_of_row W2 _ _ _ _ _ r2]; rfl
  have a3 : W2.cell? ⟨W.heap.size, 3, none⟩ = some (.int .i64 n) := by rw [cell_of_row W2 _ _ _ _ _ r2]; rfl
  have a4 : W2.cell? ⟨W.heap.size, 4, none⟩ = some bv := by rw [cell_of_row W2 _ _ _ _ _ r2]; rfl
  obtain ⟨ba, bc, hbv⟩ := hrd2.form
  rw [List.length_take] at hbv
  rw [hbv]
  have HR := Lib.hid r2
  have HD2 := Lib.hid hrd2
  have HB2 := Lib.hid hb2
  clear r2 hrow hrd2 hb2 hW1
  have s0 := dk_setCell W2 W.heap.size 0 _ _ (.int .i64 kd) HR.out
  have s1 := dk_setCell _ W.heap.size 1 _ _ (.string nm') s0
  have s2 := dk_setCell _ W.heap.size 2 _ _ (.string to') s1
  have s3 := dk_setCell _ W.heap.size 3 _ _ (.int .i64 n') s2
  have s4 := dk_setCell _ W.heap.size 4 _ _ (.slice ba (min 1500 b.length) bc) s3
  obtain ⟨W3, hW3⟩ : ∃ W3, W3 = ((((W2.setCell ⟨W.heap.size, 0, none⟩ (.int .i64 kd)).setCell ⟨W.heap.size, 1, none⟩ (.string nm')).setCell ⟨W.heap.size, 2, none⟩ (.string to')).setCell ⟨W.heap.size, 3, none⟩ (.int .i64 n')).setCell ⟨W.heap.size, 4, none⟩ (.slice ba (min 1500 b.length) bc) := ⟨_, rfl⟩
  rw [← hW3] at s4
  have r3 : W3.heap[W.heap.size]? = some (.cells #[.int .i64 kd, .string nm', .string to', .int .i64 n', .slice ba (min 1500 b.length) bc] 54 (0, 0)) := s4
  have g3 : W2.grownBy W3 (some W.heap.size) := by
    rw [hW3]
    exact dk_grown_setCell _ _ _ 4 _ (dk_grown_setCell _ _ _ 3 _ (dk_grown_setCell _ _ _ 2 _ (dk_grown_setCell _ _ _ 1 _ (dk_grown_setCell _ _ _ 0 _ ⟨rfl, rfl, rfl, Nat.le_refl _, fun _ _ _ => rfl⟩))))
  have HW3 := Lib.hid hW3
  have hb02 : Below W.heap.size W W2 := b1.trans (HB2.out.mono b1.size)
  have b13 : Below W.heap.size W1 W3 := ⟨g3.os.trans HB2.out.os, g3.tape.trans HB2.out.tape, g3.output.trans HB2.out.output, Nat.le_trans HB2.out.size g3.size, fun k hk => (g3.block k (Nat.lt_of_lt_of_le hk hb02.size) (fun e => by cases e; omega)).trans (HB2.out.block k (Nat.lt_of_lt_of_le hk b1.size))⟩
  have HD3 := Lib.hid (HD2.out.below b13)
  have hlt3 := (Array.getElem?_eq_some_iff.1 r3).1
  have b3 : Below W.heap.size W W3 := ⟨g3.os.trans hb02.os, g3.tape.trans hb02.tape, g3.output.trans hb02.output, Nat.le_trans hb02.size g3.size, fun k hk => (g3.block k (Nat.lt_of_lt_of_le hk hb02.size) (fun e => by cases e; omega)).trans (hb02.block k hk)⟩
  have d0 : W3.cell? ⟨W.heap.size, 0, none⟩ = some (.int .i64 kd) := by rw [cell_of_row W3 _ _ _ _ _ r3]; rfl
  have d1 : W3.cell? ⟨W.heap.size, 1, none⟩ = some (.string nm') := by rw [cell_of_row W3 _ _ _ _ _ r3]; rfl
  have d2 : W3.cell? ⟨W.heap.size, 2, none⟩ = some (.string to') := by rw [cell_of_row W3 _ _ _ _ _ r3]; rfl
  have d3 : W3.cell? ⟨W.heap.size, 3, none⟩ = some (.int .i64 n') := by rw [cell_of_row W3 _ _ _ _ _ r3]; rfl
  have d4 : W3.cell? ⟨W.heap.size, 4, none⟩ = some (.slice ba (min 1500 b.length) bc) := by rw [cell_of_row W3 _ _ _ _ _ r3]; rfl
  have hkd : kd < 10 := by have := Dk.small_kind ⟨kind, nm, to, n, b⟩; rw [← ho] at this; exact this
  have HDO := Lib.hid (nil_Do W3 ⟨kd, nm', to', n', b'⟩ hkd ba (min 1500 b.length) bc)
  have R3 := Lib.hid r3
  have B3 := Lib.hid b3
  clear s0 s1 s2 s3 s4 hW3 r3 g3 b3 hb02 b13 HD2 HB2 b1
  go_wp2_with fail
  rw [← HW3.out]
  refine (nil_Read W3 name).mono ?_
  rintro e W4 ⟨rfl, rfl⟩
  clear a0 a1 a2 a3 a4 c0 c1 c2 c3 c4
  go_wp2_with fail
  refine (nil_Size W3 name).mono ?_
  rintro e W4 ⟨rfl, rfl⟩
  go_wp2_with fail
  have hdo := HDO.out
  unfold opVal at hdo
  simp only [] at hdo
  refine hdo.mono ?_
  rintro e W4 ⟨rfl, b4⟩
  go_wp2_with fail
  refine (nil_List W4).mono ?_
  rintro e W5 ⟨rfl, rfl⟩
  go_wp2_with fail
  refine (nil_Pending W4 name).mono ?_
  rintro e W5 ⟨rfl, rfl⟩
  go_wp2_with fail
  refine (nil_Budget W4).mono ?_
  rintro e W5 ⟨rfl, rfl⟩
  go_wp2_with fail
  refine (nil_Down W4).mono ?_
  rintro e W5 ⟨rfl, rfl⟩
  go_wp2_with fail
  refine (nil_Clone W4).mono ?_
  rintro e W5 ⟨rfl, rfl⟩
  go_wp2_with fail
  refine (nil_Equal W4 none).mono ?_
  rintro e W5 ⟨rfl, rfl⟩
  go_wp2_with fail
  have b4' : Below W.heap.size W W4 := B3.out.trans (b4.mono B3.out.size)
  have B4 := Lib.hid b4'
  have BX := Lib.hid b4
  clear b4 b4' hdo
  refine (dk_new W4 1 (fun _ => 0) (by decide)).mono ?_
  rintro e W5 ⟨g, rfl, D5, b5⟩
  have K5 : Kn W4 W5 (pnt (fun _ => 0) W4.heap.size 1) := ⟨b5, fun b hb => pnt_old hb⟩
  generalize pnt (fun _ => 0) W4.heap.size 1 = c5 at *
  clear b5
  go_wp2_with fail
  refine (nil_Equal W5 (some ⟨g, 0, none⟩)).mono ?_
  rintro e W6 ⟨rfl, rfl⟩
  go_wp2_with fail
  have n6 := dk_create D5 name hn (by decide) (by decide)
  obtain ⟨fs, r, hcr, hfs, hr⟩ : ∃ fs r, Dk.D.create ⟨[], -1, false⟩ name.data.toList = (⟨fs, -1, false⟩, r) ∧ (fs = [] ∨ ∃ n, fs = [(n, (⟨[], []⟩ : Dk.Fl))]) ∧ (r == 0) = Dk.valid name.data.toList := by
    rw [Dk.create_new]
    cases Dk.valid name.data.toList
    · exact ⟨[], 6, rfl, .inl rfl, rfl⟩
    · exact ⟨_, 0, rfl, .inr ⟨_, rfl⟩, rfl⟩
  rw [hcr] at n6
  refine n6.mono ?_
  rintro e W7 ⟨c7, rfl, D7, h7⟩
  have K7 := Lib.hid (K5.chg h7 (by decide))
  clear n6 h7 K5 D5 hcr
  go_wp2_with fail
  refine (rf_valid name W7 hn).mono ?_
  rintro e W7' ⟨rfl, rfl⟩
  generalize Dk.valid name.data.toList = vb at *
  clear hr
  go_wp2_with fail
  obtain ⟨fs', r', hcr', hfind, hlen⟩ := Dk.create_x fs hfs
  have n8 := dk_create D7 ⟨#[120]⟩ (by decide) (by show (-1 : Int) ≤ _; decide) (by rcases hfs with rfl | ⟨n, rfl⟩ <;> simp)
  rw [show (⟨#[120]⟩ : ByteArray).data.toList = [120] from rfl, hcr'] at n8
  refine n8.mono ?_
  rintro e W8 ⟨c8, rfl, D8, h8⟩
  have K8 := Lib.hid (K7.out.chg h8 (by decide))
  clear n8 h8 D7 hcr' hfs K7
  have HR4 := Lib.hid ((BX.out.block _ hlt3).trans R3.out)
  have hlt4 : W.heap.size < W4.heap.size := by have := BX.out.size; omega
  have hd4 := HD3.out.below (BX.out.mono (show W.heap.size ≤ W3.heap.size by omega))
  rw [hbv] at hd4
  have HD4 := Lib.hid hd4
  have R8 := (K8.out.1.block _ hlt4).trans HR4.out
  have r8 := HD4.out.below (K8.out.1.mono (show W.heap.size ≤ W4.heap.size by omega))
  have hlt8 := (Array.getElem?_eq_some_iff.1 R8).1
  obtain ⟨v9, w9, hrun, hown, hb9⟩ := rf_copyB (r8.mono (show W.heap.size ≤ W8.heap.size by omega)) (by rw [List.length_take]; omega) 23
  have hlen : (b.take 1500).length = min 1500 b.length := List.length_take
  rw [hlen] at hown
  obtain ⟨xa, xc, rfl⟩ := rf_own_form hown
  have e4 : (W8.alloc (.cells #[] 5)).cell? ⟨W.heap.size, 4, none⟩ = some (.slice ba (min 1500 b.length) bc) := Lib.cell?_alloc_some _ (by rw [cell_of_row _ _ _ _ _ _ R8]; rfl)
  have D9 : DiskAt 1 (pnt c8 W8.heap.size 5) w9 g ⟨fs', -1, false⟩ := D8.chg (Chg.of_below (i := 3) hb9 5) (by decide) (by decide)
  have K9 := Lib.hid (K8.out.chg (Chg.of_below (i := 3) hb9 5) (by decide))
  have RN9 : RdN 1 (pnt c8 W8.heap.size 5) w9 (.slice xa (min 1500 b.length) xc) (b.take 1500) := by
    rw [← hlen] at hown ⊢
    exact ⟨RdB.of_own hown, fun _ g hg => by rw [pnt_new (hown.lt g hg).1]; decide⟩
  have HRUN := Lib.hid hrun
  obtain ⟨fs2, f2, hw2, hf2, hc2⟩ := Dk.write_x fs' hfind (b.take 1500) (by rw [hlen]; omega)
  have HCOL : Hid (∀ g, (Value.slice xa (min 1500 b.length) xc).ownBlock = some g → g < w9.heap.size ∧ pnt c8 W8.heap.size 5 g = 5) := Lib.hid (fun g hg => ⟨(hown.lt g hg).2, pnt_new (hown.lt g hg).1⟩)
  have HOWN := Lib.hid hown
  generalize pnt c8 W8.heap.size 5 = c9 at *
  have n9 := Lib.hid (dk_AppendN D9 ⟨#[120]⟩ (by decide) (by show (-1 : Int) ≤ _; decide) (b.take 1500) _ RN9 (by rw [hlen]; omega) (fun f hf => by
    have e := hfind.symm.trans hf
    cases e
    decide))
  clear R8 r8 hrun hown hb9 hlt8 hfind K8 D8 hd4 RN9 D9 hlen hlt3 HD3 R3
  go_wp2_with (at_builtin; refine Lib.wpList_append_run _ rfl _ _ _ _ rfl _ _ rfl rfl _ _ HRUN.out ?_)
  have n9' := n9.out
  rw [hw2] at n9'
  refine n9'.mono ?_
  rintro e W10 ⟨c10, rfl, D10, h10⟩
  have K10 := Lib.hid (K9.out.chg h10 (by decide))
  have HO10 := Lib.hid (own_block HOWN.out (fun g hg => h10.block g (HCOL.out g hg).1 (by rw [(HCOL.out g hg).2]; decide)))
  have HC10 : Hid (∀ g, (Value.slice xa (min 1500 b.length) xc).ownBlock = some g → c10 g = 5) := Lib.hid (fun g hg => (h10.col g (HCOL.out g hg).1).trans (HCOL.out g hg).2)
  have HD10 := Lib.hid D10
  clear n9 n9' h10 D10 hw2 HOWN HCOL K9 HRUN
  go_wp2_with fail
  have hlt0 : (b.take 1500).length = min 1500 b.length := List.length_take
  go_loopw [12] (fun iv wr => ∃ (k : Nat) (l : Dk.Bs), iv = .int .i64 k ∧ k ≤ min 1500 b.length ∧ l.length = min 1500 b.length ∧ Hid (wr.ownsRow W8.heap.size 5 1 (.slice xa (min 1500 b.length) xc) (min 1500 b.length) (dkCells l)) ∧ Hid (Chg 5 c10 c10 W10 wr)) (fun iv _ => min 1500 b.length - (RowKit.intOf iv).toNat)
  case atStart => exact ⟨0, _, rfl, Nat.zero_le _, hlt0, HO10, Lib.hid (Chg.refl _ _ _)⟩
  case round =>
    obtain ⟨k, l, rfl, hk, hll, HO, HC⟩ := hrel
    by_cases hlt : k < min 1500 b.length
    · obtain ⟨g4, c4, hv, hg4, hg4l⟩ := HO.out.form (by omega)
      injection hv with e1 _ e3
      subst e1 e3
      have l0 := HO.out.cellAt k (by omega)
      have l1 := HO.out.frozenAt k
      obtain ⟨z, hz⟩ : ∃ z : UInt8, l[k]? = some z := ⟨_, List.getElem?_eq_getElem (by omega)⟩
      rw [dkCells_at _ _ _ hz] at l0
      obtain ⟨s3, g3⟩ := inc_step (i := k) HO.out z
      have hc3 := chg_step HC.out g3 (HC10.out g4 rfl)
      have HO3 := Lib.hid s3
      have HC3 := Lib.hid hc3
      clear s3 g3 hc3 hz
      go_wp2_with fail
      exact ⟨⟨k + 1, _, by go_num, by omega, by rw [List.length_set]; exact hll, HO3, HC3⟩, by simp [RowKit.intOf]; omega⟩
    · obtain rfl : k = min 1500 b.length := by omega
      have D11 := HD10.out.chg HC.out (by decide) (by decide)
      have K11 := Lib.hid (K10.out.chg HC.out (by decide))
      have n12 := dk_Read D11 ⟨#[120]⟩ (by decide)
      rw [show (⟨#[120]⟩ : ByteArray).data.toList = [120] from rfl, Dk.read_x fs2 f2 hf2, hc2] at n12
      clear HO HC HO10 HC10 HD10 K10 hk hll hlt
      generalize wr = W11 at *
      go_wp2_with fail
      refine n12.mono ?_
      rintro e W12 ⟨vy, rfl, hoy, b12⟩
      have D12 := D11.chg (Chg.of_below (i := 3) b12 5) (by decide) (by decide)
      have K12 := Lib.hid (K11.out.chg (Chg.of_below (i := 3) b12 5) (by decide))
      simp only [hlt0] at hoy
      obtain ⟨ya, yc, rfl⟩ := rf_own_form hoy
      have HC12 : Hid (∀ g, (Value.slice ya (min 1500 b.length) yc).ownBlock = some g → pnt c10 W11.heap.size 5 g = 5) := Lib.hid (fun g hg => pnt_new (hoy.lt g hg).1)
      have HO12 := Lib.hid hoy
      generalize pnt c10 W11.heap.size 5 = c12 at *
      have HD12 := Lib.hid D12
      clear n12 hoy b12 D12 D11 K11
      go_wp2_with fail
      go_loopw [15] (fun iv wr => ∃ (k : Nat) (l : Dk.Bs), iv = .int .i64 k ∧ k ≤ min 1500 b.length ∧ l.length = min 1500 b.length ∧ Hid (wr.ownsRow W11.heap.size 5 1 (.slice ya (min 1500 b.length) yc) (min 1500 b.length) (dkCells l)) ∧ Hid (Chg 5 c12 c12 W12 wr)) (fun iv _ => min 1500 b.length - (RowKit.intOf iv).toNat)
      case atStart => exact ⟨0, _, rfl, Nat.zero_le _, hlt0, HO12, Lib.hid (Chg.refl _ _ _)⟩
      case round =>
        obtain ⟨k, l, rfl, hk, hll, HO, HC⟩ := hrel
        by_cases hlt : k < min 1500 b.length
        · obtain ⟨g4, c4, hv, hg4, hg4l⟩ := HO.out.form (by omega)
          injection hv with e1 _ e3
          subst e1 e3
          have l0 := HO.out.cellAt k (by omega)
          have l1 := HO.out.frozenAt k
          obtain ⟨z, hz⟩ : ∃ z : UInt8, l[k]? = some z := ⟨_, List.getElem?_eq_getElem (by omega)⟩
          rw [dkCells_at _ _ _ hz] at l0
          obtain ⟨s3, g3⟩ := inc_step (i := k) HO.out z
          have hc3 := chg_step HC.out g3 (HC12.out g4 rfl)
          have HO3 := Lib.hid s3
          have HC3 := Lib.hid hc3
          clear s3 g3 hc3 hz
          go_wp2_with fail
          exact ⟨⟨k + 1, _, by go_num, by omega, by rw [List.length_set]; exact hll, HO3, HC3⟩, by simp [RowKit.intOf]; omega⟩
        · obtain rfl : k = min 1500 b.length := by omega
          have D13 := HD12.out.chg HC.out (by decide) (by decide)
          have K13 := Lib.hid (K12.out.chg HC.out (by decide))
          have n14 := dk_Read D13 ⟨#[120]⟩ (by decide)
          rw [show (⟨#[120]⟩ : ByteArray).data.toList = [120] from rfl, Dk.read_x fs2 f2 hf2, hc2] at n14
          clear HO HC HO12 HC12 HD12 K12 hk hll hlt D13
          generalize wr = W13 at *
          go_wp2_with fail
          refine n14.mono ?_
          rintro e W14 ⟨vz, rfl, hoz, b14⟩
          have K14 : Below W4.heap.size W4 W14 := K13.out.1.trans (b14.mono K13.out.1.size)
          have q1 := dk_conv (RdB.of_own hoz) W14 rfl
          have q2 := dk_conv (HD4.out.below (K14.mono (show W.heap.size ≤ W4.heap.size by omega))) W14 rfl
          simp only [hlt0] at hoz
          obtain ⟨za, zc, rfl⟩ := rf_own_form hoz
          have R14 := (K14.block _ hlt4).trans HR4.out
          have e4 : W14.cell? ⟨W.heap.size, 4, none⟩ = some (.slice ba (min 1500 b.length) bc) := by rw [cell_of_row _ _ _ _ _ _ R14]; rfl
          have HK14 := Lib.hid (B4.out.trans (K14.mono (show W.heap.size ≤ W4.heap.size by omega)))
          clear n14 hoz b14 K14 R14 K13
          go_wp2_with fail
          refine (dk_known W14).mono ?_
          rintro e W15 ⟨rfl, hb15⟩
          go_wp2_with fail
          go_ret
          exact ⟨rfl, HK14.out.trans (hb15.mono HK14.out.size)⟩

end Go.Proofs.YtegahpgnmeobhaaGreatDoor
