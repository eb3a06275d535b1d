/-
  THE REFERENCE: choice, pieces.
-/
import Derived.Test.YtegahpgnmeobhaaGreatDoorRfApply
import Derived.Test.YtegahpgnmeobhaaGreatDoorDkCreate
import Derived.IntWalk
namespace Go.Proofs.YtegahpgnmeobhaaGreatDoor
open Go.RowKit

set_option maxHeartbeats 400000 in
theorem rf_choice (W : World) (v : Value) (l : Dk.Bs) (i : Nat) (h : RdB W W.heap.size v l) (_hl : l.length ≤ 140737488355328) : Calls Tryz.prog 61 #[v, .int .i64 i] W fun e W' => e = .returned (.int .i64 (Dk.chc l i)) ∧ W' = W := by
  by_cases hlt : i < l.length
  · obtain ⟨g, off, cap, rfl, hcap, hg, hgs, hx⟩ : ∃ g off cap, v = .slice (some ⟨g, off, none⟩) l.length cap ∧ l.length ≤ cap ∧ g < W.heap.size ∧ g < W.heap.size ∧ ∀ j c, l[j]? = some c → W.cell? ⟨g, off + j, none⟩ = some (.int .u8 c.toNat) := by
      rcases h with ⟨h, _⟩ | h
      · rw [h] at hlt; simp at hlt
      · exact h
    have c0 := hx i l[i] (List.getElem?_eq_getElem hlt)
    have hr := Lib.hid (Dk.chc_in l i hlt)
    have hb := dk_cellLt hlt
    clear hx h
    go_enter Tryz.func61, Tryz.ntmps61
    go_wp2_with fail
    go_ret
    exact ⟨by rw [hr.out]; rfl, rfl⟩
  · obtain ⟨a, c, rfl⟩ := h.form
    have hr := Lib.hid (Dk.chc_out l i (by omega))
    clear h
    go_enter Tryz.func61, Tryz.ntmps61
    go_wp2_with fail
    go_ret
    exact ⟨by rw [hr.out]; rfl, rfl⟩

theorem RdB.cutR {W : World} {B : Nat} {v : Value} {b : Dk.Bs} (h : RdB W B v b) (fr j : Nat) (h1 : fr < j) (h2 : j ≤ b.length) : ∃ g o cap, v = .slice (some ⟨g, o, none⟩) b.length cap ∧ b.length ≤ cap ∧ RdB W B (.slice (some ⟨g, o + fr, none⟩) (j - fr) (cap - fr)) ((b.take j).drop fr) := by
  rcases h with ⟨rfl, _⟩ | ⟨g, off, cap, rfl, hc, hg, hgs, hx⟩
  · simp at h2; omega
  · refine ⟨g, off, cap, rfl, hc, .inr ⟨g, off + fr, cap - fr, ?_, ?_, hg, hgs, fun k u hk => ?_⟩⟩
    · rw [List.length_drop, List.length_take, Nat.min_eq_left h2]
    · rw [List.length_drop, List.length_take]; omega
    · rw [List.getElem?_drop, List.getElem?_take] at hk
      split at hk
      · rw [Nat.add_assoc]; exact hx _ _ hk
      · cases hk

theorem bit_of (m k : Nat) : (((m : Int) / 2 ^ k).tmod 2 == 1) = decide ((m >>> k) % 2 = 1) := by
  rw [Nat.shiftRight_eq_div_pow]
  have e : ((m : Int) / 2 ^ k) = ((m / 2 ^ k : Nat) : Int) := by simp
  rw [e]
  generalize m / 2 ^ k = q
  rw [Int.tmod_eq_emod_of_nonneg (by omega)]
  by_cases h : q % 2 = 1
  · rw [decide_eq_true h, beq_iff_eq]; omega
  · rw [decide_eq_false h, beq_eq_false_iff_ne]; omega

set_option maxRecDepth 100000 in
set_option maxHeartbeats 4000000 in
theorem rf_pieces {c : Nat → Nat} (W : World) (v bv : Value) (d b : Dk.Bs) (off m : Nat) (hc : New0 c W.heap.size) (h : RdC c W v d) (hb : RdB W W.heap.size bv b) (_hm : m < 256) (hd : d.length ≤ 16777216) (hbd : off + b.length ≤ 16777216) :
    Calls Tryz.prog 62 #[v, .agg #[.int .i64 off, bv], .int .i64 m] W fun e W' => ∃ v', e = .returned v' ∧ RdC c W' v' (Dk.contents d (Dk.keepBits m 0 (Dk.pieces ⟨off, b⟩))) ∧ Below W.heap.size W W' := by
  have hinv := Dk.PcInv.start b off m d
  obtain ⟨fin, hfin⟩ : ∃ fin, fin = Dk.contents d (Dk.keepBits m 0 (Dk.pieces ⟨off, b⟩)) := ⟨_, rfl⟩
  rw [← hfin] at hinv ⊢
  obtain ⟨ba, bc, rfl⟩ := hb.form
  obtain ⟨W1, hW1⟩ : ∃ W1, W1 = W.alloc (.cells #[.int .i64 off, .slice ba b.length bc] 88) := ⟨_, rfl⟩
  have hb01 : Below W.heap.size W W1 := by rw [hW1]; exact (Below.refl _ _).alloc (Nat.le_refl _) _
  have hrow : W1.heap[W.heap.size]? = some (.cells #[.int .i64 off, .slice ba b.length bc] 88 (0, 0)) := by rw [hW1]; exact heap_alloc_new W _
  have hs1 : W1.heap.size = W.heap.size + 1 := by rw [hW1]; simp
  have hh1 : RdC c W1 v d := h.below hb01
  have HI := Lib.hid hinv
  have HB := Lib.hid hb
  have HH1 := Lib.hid hh1
  have HB01 := Lib.hid hb01
  have HROW := Lib.hid hrow
  have HS1 := Lib.hid hs1
  have HC := Lib.hid hc
  have HW := Lib.hid hW1
  obtain ⟨va, vc, rfl⟩ := h.1.form
  clear hinv hfin hb hh1 hb01 hrow hs1 hc hW1 h
  go_enter Tryz.func62, Tryz.ntmps62
  go_wp2_with fail
  rw [← HW.out]
  go_loopw [0, 7, 8, 9] (fun dv fv nv jv wr => ∃ (fr n j : Nat) (dd : Dk.Bs), fv = .int .i64 fr ∧ nv = .int .i64 n ∧ jv = .int .i64 j ∧ Hid (RdC c wr dv dd) ∧ Hid (Dk.PcInv b off m fin fr n j dd) ∧ Hid (Below W1.heap.size W1 wr) ∧ dd.length ≤ 16777216) (fun _ _ _ jv _ => b.length + 1 - (RowKit.intOf jv).toNat)
  case atStart => exact ⟨0, 0, 1, d, rfl, rfl, rfl, HH1, HI, Lib.hid (Below.refl _ _), hd⟩
  case round =>
    obtain ⟨fr, n, j, dd, rfl, rfl, rfl, HD, HP, HBL, hdd⟩ := hrel
    have r1 := (HBL.out.block W.heap.size (by rw [HS1.out]; omega)).trans HROW.out
    have c0 : wr.cell? ⟨W.heap.size, 0, none⟩ = some (.int .i64 off) := by rw [cell_of_row _ _ _ _ _ _ r1]; rfl
    have c1 : wr.cell? ⟨W.heap.size, 1, none⟩ = some (.slice ba b.length bc) := by rw [cell_of_row _ _ _ _ _ _ r1]; rfl
    have p1 := HP.out.1
    have p2 := HP.out.2.1
    have p3 := HP.out.2.2.1
    obtain ⟨da, dc, rfl⟩ := HD.out.1.form
    clear r1 HI
    by_cases hj : j ≤ b.length
    · have hj1 : (j : Int) ≤ b.length := by omega
      by_cases hcut : j = b.length ∨ (off + j) % 512 = 0
      · obtain ⟨hnext, hpos⟩ := HP.out.cut hj hcut
        obtain ⟨g, o, cap, hbv, hcap, hrd⟩ := HB.out.cutR fr j p1 hj
        injection hbv with hb1 _ hb2
        subst hb1 hb2
        have HN := Lib.hid hnext
        have hw0 : Below W.heap.size W wr := HB01.out.trans (HBL.out.mono (by rw [HS1.out]; omega))
        have hap := rf_apply wr.drew _ _ dd ((b.take j).drop fr) (off + fr) HD.out.1.at_drew ((hrd.below hw0).mono hw0.size).at_drew (by omega) (by rw [List.length_drop, List.length_take]; omega)
        rw [Dk.rapply_pos _ _ _ hpos] at hap
        have hov : (Dk.over dd (off + fr) ((b.take j).drop fr)).length ≤ 16777216 := by rw [Dk.over_length, List.length_drop, List.length_take]; omega
        rw [show ((off + fr : Nat) : Int) = (off : Int) + (fr : Int) by omega] at hap
        have HAP := Lib.hid hap
        have hne : ¬ bc = fr := by omega
        have hfj : (fr : Int) ≤ j := by omega
        have hjb : (j : Int) ≤ bc := by omega
        clear hnext hpos hrd hap
        generalize (b.take j).drop fr = pc at *
        have hem := bit_of m (n % 8)
        by_cases hbit : (m >>> (n % 8)) % 2 = 1
        · rw [if_pos hbit] at HN
          rw [decide_eq_true hbit] at hem
          clear hbit
          by_cases hjl : j = b.length
          · subst hjl
            clear hcut
            go_wp2_with fail
            refine wp_region_still_tail 10 (by kernel_rfl) (by kernel_rfl) ?_
            simp only [List.take_succ_cons, List.take_zero, List.drop_succ_cons, List.drop_zero]
            change wpStill _ _ (World.drew _) _ _ _
            repeat still_step
            refine wpStill_nil ?_
            go_wp2_with fail
            refine HAP.out.mono ?_
            rintro e w3 ⟨v3, rfl, hown3, hb3⟩
            have HD3 := Lib.hid (RdC.own0 hown3 (HC.out.mono hw0.size))
            have HB3 := Lib.hid (HBL.out.drew.trans (hb3.mono HBL.out.size))
            obtain ⟨a3, c3, rfl⟩ := rf_own_form hown3
            clear hown3 hb3
            go_wp2_with fail
            refine ⟨⟨b.length, n + 1, b.length + 1, _, rfl, by go_num, by go_num, HD3, HN, HB3, hov⟩, by simp [RowKit.intOf] <;> omega⟩
          · have ej : ((j : Int) == (b.length : Int)) = false := by rw [beq_eq_false_iff_ne]; omega
            have ej2 : ¬ (j : Int) = (b.length : Int) := by omega
            have eo : (((off : Int) + (j : Int)) % 512 == 0) = true := by rw [beq_iff_eq]; omega
            clear hcut hjl
            go_wp2_with fail
            refine wp_region_still_tail 10 (by kernel_rfl) (by kernel_rfl) ?_
            simp only [List.take_succ_cons, List.take_zero, List.drop_succ_cons, List.drop_zero]
            change wpStill _ _ (World.drew _) _ _ _
            repeat still_step
            refine wpStill_nil ?_
            go_wp2_with fail
            refine HAP.out.mono ?_
            rintro e w3 ⟨v3, rfl, hown3, hb3⟩
            have HD3 := Lib.hid (RdC.own0 hown3 (HC.out.mono hw0.size))
            have HB3 := Lib.hid (HBL.out.drew.trans (hb3.mono HBL.out.size))
            obtain ⟨a3, c3, rfl⟩ := rf_own_form hown3
            clear hown3 hb3
            go_wp2_with fail
            refine ⟨⟨j, n + 1, j + 1, _, rfl, by go_num, by go_num, HD3, HN, HB3, hov⟩, by simp [RowKit.intOf] <;> omega⟩
        · rw [if_neg hbit] at HN
          rw [decide_eq_false hbit] at hem
          clear hbit HAP
          by_cases hjl : j = b.length
          · subst hjl
            clear hcut
            go_wp2_with fail
            refine ⟨⟨b.length, n + 1, b.length + 1, dd, rfl, by go_num, by go_num, HD, HN, HBL, hdd⟩, by simp [RowKit.intOf] <;> omega⟩
          · have ej : ((j : Int) == (b.length : Int)) = false := by rw [beq_eq_false_iff_ne]; omega
            have ej2 : ¬ (j : Int) = (b.length : Int) := by omega
            have eo : (((off : Int) + (j : Int)) % 512 == 0) = true := by rw [beq_iff_eq]; omega
            clear hcut hjl
            go_wp2_with fail
            refine ⟨⟨j, n + 1, j + 1, dd, rfl, by go_num, by go_num, HD, HN, HBL, hdd⟩, by simp [RowKit.intOf] <;> omega⟩
      · have hjl : j < b.length := by omega
        have HN := Lib.hid (HP.out.next hjl (by omega))
        have ej : ((j : Int) == (b.length : Int)) = false := by rw [beq_eq_false_iff_ne]; omega
        have ej2 : ¬ (j : Int) = (b.length : Int) := by omega
        have eo : (((off : Int) + (j : Int)) % 512 == 0) = false := by rw [beq_eq_false_iff_ne]; omega
        clear hcut
        go_wp2_with fail
        refine ⟨⟨fr, n, j + 1, dd, rfl, rfl, by go_num, HD, HN, HBL, hdd⟩, by simp [RowKit.intOf] <;> omega⟩
    · have hst := HP.out.stop (by omega)
      have hj1 : ¬ (j : Int) ≤ b.length := by omega
      have HST := Lib.hid hst
      clear hst
      go_wp2_with fail
      go_ret
      have hs1 := HS1.out
      refine ⟨_, rfl, ?_, HB01.out.trans (HBL.out.mono (by omega))⟩
      rw [← HST.out]
      exact HD.out

end Go.Proofs.YtegahpgnmeobhaaGreatDoor
