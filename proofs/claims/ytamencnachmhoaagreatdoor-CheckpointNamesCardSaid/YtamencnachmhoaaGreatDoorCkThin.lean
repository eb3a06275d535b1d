/-
  (*Store).thin.
-/
import Derived.Test.YtamencnachmhoaaGreatDoorCkSequences
namespace Go.Proofs.YtamencnachmhoaaGreatDoor
open Go.RowKit

namespace Ck
theorem takeW_lt {α : Type} {p : α → Bool} : ∀ (l : List α) (m : Nat) (x : α), m ≤ (l.takeWhile p).length → l[m]? = some x → (m < (l.takeWhile p).length ↔ p x = true)
  | [], m, x, _, h => by simp at h
  | a :: l, 0, x, _, h => by
    obtain rfl : a = x := by simpa using h
    rw [List.takeWhile_cons]
    cases p a <;> simp
  | a :: l, m + 1, x, hm, h => by
    rw [List.takeWhile_cons] at hm ⊢
    cases hp : p a with
    | false => rw [hp] at hm; simp at hm
    | true =>
      rw [hp] at hm
      have := takeW_lt (p := p) l m x (by simpa using hm) (by simpa using h)
      simpa using this
theorem takeW_le {α : Type} {p : α → Bool} (l : List α) : (l.takeWhile p).length ≤ l.length := (List.takeWhile_sublist p).length_le
theorem thinL_step {e k : Nat} {F : List (Bs × Nat)} {x : Bs × Nat} {d : Dk.D} (h : F[k]? = some x) : thinL e k (F.drop k) d =
    if e ≤ k + 2 ∧ k < e then thinL e (k + 1) (F.drop (k + 1)) d else if (d.remove x.1).2 ≠ 0 then d.remove x.1 else thinL e (k + 1) (F.drop (k + 1)) (d.remove x.1).1 := by
  obtain ⟨hk, rfl⟩ := List.getElem?_eq_some_iff.1 h
  rw [List.drop_eq_getElem_cons hk, thinL]
end Ck

theorem remove_bud (d : Dk.D) (x : Ck.Bs) (h : d.bud ≤ 9223372036854775807) : (d.remove x).1.bud ≤ 9223372036854775807 := by
  unfold Dk.D.remove
  split
  · exact h
  · split
    · exact h
    · unfold Dk.D.modify
      repeat' split
      all_goals (simp only []; omega)

set_option maxRecDepth 100000 in
set_option maxHeartbeats 1000000 in
theorem ck_thin {i : Nat} {c : Nat → Nat} {W : World} {s g : Nat} {D : Dk.D} {nm : Ck.Bs} {n : Nat} (hd : DiskAt i c W g D) (hs : StIs c W s g nm) (hi : i ≠ 0) (hmany : D.fs.length ≤ 1000000) (hnm : nm.length ≤ 900)
    (hx : ∀ x ∈ D.names, x.length ≤ 1000000000) (ht : Ck.Tame nm D.names) (hord : (Ck.filesF D nm).Pairwise fun a b => a.2 < b.2) (hbud : D.bud ≤ 9223372036854775807) :
    Calls Tryz.prog 68 #[.pointer (some ⟨s, 0, none⟩), .int .i64 n] W (DkPost i c W g (Ck.thin D nm n)) := by
  have n1 := ck_files hd hs hi hmany (by omega) hx ht hord
  have hlen := Ck.filesF_len (D := D) hnm
  have hFL : (Ck.filesF D nm).length ≤ 1000000 := by
    refine Nat.le_trans (List.length_filterMap_le _ _) ?_
    unfold Dk.D.names
    split
    · simp
    · simpa using hmany
  obtain ⟨E, hE⟩ : ∃ E, E = ((Ck.filesF D nm).takeWhile fun x => decide (x.2 ≤ n)).length := ⟨_, rfl⟩
  have HT : Hid (Ck.thin D nm n = Ck.thinL E 0 (Ck.filesF D nm) D) := Lib.hid (by unfold Ck.thin; rw [hE])
  obtain ⟨F, hF⟩ : ∃ F, F = Ck.filesF D nm := ⟨_, rfl⟩
  rw [← hF] at n1 hlen hFL hE HT
  have hEL : E ≤ F.length := by rw [hE]; exact Ck.takeW_le F
  have HE : Hid (∀ (m : Nat) (x : Ck.Bs × Nat), m ≤ E → F[m]? = some x → (m < E ↔ x.2 ≤ n)) := Lib.hid (fun m x hm hx => by
    have := Ck.takeW_lt (p := fun x : Ck.Bs × Nat => decide (x.2 ≤ n)) F m x (by rw [← hE]; exact hm) hx
    rw [← hE] at this
    simpa using this)
  have HLEN := Lib.hid hlen
  have HD := Lib.hid hd
  have HS := Lib.hid hs
  have HBUD := Lib.hid hbud
  clear hd hs hx ht hnm hord hF hlen hmany hE hbud
  go_enter Tryz.func68, Tryz.ntmps68
  go_upto_block 0 with (go_at_call 69; refine n1.mono ?_; rintro e W1 ⟨v1, rfl, o1, b1⟩; have HCELL0 := Lib.hid (files_cells o1); obtain ⟨a1, ca, rfl⟩ := own_slice o1)
  have HC1 : Hid (Chg i c (pnt c W.heap.size 0) W W1) := Lib.hid (Chg.of_below b1 0)
  have HD1 : Hid (DiskAt i (pnt c W.heap.size 0) W1 g D) := Lib.hid (HD.out.chg (Chg.of_below (i := i + 1) b1 0) (by omega) (by omega))
  have HS1 : Hid (StIs (pnt c W.heap.size 0) W1 s g nm) := Lib.hid (HS.out.chg (Chg.of_below (i := i + 1) b1 0) (by omega))
  have HCELL : Hid (0 < F.length → ∃ sb cap, (Value.slice a1 F.length ca) = .slice (some ⟨sb, 0, none⟩) F.length cap ∧ pnt c W.heap.size 0 sb = 0 ∧ sb < W1.heap.size ∧ ∀ (k : Nat) (x : Ck.Bs × Nat), F[k]? = some x → W1.cell? ⟨sb, k * 2, none⟩ = some (.string ⟨x.1.toArray⟩) ∧ W1.cell? ⟨sb, k * 2 + 1, none⟩ = some (.int .i64 x.2)) := Lib.hid (fun h => by
    obtain ⟨sb, cap, h1, h2, h3⟩ := HCELL0.out h
    exact ⟨sb, cap, h1, pnt_new h2, h3⟩)
  generalize pnt c W.heap.size 0 = c1 at *
  obtain ⟨L, hL⟩ : ∃ L, L = F.length := ⟨_, rfl⟩
  rw [← hL] at hFL hEL HCELL ⊢
  have HL := Lib.hid hL
  have HEL := Lib.hid hEL
  clear n1 o1 b1 hL HCELL0
  refine wl_then_of (fun K hK => ?_)
  go_cut [6] from 12 to 26 (fun v6 wx => v6 = .int .i64 E ∧ wx = W1)
  case first =>
    go_wp2_with fail
    go_loopw [6] (fun mv wr => ∃ m : Nat, mv = .int .i64 m ∧ m ≤ E ∧ wr = W1) (fun mv _ => L - (RowKit.intOf mv).toNat)
    case atStart => exact ⟨0, rfl, Nat.zero_le _, rfl⟩
    case round =>
      obtain ⟨m, rfl, hm, rfl⟩ := hrel
      by_cases hlt : m < L
      · obtain ⟨x, hxk⟩ : ∃ x, F[m]? = some x := ⟨_, List.getElem?_eq_getElem (by have := HL.out; omega)⟩
        obtain ⟨sb, cap, hva, -, hsb, hcl⟩ := HCELL.out (by omega)
        cases hva
        obtain ⟨z0, z1⟩ := hcl m x hxk
        have hiff := HE.out m x hm hxk
        have j0 : (m : Int) < (L : Int) := by omega
        by_cases hle : x.2 ≤ n
        · have hme := hiff.2 hle
          have j1 : (x.2 : Int) ≤ (n : Int) := by omega
          clear hcl hxk hiff hle
          go_wp2_with fail
          refine ⟨⟨m + 1, rfl, by omega, by first | rfl | trivial⟩, ?_⟩
          show L - ((m : Int) + 1).toNat < L - ((m : Int)).toNat
          omega
        · have hme : m = E := by
            rcases Nat.lt_or_ge m E with h | h
            · exact absurd (hiff.1 h) hle
            · omega
          have j1 : ¬ (x.2 : Int) ≤ (n : Int) := by omega
          have HME := Lib.hid hme
          clear hcl hxk hiff hle hme
          go_wp2_with fail
          go_meet
          case rel => exact ⟨by rw [HME.out], by first | rfl | trivial⟩
      · have hme : m = E := by have := HEL.out; omega
        have j0 : ¬ (m : Int) < (L : Int) := by omega
        have HME := Lib.hid hme
        clear hme
        go_wp2_with fail
        go_meet
        case rel => exact ⟨by rw [HME.out], by first | rfl | trivial⟩
  case rest =>
    obtain ⟨rfl, rfl⟩ := hcut
    go_wp2_with fail
    go_loopw [29] (fun kv wr => ∃ (k : Nat) (c' : Nat → Nat) (d : Dk.D), kv = .int .i64 k ∧ k ≤ L ∧ Hid (DiskAt i c' wr g d) ∧ Hid (Chg i c1 c' wc wr) ∧ Hid (Ck.thin D nm n = Ck.thinL E k (F.drop k) d) ∧ Hid (d.bud ≤ 9223372036854775807)) (fun kv _ => L - (RowKit.intOf kv).toNat)
    case atStart => exact ⟨0, c1, D, rfl, Nat.zero_le _, HD1, Lib.hid (Chg.refl _ _ _), HT, HBUD⟩
    case round =>
      obtain ⟨k, c', d, rfl, hk, HDd, HCd, HTd, HBd⟩ := hrel
      by_cases hlt : k < L
      · obtain ⟨x, hxk⟩ : ∃ x, F[k]? = some x := ⟨_, List.getElem?_eq_getElem (by have := HL.out; omega)⟩
        have hx1 := HLEN.out x (List.mem_of_getElem? hxk)
        have HSTEP := Lib.hid (Ck.thinL_step (e := E) (d := d) hxk)
        obtain ⟨sb, cap, hva, hsc, hsb, hcl⟩ := HCELL.out (by omega)
        cases hva
        obtain ⟨z0, z1⟩ := hcl k x hxk
        have hblk := HCd.out.block sb hsb (by omega)
        have y0 : wr.cell? ⟨sb, k * 2, none⟩ = some (.string ⟨x.1.toArray⟩) := (World.cell?_of_block (a := ⟨sb, k * 2, none⟩) hblk).trans z0
        have y1 : wr.cell? ⟨sb, k * 2 + 1, none⟩ = some (.int .i64 x.2) := (World.cell?_of_block (a := ⟨sb, k * 2 + 1, none⟩) hblk).trans z1
        obtain ⟨xn, xq⟩ := x
        simp only [] at y0 y1 hx1 HSTEP
        obtain ⟨X, hX⟩ : ∃ X : ByteArray, X = ⟨xn.toArray⟩ := ⟨_, rfl⟩
        rw [← hX] at y0
        obtain ⟨wa, hwa⟩ : ∃ wa, wa = wr.alloc (.cells #[.string X, .int .i64 xq] 113) := ⟨_, rfl⟩
        have ba : Below wr.heap.size wr wa := by rw [hwa]; exact (Below.refl _ _).alloc (Nat.le_refl _) _
        have hrow : wa.heap[wr.heap.size]? = some (.cells #[.string X, .int .i64 xq] 113 (0, 0)) := by rw [hwa]; exact heap_alloc_new _ _
        have HWA := Lib.hid hwa
        have HROW := Lib.hid hrow
        have HDa : Hid (DiskAt i c' wa g d) := Lib.hid (HDd.out.chg (Chg.of_belowSame (i := i + 1) ba) (by omega) (by omega))
        have HCa : Hid (Chg i c1 c' wc wa) := Lib.hid (HCd.out.trans (Chg.of_belowSame ba))
        have hSa := HS1.out.chg HCa.out hi
        have nR := dk_Remove (HDa.out.chg (Chg.of_belowSame (i := i + 1) (W' := wa.drew) ((Below.refl _ _).drew)) (by omega) (by omega)) X (by rw [hX]; show xn.toArray.size ≤ _; simp; omega) HBd.out
        have hXd : X.data.toList = xn := by rw [hX]
        rw [hXd] at nR
        have hbr := remove_bud d xn HBd.out
        have HBR := Lib.hid hbr
        have j0 : (k : Int) < (L : Int) := by omega
        obtain ⟨s0, -⟩ := hSa.cells
        have q0 : wa.cell? ⟨wr.heap.size, 0, none⟩ = some (.string X) := by rw [cell_of_row _ _ _ _ _ _ hrow]; rfl
        have HX := Lib.hid hX
        clear hx1 hcl hX hxk z0 z1 ba hwa hrow hblk hSa hXd hbr
        go_upto_region 8 with fail
        rw [← HWA.out]
        clear y0 y1
        by_cases hkeep : E ≤ k + 2 ∧ k < E
        · have HT2 : Hid (Ck.thin D nm n = Ck.thinL E (k + 1) (F.drop (k + 1)) d) := Lib.hid (by rw [HTd.out, HSTEP.out, if_pos hkeep])
          obtain ⟨h1, h2⟩ := hkeep
          have j1 : (E : Int) - 2 ≤ (k : Int) := by omega
          have j2 : (k : Int) < (E : Int) := by omega
          have j3 : IntKind.i64.wrap ((E : Int) - 2) = (E : Int) - 2 := by simp [IntKind.wrap, IntKind.bits, IntKind.signed]; omega
          clear nR q0 s0
          go_wp2_with fail
          refine ⟨⟨k + 1, c', d, rfl, by omega, HDa, HCa, HT2, HBd⟩, ?_⟩
          show L - ((k : Int) + 1).toNat < L - ((k : Int)).toNat
          omega
        · have HT2 : Hid (Ck.thin D nm n = if (d.remove xn).2 ≠ 0 then d.remove xn else Ck.thinL E (k + 1) (F.drop (k + 1)) (d.remove xn).1) := Lib.hid (by rw [HTd.out, HSTEP.out, if_neg hkeep])
          have j3 : IntKind.i64.wrap ((E : Int) - 2) = (E : Int) - 2 := by simp [IntKind.wrap, IntKind.bits, IntKind.signed]; omega
          have hb : ∃ b1 b2 : Bool, decide ((E : Int) - 2 ≤ (k : Int)) = b1 ∧ decide ((k : Int) < (E : Int)) = b2 ∧ (b1 && b2) = false := by
            refine ⟨_, _, rfl, rfl, ?_⟩
            rw [Bool.and_eq_false_iff]
            by_cases h : k < E
            · left; simp; omega
            · right; simp; omega
          generalize d.remove xn = r at *
          have go : ∀ K2 : Prop, K2 → K2 := fun _ h => h
          by_cases h1 : (E : Int) - 2 ≤ (k : Int)
          · have h2 : ¬ (k : Int) < (E : Int) := by omega
            clear hb hkeep
            go_upto_region 9 with fail
            refine wp_region_still_tail 6 (by kernel_rfl) (by kernel_rfl) ?_
            simp only [List.take_succ_cons, List.take_zero, List.drop_succ_cons, List.drop_zero]
            change wpStill _ _ (World.drew _) _ _ _
            repeat still_step
            refine wpStill_nil ?_
            go_upto_region 10 with (go_at_call 110; refine nR.mono ?_; rintro e w3 ⟨c3, rfl, d3, h3⟩)
            have HD3 := Lib.hid d3
            have HC3 : Hid (Chg i c1 c3 wc w3) := Lib.hid ((HCa.out.trans (Chg.of_belowSame (Below.refl _ _).drew)).trans h3)
            clear nR d3 h3
            obtain ⟨rD, re⟩ := r
            simp only [] at HT2 HD3 HBR
            by_cases h0 : re = 0
            · subst h0
              have HT3 : Hid (Ck.thin D nm n = Ck.thinL E (k + 1) (F.drop (k + 1)) rD) := Lib.hid (by rw [HT2.out, if_neg (by simp)])
              go_wp2_with fail
              refine ⟨⟨k + 1, c3, rD, rfl, by omega, HD3, HC3, HT3, HBR⟩, ?_⟩
              show L - ((k : Int) + 1).toNat < L - ((k : Int)).toNat
              omega
            · have HT3 : Hid (Ck.thin D nm n = (rD, re)) := Lib.hid (by rw [HT2.out, if_pos h0])
              go_wp2_with fail
              go_ret
              rw [HT3.out]
              exact ⟨c3, rfl, HD3.out, HC1.out.trans HC3.out⟩
          · clear hb hkeep
            go_upto_region 9 with fail
            refine wp_region_still_tail 6 (by kernel_rfl) (by kernel_rfl) ?_
            simp only [List.take_succ_cons, List.take_zero, List.drop_succ_cons, List.drop_zero]
            change wpStill _ _ (World.drew _) _ _ _
            repeat still_step
            refine wpStill_nil ?_
            go_upto_region 10 with (go_at_call 110; refine nR.mono ?_; rintro e w3 ⟨c3, rfl, d3, h3⟩)
            have HD3 := Lib.hid d3
            have HC3 : Hid (Chg i c1 c3 wc w3) := Lib.hid ((HCa.out.trans (Chg.of_belowSame (Below.refl _ _).drew)).trans h3)
            clear nR d3 h3
            obtain ⟨rD, re⟩ := r
            simp only [] at HT2 HD3 HBR
            by_cases h0 : re = 0
            · subst h0
              have HT3 : Hid (Ck.thin D nm n = Ck.thinL E (k + 1) (F.drop (k + 1)) rD) := Lib.hid (by rw [HT2.out, if_neg (by simp)])
              go_wp2_with fail
              refine ⟨⟨k + 1, c3, rD, rfl, by omega, HD3, HC3, HT3, HBR⟩, ?_⟩
              show L - ((k : Int) + 1).toNat < L - ((k : Int)).toNat
              omega
            · have HT3 : Hid (Ck.thin D nm n = (rD, re)) := Lib.hid (by rw [HT2.out, if_pos h0])
              go_wp2_with fail
              go_ret
              rw [HT3.out]
              exact ⟨c3, rfl, HD3.out, HC1.out.trans HC3.out⟩
      · obtain rfl : k = L := by omega
        have hjL : ¬ ((k : Int) < (k : Int)) := by omega
        have HTf : Hid (Ck.thin D nm n = (d, 0)) := Lib.hid (by rw [HTd.out, List.drop_eq_nil_of_le (by have := HL.out; omega)]; rfl)
        go_wp2_with fail
        go_ret
        rw [HTf.out]
        exact ⟨c', rfl, HDd.out, HC1.out.trans HCd.out⟩

end Go.Proofs.YtamencnachmhoaaGreatDoor
