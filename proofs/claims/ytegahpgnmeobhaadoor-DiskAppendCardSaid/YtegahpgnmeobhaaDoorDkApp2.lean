/-
  DiskAppend: the walk.
-/
import Derived.Test.YtegahpgnmeobhaaDoorDkApp1
namespace Go.Proofs.YtegahpgnmeobhaaDoor
open Go.RowKit

/-- a slice of slices of bytes that is read -/
def PiecesAt (W : World) (v0 : Value) (ps : List Dk.Bs) : Prop := ∃ a0 cap, v0 = .slice a0 ps.length cap ∧ ps.length ≤ 9223372036854775807 ∧
  ∀ i p, ps[i]? = some p → ∃ g off pv, a0 = some ⟨g, off, none⟩ ∧ W.cell? ⟨g, off + i, none⟩ = some pv ∧ RdB W W.heap.size pv p

theorem RdC.of_kn {W Wk : World} {c : Nat → Nat} {v : Value} {l : Dk.Bs} (K : Kn W Wk c) (h : RdB W W.heap.size v l) : RdC c Wk v l := by
  refine ⟨(h.below K.1).mono K.1.size, fun hne g hg => ?_⟩
  rcases h with ⟨h, _⟩ | ⟨g', off, cap, rfl, _, hg', _⟩
  · exact absurd h hne
  · simp only [Value.ownBlock, Option.some.injEq] at hg
    subst hg
    exact K.2 _ hg'

theorem RdB.form3 {W : World} {B : Nat} {v : Value} {l : Dk.Bs} (h : RdB W B v l) : ∃ a cap, v = .slice a l.length cap ∧ l.length ≤ cap ∧ ∀ n, n ≤ l.length → RdB W B (.slice a n cap) (l.take n) := by
  rcases h with ⟨rfl, a, cap, rfl⟩ | ⟨g, off, cap, hv, hc, hg, hgs, hx⟩
  · refine ⟨a, cap, rfl, Nat.zero_le _, fun n hn => ?_⟩
    obtain rfl : n = 0 := by simpa using hn
    exact .inl ⟨by simp, a, cap, rfl⟩
  · refine ⟨some ⟨g, off, none⟩, cap, hv, hc, fun n hn => .inr ⟨g, off, cap, by rw [List.length_take, Nat.min_eq_left hn], by rw [List.length_take]; omega, hg, hgs, fun j c hj => hx j c ?_⟩⟩
    rw [List.getElem?_take] at hj
    split at hj
    · exact hj
    · cases hj
theorem Dk.prefix_take {l m : Dk.Bs} (h : l <+: m) : m.take l.length = l := (List.prefix_iff_eq_take.1 h).symm

set_option maxRecDepth 100000 in
set_option maxHeartbeats 4000000 in
theorem law_append (W : World) (v0 v2 : Value) (ps : List Dk.Bs) (sy : Nat) (ch : Dk.Bs) (hps : PiecesAt W v0 ps) (hsy : sy < 256) (h2 : RdB W W.heap.size v2 ch) (hv2 : v2 = .slice none 0 0 ∨ ∃ ad n c, v2 = .slice (some ad) n c) (hch : ch.length ≤ 140737488355328) :
    Calls Tryd.prog 3 #[v0, .int .u8 sy, v2] W fun e W' => e = .returned (.bool true) ∧ Below W.heap.size W W' := by
  obtain ⟨a0, cap0, rfl, hpl, hp⟩ := hps
  have n0 := dk_new W 1 (fun _ => 0) (by decide)
  obtain ⟨va, vc, rfl⟩ := h2.form
  have HP := Lib.hid hp
  have H2 := Lib.hid h2
  have HV2 := Lib.hid hv2
  clear hp h2 hv2
  go_enter Tryd.func3, Tryd.ntmps3
  go_wp2_with fail
  refine n0.mono ?_
  rintro e W1 ⟨g, rfl, d1, b1⟩
  have K1 : Kn W W1 (pnt (fun _ => 0) W.heap.size 1) := ⟨b1, fun b hb => pnt_old hb⟩
  generalize pnt (fun _ => 0) W.heap.size 1 = c1 at *
  have n1 := dk_create d1 ⟨#[108, 111, 103]⟩ (by decide) (by decide) (by decide)
  rw [show (⟨#[108, 111, 103]⟩ : ByteArray).data.toList = [108, 111, 103] from rfl, Dk.ld_new] at n1
  clear n0 b1 d1
  go_wp2_with fail
  refine n1.mono ?_
  rintro e W2 ⟨c2, rfl, d2, h2⟩
  have K2 := K1.chg h2 (by decide)
  clear n1 h2 K1
  go_wp2_with fail
  go_loopw [8, 9] (fun sv iv wr => ∃ (i : Nat) (f : Dk.Fl) (c : Nat → Nat), iv = .int .i64 i ∧ i ≤ ps.length ∧ i ≤ 20 ∧ sv = .string ⟨f.dur.toArray⟩ ∧ Hid (DiskAt 1 c wr g (Dk.ld f false)) ∧ Hid (Kn W wr c) ∧ Hid (Dk.AppD f.dur f.pend) ∧ f.contents.length ≤ i * 1500 ∧ f.pend.length ≤ i) (fun _ iv _ => ps.length - (RowKit.intOf iv).toNat)
  case atStart => exact ⟨0, ⟨[], []⟩, c2, rfl, Nat.zero_le _, by decide, rfl, Lib.hid d2, Lib.hid K2, Lib.hid (Dk.AppD.nil _), by decide, by decide⟩
  case round =>
    obtain ⟨i, f, c, rfl, hi, hi20, rfl, HD, HK, HA, hfc, hfp⟩ := hrel
    by_cases hlt : i < ps.length ∧ i < 20
    · obtain ⟨h1, h2⟩ := hlt
      obtain ⟨p, hpd⟩ : ∃ p, p = ps[i] := ⟨_, rfl⟩
      obtain ⟨pg, poff, pv, rfl, hpc, hpr⟩ := HP.out i p (by rw [hpd]; exact List.getElem?_eq_getElem h1)
      obtain ⟨pa, pc, rfl⟩ := hpr.form
      have hpg := World.block_lt_of_cell? W _ hpc
      have p0 := (HK.out.1.cell (p := ⟨pg, poff + i, none⟩) hpg).trans hpc
      have HPR := Lib.hid hpr
      clear hpr hpc hpd
      by_cases hbig : 1500 < p.length
      · go_wp2_with fail
        refine (dk_known wr).mono ?_
        rintro e W3 ⟨rfl, hb⟩
        go_wp2_with fail
        go_ret
        exact ⟨rfl, HK.out.1.trans (hb.mono HK.out.1.size)⟩
      · go_wp2_with fail
        have n3 := dk_Append HD.out ⟨#[108, 111, 103]⟩ (by decide) (by simp [Dk.ld]) p _ (RdC.of_kn HK.out HPR.out) (by omega) (by
          intro f' hf
          have e : f = f' := Option.some.inj ((Dk.ld_find f false).symm.trans hf)
          subst e
          omega)
        rw [show (⟨#[108, 111, 103]⟩ : ByteArray).data.toList = [108, 111, 103] from rfl, Dk.ld_write f p (by omega)] at n3
        obtain ⟨f1, hf1, hA1, hc1, hp1, hd1⟩ : ∃ f1, (if p = [] then Dk.ld f false else Dk.ld ⟨f.dur, f.pend ++ [⟨f.contents.length, p⟩]⟩ false) = Dk.ld f1 false ∧ Dk.AppD f1.dur f1.pend ∧ f1.contents.length ≤ (i + 1) * 1500 ∧ f1.pend.length ≤ i + 1 ∧ f1.dur = f.dur := by
          by_cases hp : p = []
          · exact ⟨f, by rw [if_pos hp], HA.out, by omega, by omega, rfl⟩
          · refine ⟨⟨f.dur, f.pend ++ [⟨f.contents.length, p⟩]⟩, by rw [if_neg hp], HA.out.snoc p, ?_, by simp; omega, rfl⟩
            show (Dk.contents f.dur (f.pend ++ [⟨(Dk.contents f.dur f.pend).length, p⟩])).length ≤ _
            rw [Dk.contents_snoc, Dk.Wr.apply, Dk.over_end]
            show (Dk.contents f.dur f.pend ++ p).length ≤ _
            rw [List.length_append]
            have : (Dk.contents f.dur f.pend).length ≤ i * 1500 := hfc
            omega
        rw [hf1] at n3
        have HA1 := Lib.hid hA1
        clear hf1 hA1 p0
        refine n3.mono ?_
        rintro e W3 ⟨c3, rfl, d3, h3⟩
        have K3 := Lib.hid (HK.out.chg h3 (by decide))
        have D3 := Lib.hid d3
        clear n3 h3 d3
        by_cases hs : i = sy % 20
        · have hsI : (sy : Int) % 20 = (i : Int) := by omega
          clear hs
          go_wp2_with fail
          have n4 := dk_Sync D3.out ⟨#[108, 111, 103]⟩ (by decide) (by simp [Dk.ld])
          rw [show (⟨#[108, 111, 103]⟩ : ByteArray).data.toList = [108, 111, 103] from rfl, Dk.ld_sync] at n4
          refine n4.mono ?_
          rintro e W4 ⟨c4, rfl, d4, h4⟩
          have K4 := Lib.hid (K3.out.chg h4 (by decide))
          have D4 := Lib.hid d4
          have n5 := dk_Read d4 ⟨#[108, 111, 103]⟩ (by decide)
          rw [show (⟨#[108, 111, 103]⟩ : ByteArray).data.toList = [108, 111, 103] from rfl, Dk.ld_read] at n5
          clear n4 h4 d4
          go_wp2_with fail
          refine n5.mono ?_
          rintro e W5 ⟨vb, rfl, hvb, b5⟩
          have q1 := dk_conv (RdB.of_own hvb) W5 rfl
          obtain ⟨ba, bc, rfl⟩ := dk_own_form hvb
          have K5 := Lib.hid (K4.out.chg (dk_bw (c' := c4) b5 (fun _ _ => rfl)) (by decide))
          have D5 := Lib.hid (D4.out.chg (dk_bw (c' := c4) b5 (fun _ _ => rfl)) (by decide) (by decide))
          clear n5 hvb b5
          go_wp2_with fail
          refine ⟨⟨i + 1, ⟨f1.contents, []⟩, c4, by go_num, by omega, by omega, rfl, D5, K5, Lib.hid (Dk.AppD.nil _), hc1, Nat.zero_le _⟩, by simp [RowKit.intOf]; omega⟩
        · have hsI : ¬ (i : Int) = (sy : Int) % 20 := by omega
          go_wp2_with fail
          refine ⟨⟨i + 1, f1, c3, by go_num, by omega, by omega, by rw [hd1], D3, K3, HA1, hc1, hp1⟩, by simp [RowKit.intOf]; omega⟩
    · by_cases h1 : i < ps.length
      all_goals
        try (have h20 : 20 ≤ i := by omega)
        go_wp2_with fail
        have n3 := dk_Read HD.out ⟨#[108, 111, 103]⟩ (by decide)
        rw [show (⟨#[108, 111, 103]⟩ : ByteArray).data.toList = [108, 111, 103] from rfl, Dk.ld_read] at n3
        refine n3.mono ?_
        rintro e W3 ⟨vb, rfl, hvb, b3⟩
        have RB := RdC.of_own (c := pnt c wr.heap.size 0) hvb (fun b hb _ => pnt_new hb)
        obtain ⟨ba, bc, rfl⟩ := dk_own_form hvb
        have K3 := Lib.hid (HK.out.chg (Chg.of_below (i := 3) b3 0) (by decide))
        have D3 := Lib.hid (HD.out.chg (Chg.of_below (i := 3) b3 0) (by decide) (by decide))
        generalize pnt c wr.heap.size 0 = c3 at *
        clear n3 hvb
        have bA : Below W3.heap.size W3 (W3.alloc (.cells #[] 5)) := (Below.refl _ _).alloc (Nat.le_refl _) _
        obtain ⟨v4, w5, hrun, own4, grow4⟩ := dk_append_any (W3.alloc (.cells #[] 5)) 23 W3.heap.size (by simp) _ (.slice va ch.length vc) (World.ownsRow_made W3 #[] 0 (Nat.le_refl _) (Nat.zero_le _) (by simp)) ch ((H2.out.below (K3.out.1.trans (bA.mono K3.out.1.size))).mono (by have := K3.out.1.size; simp; omega)) HV2.out hch
        have b5 : Below W3.heap.size W3 w5 := bA.grown grow4 (by simp) (by intro k hk; simp [Value.ownBlock] at hk; omega)
        have K6 := Lib.hid (K3.out.chg (Chg.of_below (i := 3) b5 0) (by decide))
        have D6 := Lib.hid (D3.out.chg (Chg.of_below (i := 3) b5 0) (by decide) (by decide))
        have RB6 := Lib.hid (RB.chg (Chg.of_below (i := 3) b5 0) (by decide))
        have OW := Lib.hid own4
        have HRUN := Lib.hid hrun
        obtain ⟨i0, hi0, hz0, hz1, hz2⟩ := info_parts dk_infoByte
        clear hrun grow4
        by_cases hch0 : ch = []
        · subst hch0
          obtain ⟨a4, c4, rfl⟩ := dk_own_form own4
          have E6 := Lib.hid (RdC.of_own (c := pnt c3 W3.heap.size 0) own4 (fun b hb _ => pnt_new hb))
          have hev : Dk.hd [] % 2 = 0 := rfl
          have hle : ([] : Dk.Bs).length ≤ 140737488355328 := by simp
          obtain ⟨ev, hevd⟩ : ∃ ev : Dk.Bs, ev = [] := ⟨_, rfl⟩
          simp only [List.length_nil] at HRUN E6 HV2
          rw [← hevd] at hev hle E6
          clear own4 hevd
          simp only [List.length_nil]
          go_wp2_with (at_builtin; refine Lib.wpList_append_run _ rfl _ _ _ _ rfl _ _ rfl rfl _ _ HRUN.out ?_)
          generalize pnt c3 W3.heap.size 0 = c6 at *
          generalize w5 = w6 at *
          have n7 := dk_Crash D6.out
          rw [Dk.ld_crash] at n7
          refine n7.mono ?_
          rintro e W7 ⟨c7, rfl, d7, h7⟩
          have K7 := Lib.hid (K6.out.chg h7 (by decide))
          have RB7 := Lib.hid (RB6.out.chg h7 (by decide))
          obtain ⟨f', hr8, hpre1, hpre2⟩ := Dk.ld_after f ev HA.out hev
          have n8 := dk_Restart d7 _ ev (E6.out.chg h7 (by decide)) (by omega) (by simp [Dk.ld]) (by intro p hp; simp [Dk.ld] at hp; subst hp; exact (by decide : 3 ≤ maxLen))
          rw [hr8] at n8
          clear n7 h7 d7 K6 RB6 D6 hr8 HRUN
          go_wp2_with fail
          refine n8.mono ?_
          rintro e W8 ⟨c8, rfl, d8, h8⟩
          have K8 := Lib.hid (K7.out.chg h8 (by decide))
          have RB8 := Lib.hid (RB7.out.chg h8 (by decide))
          have n9 := dk_Read d8 ⟨#[108, 111, 103]⟩ (by decide)
          rw [show (⟨#[108, 111, 103]⟩ : ByteArray).data.toList = [108, 111, 103] from rfl, Dk.ld_read] at n9
          clear n8 h8 d8 K7 RB7
          go_wp2_with fail
          refine n9.mono ?_
          rintro e W9 ⟨v9, rfl, hv9, b9⟩
          have K9 : Below W.heap.size W W9 := K8.out.1.trans (b9.mono K8.out.1.size)
          obtain ⟨a9, k9, rfl, hk9, ht9⟩ := (RdB.of_own hv9).form3
          obtain ⟨a8, k8, e8, hk8, ht8⟩ := (RB8.out.1.below b9).form3
          injection e8 with e81 _ e83
          subst e81 e83
          have hl1 := hpre1.length_le
          have hl2 := hpre2.length_le
          have q1 := dk_conv (ht9 f'.contents.length (Nat.le_refl _)) W9.drew rfl
          have q2 := dk_conv (ht8 f'.contents.length hl2) W9.drew rfl
          have q3 := dk_conv (ht9 f.dur.length hl1) W9.drew rfl
          rw [Dk.prefix_take hpre2] at q2
          rw [Dk.prefix_take hpre1] at q3
          simp only [List.take_length] at q1
          have hz : (ByteArray.mk f.dur.toArray).size = f.dur.length := by simp [ByteArray.size]
          clear n9 hv9 b9 K8 RB8 ht9 ht8 hpre1 hpre2
          have hcap2 : f'.contents.length ≤ bc := by omega
          have hcap3 : f.dur.length ≤ k9 := by omega
          have hc1 : decide ((f.dur.length : Int) ≤ (f'.contents.length : Int)) = true := by simpa using hl1
          have hc2 : decide ((f'.contents.length : Int) ≤ (f.contents.length : Int)) = true := by simpa using hl2
          go_wp2_with fail
          refine wp_region_still_tail 36 (by kernel_rfl) (by kernel_rfl) ?_
          simp only [List.take_succ_cons, List.take_zero, List.drop_succ_cons, List.drop_zero]
          change wpStill _ _ (World.drew _) _ _ _
          repeat still_step
          refine wpStill_nil ?_
          go_wp2_with fail
          refine (dk_known W9.drew).mono ?_
          rintro e W10 ⟨rfl, hb10⟩
          go_wp2_with fail
          go_ret
          exact ⟨rfl, K9.drew.trans (hb10.mono K9.size)⟩
        · obtain ⟨x, r, rfl⟩ : ∃ x r, ch = x :: r := by cases ch with | nil => exact absurd rfl hch0 | cons x r => exact ⟨x, r, rfl⟩
          obtain ⟨g4, c4, rfl, hg4, hg4l⟩ := own4.form (by simp)
          have l0 : w5.cell? ⟨g4, 0, none⟩ = some (.int .u8 x.toNat) := by rw [own4.cellAt 0 (by simp)]; rfl
          have l1 := own4.frozenAt 0
          have hx8 := x.toNat_lt
          obtain ⟨y, hy⟩ : ∃ y : UInt8, y.toNat = x.toNat / 2 * 2 := ⟨UInt8.ofNat (x.toNat / 2 * 2), by simp; omega⟩
          have hyI : (y.toNat : Int) = (x.toNat : Int) / 2 * 2 := by omega
          obtain ⟨s6, g6⟩ := own4.stored 0 (.int .u8 y.toNat)
          have e6 : (dkCells (x :: r)).set 0 (.int .u8 y.toNat) = dkCells (y :: r) := rfl
          rw [e6] at s6
          rw [hyI] at s6 g6
          have b6 : Below W3.heap.size W3 (w5.setCell ⟨g4, 0, none⟩ (.int .u8 ((x.toNat : Int) / 2 * 2))) := b5.grown g6 b5.size (by intro k hk; cases hk; exact hg4)
          clear K6 D6 RB6
          have K6 := Lib.hid (K3.out.chg (Chg.of_below (i := 3) b6 0) (by decide))
          have D6 := Lib.hid (D3.out.chg (Chg.of_below (i := 3) b6 0) (by decide) (by decide))
          have RB6 := Lib.hid (RB.chg (Chg.of_below (i := 3) b6 0) (by decide))
          have E6 := Lib.hid (RdC.of_own (c := pnt c3 W3.heap.size 0) (l := y :: r) s6 (fun b hb _ => pnt_new hb))
          have hev : Dk.hd (y :: r) % 2 = 0 := by show y.toNat % 2 = 0; omega
          have hle : (y :: r).length ≤ 140737488355328 := hch
          generalize y :: r = ev at *
          clear own4 e6 s6 g6 b6 hyI hy
          go_wp2_with (at_builtin; refine Lib.wpList_append_run _ rfl _ _ _ _ rfl _ _ rfl rfl _ _ HRUN.out ?_)
          generalize pnt c3 W3.heap.size 0 = c6 at *
          generalize w5.setCell ⟨g4, 0, none⟩ (.int .u8 ((x.toNat : Int) / 2 * 2)) = w6 at *
          have n7 := dk_Crash D6.out
          rw [Dk.ld_crash] at n7
          refine n7.mono ?_
          rintro e W7 ⟨c7, rfl, d7, h7⟩
          have K7 := Lib.hid (K6.out.chg h7 (by decide))
          have RB7 := Lib.hid (RB6.out.chg h7 (by decide))
          obtain ⟨f', hr8, hpre1, hpre2⟩ := Dk.ld_after f ev HA.out hev
          have n8 := dk_Restart d7 _ ev (E6.out.chg h7 (by decide)) (by omega) (by simp [Dk.ld]) (by intro p hp; simp [Dk.ld] at hp; subst hp; exact (by decide : 3 ≤ maxLen))
          rw [hr8] at n8
          clear n7 h7 d7 K6 RB6 D6 hr8 HRUN
          go_wp2_with fail
          refine n8.mono ?_
          rintro e W8 ⟨c8, rfl, d8, h8⟩
          have K8 := Lib.hid (K7.out.chg h8 (by decide))
          have RB8 := Lib.hid (RB7.out.chg h8 (by decide))
          have n9 := dk_Read d8 ⟨#[108, 111, 103]⟩ (by decide)
          rw [show (⟨#[108, 111, 103]⟩ : ByteArray).data.toList = [108, 111, 103] from rfl, Dk.ld_read] at n9
          clear n8 h8 d8 K7 RB7
          go_wp2_with fail
          refine n9.mono ?_
          rintro e W9 ⟨v9, rfl, hv9, b9⟩
          have K9 : Below W.heap.size W W9 := K8.out.1.trans (b9.mono K8.out.1.size)
          obtain ⟨a9, k9, rfl, hk9, ht9⟩ := (RdB.of_own hv9).form3
          obtain ⟨a8, k8, e8, hk8, ht8⟩ := (RB8.out.1.below b9).form3
          injection e8 with e81 _ e83
          subst e81 e83
          have hl1 := hpre1.length_le
          have hl2 := hpre2.length_le
          have q1 := dk_conv (ht9 f'.contents.length (Nat.le_refl _)) W9.drew rfl
          have q2 := dk_conv (ht8 f'.contents.length hl2) W9.drew rfl
          have q3 := dk_conv (ht9 f.dur.length hl1) W9.drew rfl
          rw [Dk.prefix_take hpre2] at q2
          rw [Dk.prefix_take hpre1] at q3
          simp only [List.take_length] at q1
          have hz : (ByteArray.mk f.dur.toArray).size = f.dur.length := by simp [ByteArray.size]
          clear n9 hv9 b9 K8 RB8 ht9 ht8 hpre1 hpre2
          have hcap2 : f'.contents.length ≤ bc := by omega
          have hcap3 : f.dur.length ≤ k9 := by omega
          have hc1 : decide ((f.dur.length : Int) ≤ (f'.contents.length : Int)) = true := by simpa using hl1
          have hc2 : decide ((f'.contents.length : Int) ≤ (f.contents.length : Int)) = true := by simpa using hl2
          go_wp2_with fail
          refine wp_region_still_tail 36 (by kernel_rfl) (by kernel_rfl) ?_
          simp only [List.take_succ_cons, List.take_zero, List.drop_succ_cons, List.drop_zero]
          change wpStill _ _ (World.drew _) _ _ _
          repeat still_step
          refine wpStill_nil ?_
          go_wp2_with fail
          refine (dk_known W9.drew).mono ?_
          rintro e W10 ⟨rfl, hb10⟩
          go_wp2_with fail
          go_ret
          exact ⟨rfl, K9.drew.trans (hb10.mono K9.size)⟩

end Go.Proofs.YtegahpgnmeobhaaDoor
