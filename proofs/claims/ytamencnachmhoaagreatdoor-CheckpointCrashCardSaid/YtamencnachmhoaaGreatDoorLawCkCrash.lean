/-
  CheckpointCrash: the walk.
-/
import Derived.Test.YtamencnachmhoaaGreatDoorCkStore
import Derived.Deep.CutBlock
import Derived.Deep.CutRange
namespace Go.Proofs.YtamencnachmhoaaGreatDoor
open Go.RowKit

/-- what Load finds behind the crash: the new snapshot, or (if Save failed) the one before it, or none -/
def Ck.After (ps : List Ck.Bs) (data : Ck.Bs) (f : Int) (r : Nat × Ck.Bs × Int) : Prop :=
  r = (10 * ps.length, data, 0) ∨ (f = 32 ∧ ps.length = 0 ∧ r = (0, [], 9)) ∨ (f = 32 ∧ ∃ k p, ps.length = k + 1 ∧ ps[k]? = some p ∧ r = (10 * k, p, 0))

/-- the snapshots behind Save, whatever its answer f -/
def Ck.LL (ps : List Ck.Bs) (data : Ck.Bs) (f : Int) (l : List (Nat × Ck.Bs)) : Prop :=
  l = Ck.keep2 (Ck.keep2 (Ck.full 10 ps ps.length) ++ [(10 * ps.length, data)]) ∨ l = Ck.keep2 (Ck.full 10 ps ps.length) ++ [(10 * ps.length, data)] ∨ (f = 32 ∧ l = Ck.keep2 (Ck.full 10 ps ps.length))

theorem Ck.after_ok {ps : List Ck.Bs} {data : Ck.Bs} {f : Int} {l : List (Nat × Ck.Bs)} {t : Option Dk.Fl} {D : Dk.D} (H : Ck.Holds Ck.nmT [] [] l t D) (up : D.down = false)
    (hl : Ck.LL ps data f l) :
    Ck.After ps data f (Ck.load D Ck.nmT) := by
  rw [H.load up]
  unfold Ck.LL at hl
  rcases hl with rfl | rfl | ⟨hf, rfl⟩
  · rw [Ck.keep2_last]
    exact .inl rfl
  · rw [List.getLast?_append]
    exact .inl rfl
  · by_cases h0 : ps.length = 0
    · rw [h0]
      exact .inr (.inl ⟨hf, h0, rfl⟩)
    · obtain ⟨k, hk⟩ : ∃ k, ps.length = k + 1 := ⟨ps.length - 1, by omega⟩
      obtain ⟨p, hp⟩ : ∃ p, ps[k]? = some p := ⟨_, List.getElem?_eq_getElem (by omega)⟩
      rw [Ck.full_last (by omega), hk, Nat.add_sub_cancel]
      refine .inr (.inr ⟨hf, k, p, hk, hp, ?_⟩)
      rw [List.getD_eq_getElem?_getD, hp]
      rfl

theorem cr_small {k : Nat} (h : k ≤ 6) : IntKind.i64.wrap (10 * (k : Int)) = ((10 * k : Nat) : Int) := by
  rw [show (10 : Int) * (k : Int) = ((10 * k : Nat) : Int) from by omega]
  exact IntWalk.i64_in _ (by omega)

set_option maxRecDepth 100000 in
set_option maxHeartbeats 1000000 in
theorem law_ckcrash (W : World) (v0 : Value) (ps : List Dk.Bs) (v1 : Value) (data : Dk.Bs) (n2 : Nat) (v3 : Value) (ch : Dk.Bs) (hps : PiecesAt W v0 ps) (hdt : RdB W W.heap.size v1 data) (h2 : n2 < 256) (hch : RdB W W.heap.size v3 ch) :
    Calls Tryz.prog 8 #[v0, v1, .int .u8 n2, v3] W fun e W' => e = .returned (.bool true) ∧ Below W.heap.size W W' := by
  obtain ⟨da, dc, rfl⟩ := hdt.form
  obtain ⟨ca, cc, rfl⟩ := hch.form
  obtain ⟨a0, cap0, rfl, hpl, hp⟩ := hps
  have HP := Lib.hid hp
  have HDT := Lib.hid hdt
  have HCH := Lib.hid hch
  have nk := ck_known W
  have nK : Hid (∀ o, Calls Tryz.prog 10 #[] o fun e W' => e = .returned (.bool true) ∧ Below o.heap.size o W') := Lib.hid ck_known
  clear hp hdt hch
  by_cases hbig : 6 < ps.length ∨ 1500 < data.length ∨ 1000 < ch.length
  · have hbigI : (6 : Int) < (ps.length : Int) ∨ (1500 : Int) < (data.length : Int) ∨ (1000 : Int) < (ch.length : Int) := by omega
    obtain ⟨x1, hx1⟩ : ∃ x, decide ((6 : Int) < (ps.length : Int)) = x := ⟨_, rfl⟩
    obtain ⟨x2, hx2⟩ : ∃ x, decide ((1500 : Int) < (data.length : Int)) = x := ⟨_, rfl⟩
    obtain ⟨x3, hx3⟩ : ∃ x, decide ((1000 : Int) < (ch.length : Int)) = x := ⟨_, rfl⟩
    have hor : (x1 || (x2 || x3)) = true := by
      rw [← hx1, ← hx2, ← hx3]
      simpa using hbigI
    clear hbig hbigI HP HDT HCH
    go_enter Tryz.func8, Tryz.ntmps8
    go_wp2_with fail
    refine nk.mono ?_
    rintro e W1 ⟨rfl, b1⟩
    have HB1 := Lib.hid b1
    have n1 := nK.out W1
    clear nk b1
    cases x1
    all_goals cases x2
    all_goals cases x3
    all_goals try (exact absurd hor (by decide))
    all_goals
      simp only [decide_eq_true_eq, decide_eq_false_iff_not] at hx1 hx2 hx3
      go_wp2_with fail
      refine n1.mono ?_
      rintro e W2 ⟨rfl, b2⟩
      have HB2 := Lib.hid (HB1.out.trans (b2.mono HB1.out.size))
      clear n1 b2
      go_wp2_with fail
      go_ret
      exact ⟨rfl, HB2.out⟩
  · have g1 : ¬ (6 : Int) < (ps.length : Int) := by omega
    have g2 : ¬ (1500 : Int) < (data.length : Int) := by omega
    have g3 : ¬ (1000 : Int) < (ch.length : Int) := by omega
    go_enter Tryz.func8, Tryz.ntmps8
    go_wp2_with fail
    refine nk.mono ?_
    rintro e W1 ⟨rfl, b1⟩
    have B1 := Lib.hid b1
    have nn := dk_new W1 1 (fun _ => 0) (by decide)
    clear nk b1
    go_wp2_with fail
    refine nn.mono ?_
    rintro e W2 ⟨g, rfl, d2, b2⟩
    have K2 : Kn W W2 (pnt (fun _ => 0) W1.heap.size 1) := ⟨B1.out.trans (b2.mono B1.out.size), fun b hb => pnt_old (by have := B1.out.size; omega)⟩
    generalize pnt (fun _ => 0) W1.heap.size 1 = c2 at *
    have no := ck_Open d2 (by decide) ⟨#[115, 49]⟩ (by decide) (by simp) (by decide)
    rw [show (⟨#[115, 49]⟩ : ByteArray).data.toList = Ck.nmT from rfl, Ck.open0 (by decide)] at no
    clear nn b2 d2
    go_wp2_with fail
    refine no.mono ?_
    rintro e W3 ⟨c3, d3, h3, hcase⟩
    rcases hcase with ⟨-, s, rfl, S3⟩ | ⟨hne, -⟩
    · have HS0 : Hid (∃ c D, CrSt W Ck.nmT (Ck.keep2 (Ck.full 10 ps 0)) c W3 s g D) := Lib.hid ⟨c3, _, K2.chg h3 (by decide), d3, S3, Ck.holds0 (by decide), rfl, rfl, Ck.keep2_len _⟩
      clear no d3 h3 S3 K2
      go_wp2_with fail
      go_loopw [12] (fun iv wr => ∃ i : Nat, iv = .int .i64 i ∧ i ≤ ps.length ∧ Hid (∃ c D, CrSt W Ck.nmT (Ck.keep2 (Ck.full 10 ps i)) c wr s g D)) (fun iv _ => ps.length - (RowKit.intOf iv).toNat)
      case atStart => exact ⟨0, rfl, Nat.zero_le _, HS0⟩
      case round =>
        obtain ⟨i, rfl, hi, HS⟩ := hrel
        by_cases hlt : i < ps.length
        · obtain ⟨c, D, S⟩ := HS.out
          obtain ⟨p, hpd⟩ : ∃ p, ps[i]? = some p := ⟨_, List.getElem?_eq_getElem hlt⟩
          obtain ⟨pg, poff, pv, rfl, hpc, hpr⟩ := HP.out i p hpd
          obtain ⟨pa, pc, rfl⟩ := hpr.form
          have p0 := (S.K.1.cell (p := ⟨pg, poff + i, none⟩) (World.block_lt_of_cell? W _ hpc)).trans hpc
          have hltI : (i : Int) < (ps.length : Int) := by omega
          have hD : ps.getD i [] = p := by rw [List.getD_eq_getElem?_getD, hpd]; rfl
          by_cases hb : 1500 < p.length
          · have hbI : (1500 : Int) < (p.length : Int) := by omega
            have HB := Lib.hid S.K.1
            clear S hpc hpr hpd
            go_wp2_with fail
            go_ret
            exact ⟨rfl, HB.out⟩
          · have hbI : ¬ (1500 : Int) < (p.length : Int) := by omega
            have e10 := cr_small (k := i) (by omega)
            have nS := S.save (n := 10 * i) (by omega) (by omega) (fun x hx => Ck.full_lt (by decide) ps i x (Ck.keep2_sub _ x hx)) hpr
            have hfs : Ck.keep2 (Ck.keep2 (Ck.full 10 ps i) ++ [(10 * i, p)]) = Ck.keep2 (Ck.full 10 ps (i + 1)) := by rw [Ck.keep2_snoc, Ck.full_succ, hD]
            rw [hfs] at nS
            clear hfs hD
            clear S hpc hpr hpd
            go_wp2_with fail
            refine nS.mono ?_
            rintro e w5 ⟨rfl, HS5⟩
            have HS5 := Lib.hid HS5
            clear nS
            go_wp2_with fail
            exact ⟨⟨i + 1, by go_num, by omega, HS5⟩, by simp [RowKit.intOf]; omega⟩
        · obtain rfl : i = ps.length := by omega
          obtain ⟨c, D, S⟩ := HS.out
          obtain ⟨b6, hb6⟩ : ∃ b6, b6 = n2 % 10 := ⟨_, rfl⟩
          have hb6I : (n2 : Int) % 10 = (b6 : Int) := by omega
          have hb6T : (n2 : Int).tmod 10 = (b6 : Int) := by rw [Int.tmod_eq_emod_of_nonneg (by omega)]; exact hb6I
          have hsb : Dk.D.setBudget D (b6 : Int) = ({ D with bud := (b6 : Int) }, 0) := by
            unfold Dk.D.setBudget
            rw [if_neg (by simp [S.up]), if_neg (by omega)]
          have n4 := dk_SetBudget S.d (b6 : Int)
          rw [hsb] at n4
          have e10 := cr_small (k := ps.length) (by omega)
          have HS := Lib.hid S
          have hb60 : b6 < 10 := by omega
          clear S hsb hb6
          go_wp2_with fail
          refine n4.mono ?_
          rintro e W4 ⟨c4, rfl, d4, h4⟩
          have n5 := cr_save (HS.out.K.chg h4 (by decide)) d4 (HS.out.s.chg h4 (by decide)) (HS.out.H.other (d' := { D with bud := (b6 : Int) }) rfl) HS.out.up (by show (b6 : Int) ≤ _; omega) HS.out.l2 (n := 10 * ps.length) (by omega) (by omega)
            (fun x hx => Ck.full_lt (by decide) ps ps.length x (Ck.keep2_sub _ x hx)) HDT.out
          clear n4 d4 h4 hb6I hb6T
          go_wp2_with fail
          refine n5.mono ?_
          rintro e W5 ⟨c5, f, rfl, D5, K5, d5, s5, hc⟩
          clear n5 HS
          have hcase : (f = 0 ∧ ∃ l t, Ck.Holds Ck.nmT [] [] l t D5 ∧ l.length ≤ 3 ∧ Ck.LL ps data f l) ∨
              (f = 32 ∧ D5.down = true ∧ ∃ l t, Ck.Holds Ck.nmT [] [] l t D5 ∧ l.length ≤ 3 ∧ Ck.LL ps data f l) := by
            have hk2 := Ck.keep2_len (Ck.full 10 ps ps.length)
            rcases hc with ⟨h0, -, -, H⟩ | ⟨-, h0, hdn, ⟨t, H⟩ | H⟩
            · exact .inl ⟨h0, _, _, H, by have := Ck.keep2_len (Ck.keep2 (Ck.full 10 ps ps.length) ++ [(10 * ps.length, data)]); omega, .inl rfl⟩
            · exact .inr ⟨h0, hdn, _, t, H, by omega, .inr (.inr ⟨h0, rfl⟩)⟩
            · exact .inr ⟨h0, hdn, _, _, H, by simp; omega, .inr (.inl rfl)⟩
          clear hc
          rcases hcase with ⟨rfl, l, t, H5, hl3, hll⟩ | ⟨rfl, dn5, l, t, H5, hl3, hll⟩
          case' inl =>
            have HLL0 := Lib.hid hll
            clear hll
            have n6 := dk_Crash d5
            obtain ⟨H6, dn6⟩ := H5.crash
            obtain ⟨D6, hD6⟩ : ∃ D6, D6 = D5.crash := ⟨_, rfl⟩
            rw [← hD6] at n6 H6 dn6
            obtain ⟨D6, e6⟩ := D6
            clear hD6 d5 H5
            --@1
            go_wp2_with fail
            refine n6.mono ?_
            rintro e W6 ⟨c6, rfl, d6, h6⟩
            have K6 := K5.chg h6 (by decide)
            have d6 : DiskAt 1 c6 W6 g D6 := d6
            have H6 : Ck.Holds Ck.nmT [] [] l t D6 := H6
            have dn6 : D6.down = true := dn6
            clear n6 h6 K5 s5
            have hll := HLL0.out
            clear HLL0
          case' inr =>
            have K6 := K5
            have d6 := d5
            have H6 := H5
            have dn6 := dn5
            clear K5 d5 H5 dn5 s5
            obtain ⟨D6, hD6⟩ : ∃ D6, D6 = D5 := ⟨_, rfl⟩
            rw [← hD6] at d6 H6 dn6
            clear hD6
          all_goals
            have HLL := Lib.hid hll
            clear hll
            have hcnt := H6.count
            have n7 := dk_Restart d6 _ ch (RdC.of_kn K6 HCH.out) (by omega) (by omega) (fun x hx => by have := H6.nmlen x hx; unfold maxLen; omega)
            obtain ⟨r1, r2, r3, t7, H7⟩ := H6.restart dn6 ch
            obtain ⟨D7, hD7⟩ : ∃ D7, D7 = D6.restart ch := ⟨_, rfl⟩
            rw [← hD7] at n7 r1 r2 r3 H7
            obtain ⟨D7, e7⟩ := D7
            simp only [] at n7 r1 r2 r3 H7
            subst r1
            clear hD7 H6 dn6 d6
            --@2
            go_wp2_with fail
            refine n7.mono ?_
            rintro e W7 ⟨c7, rfl, d7, h7⟩
            have d7 : DiskAt 1 c7 W7 g D7 := d7
            have K7 := K6.chg h7 (by decide)
            have n8 := ck_Open d7 (by decide) ⟨#[115, 49]⟩ (by decide) (by have := H7.count; omega) (by rw [r3]; decide)
            rw [show (⟨#[115, 49]⟩ : ByteArray).data.toList = Ck.nmT from rfl] at n8
            obtain ⟨q1, q2, q3, H8⟩ := H7.openC r2 r3
            obtain ⟨D8, hD8⟩ : ∃ D8, D8 = Ck.openC D7 Ck.nmT := ⟨_, rfl⟩
            rw [← hD8] at n8 q1 q2 q3 H8
            obtain ⟨D8, e8⟩ := D8
            simp only [] at n8 q1 q2 q3 H8
            subst q1
            clear hD8 H7 n7 h7 K6 d7 r2 r3
            --@3
            go_wp2_with fail
            refine n8.mono ?_
            rintro e W8 ⟨c8, d8, h8, hcase⟩
            have d8 : DiskAt 1 c8 W8 g D8 := d8
            obtain ⟨s8, rfl, S8⟩ : ∃ s8, e = .returned (.tuple #[.pointer (some ⟨s8, 0, none⟩), .int .i64 0]) ∧ StIs c8 W8 s8 g Ck.nmT := by
              rcases hcase with ⟨-, s8, h, S8⟩ | ⟨hne, -⟩
              · exact ⟨s8, h, S8⟩
              · exact absurd rfl hne
            clear hcase
            have HK8 := Lib.hid (K7.chg h8 (by decide))
            have n9 := cr_load d8 S8 H8 q2 (by rw [q3]; decide) hl3
            have haf := Ck.after_ok H8 q2 HLL.out
            obtain ⟨r, hr⟩ : ∃ r, r = Ck.load D8 Ck.nmT := ⟨_, rfl⟩
            rw [← hr] at n9 haf
            clear hr n8 h8 d8 S8 H8 K7 q2 q3 HLL
            rcases haf with rfl | ⟨hf, h0, rfl⟩ | ⟨hf, k, p, hk, hp, rfl⟩
            · simp only [] at n9
              --@4
              go_wp2_with fail
              refine n9.mono ?_
              rintro e W9 ⟨v9, rfl, r9, b9⟩
              have HB9 := HK8.out.1.trans (b9.mono HK8.out.1.size)
              have q1 := dk_conv r9 W9 rfl
              have q2 := dk_conv ((HDT.out.below HB9).mono HB9.size) W9 rfl
              obtain ⟨a9, c9, rfl⟩ := r9.form
              have HB9 := Lib.hid HB9
              clear n9 b9 r9
              go_wp2_with fail
              go_ret
              exact ⟨rfl, HB9.out⟩
            · first
                | exact absurd hf (by decide)
                | (simp only [] at n9
                   have h0I : ((ps.length : Int) == 0) = true := by rw [h0]; rfl
                   --@5
                   go_wp2_with fail
                   refine n9.mono ?_
                   rintro e W9 ⟨v9, rfl, r9, b9⟩
                   have HB9 := HK8.out.1.trans (b9.mono HK8.out.1.size)
                   obtain ⟨a9, c9, rfl⟩ := r9.form
                   have HB9 := Lib.hid HB9
                   clear n9 b9 r9
                   go_wp2_with fail
                   go_ret
                   exact ⟨rfl, HB9.out⟩)
            · first
                | exact absurd hf (by decide)
                | (simp only [] at n9
                   have h0I : ((ps.length : Int) == 0) = false := by rw [hk]; simp; omega
                   obtain ⟨pg, poff, pv, rfl, hpc, hpr⟩ := HP.out k p hp
                   have hkI : (ps.length : Int) - 1 = (k : Int) := by omega
                   have hne10 : (((10 * k : Nat) : Int) == ((10 * ps.length : Nat) : Int)) = false := by rw [beq_eq_false_iff_ne]; omega
                   have h10 : (10 : Int) * ((k : Int) + 1) - 10 = 10 * (k : Int) := by omega
                   have hk5 : k ≤ 5 := by omega
                   have hkl : (k : Int) < (k : Int) + 1 := by omega
                   have hkm : (k : Int) < ((k + 1 : Nat) : Int) := by omega
                   have hw3 : IntKind.i64.wrap (k : Int) = (k : Int) := IntWalk.i64_in _ (by omega)
                   have hw1 : IntKind.i64.wrap (10 * ((k : Int) + 1)) = 10 * ((k : Int) + 1) := IntWalk.i64_in _ (by omega)
                   have hw2 : IntKind.i64.wrap (10 * (k : Int)) = 10 * (k : Int) := IntWalk.i64_in _ (by omega)
                   --@6
                   go_wp2_with fail
                   refine n9.mono ?_
                   rintro e W9 ⟨v9, rfl, r9, b9⟩
                   have HB9 := HK8.out.1.trans (b9.mono HK8.out.1.size)
                   have p0 : W9.drew.cell? ⟨pg, poff + k, none⟩ = _ := (HB9.cell (p := ⟨pg, poff + k, none⟩) (World.block_lt_of_cell? W _ hpc)).trans hpc
                   have q1 := dk_conv r9 W9.drew rfl
                   have q2 := dk_conv ((hpr.below HB9).mono HB9.size) W9.drew rfl
                   obtain ⟨pa, pc, rfl⟩ := hpr.form
                   obtain ⟨a9, c9, rfl⟩ := r9.form
                   have HB9 := Lib.hid HB9
                   clear n9 b9 r9 hpc hpr
                   go_wp2_with fail
                   refine wp_region_still_lit (by kernel_rfl) (by kernel_rfl) ?_
                   change wpStill _ _ (World.drew _) _ _ _
                   repeat still_step
                   refine wpStill_nil ?_
                   change Exit.then _ _ Exit.normal _ (World.drew W9)
                   have b9 : Below W.heap.size W W9.drew := HB9.out.drew
                   clear p0 q1 q2
                   generalize W9.drew = w9 at *
                   go_wp2_with fail
                   go_ret
                   exact ⟨rfl, b9⟩)
    · exact absurd rfl hne

end Go.Proofs.YtamencnachmhoaaGreatDoor
