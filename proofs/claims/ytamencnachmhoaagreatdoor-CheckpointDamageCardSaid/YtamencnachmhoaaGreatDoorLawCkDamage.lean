/-
  CheckpointDamage: the walk.
-/
import Derived.Test.YtamencnachmhoaaGreatDoorCkStore
import Derived.Laws.BitsAllLaws
import Derived.Deep.CutBlock
import Derived.Deep.CutRange
namespace Go.Proofs.YtamencnachmhoaaGreatDoor
open Go.RowKit

theorem Ck.full1_succ (ps : List Ck.Bs) (i : Nat) : Ck.full 1 ps (i + 1) = Ck.full 1 ps i ++ [(i, ps.getD i [])] := by rw [Ck.full_succ, Nat.one_mul]

set_option maxRecDepth 100000 in
set_option maxHeartbeats 1000000 in
theorem law_ckdamage (W : World) (v0 : Value) (ps : List Dk.Bs) (n1 n2 : Nat) (hps : PiecesAt W v0 ps) (h1 : n1 < 65536) (h2 : n2 < 256) :
    Calls Tryz.prog 7 #[v0, .int .u16 n1, .int .u8 n2] W fun e W' => e = .returned (.bool true) ∧ Below W.heap.size W W' := by
  obtain ⟨a0, cap0, rfl, hpl, hp⟩ := hps
  have HP := Lib.hid hp
  have nk := ck_known W
  have nK : Hid (∀ o, Calls Tryz.prog 10 #[] o fun e W' => e = .returned (.bool true) ∧ Below o.heap.size o W') := Lib.hid ck_known
  clear hp
  by_cases hbig : ps.length = 0 ∨ 6 < ps.length ∨ n2 = 0
  · have hbigI : (ps.length : Int) = 0 ∨ (6 : Int) < (ps.length : Int) ∨ (n2 : Int) = 0 := by omega
    obtain ⟨x1, hx1⟩ : ∃ x, ((ps.length : Int) == 0) = x := ⟨_, rfl⟩
    obtain ⟨x2, hx2⟩ : ∃ x, decide ((6 : Int) < (ps.length : Int)) = x := ⟨_, rfl⟩
    obtain ⟨x3, hx3⟩ : ∃ x, ((n2 : Int) == 0) = x := ⟨_, rfl⟩
    have hor : (x1 || (x2 || x3)) = true := by
      rw [← hx1, ← hx2, ← hx3]
      simp only [Bool.or_eq_true, beq_iff_eq, decide_eq_true_eq]
      exact hbigI
    clear hbig hbigI HP
    go_enter Tryz.func7, Tryz.ntmps7
    go_wp2_with fail
    refine nk.mono ?_
    rintro e W1 ⟨rfl, b1⟩
    have HB1 := Lib.hid b1
    have n1 := nK.out W1
    clear nk b1
    cases x1
    all_goals cases x2
    all_goals cases x3
    all_goals try (exact absurd hor (by decide))
    all_goals
      simp only [decide_eq_true_eq, decide_eq_false_iff_not] at hx2
      go_wp2_with fail
      refine n1.mono ?_
      rintro e W2 ⟨rfl, b2⟩
      have HB2 := Lib.hid (HB1.out.trans (b2.mono HB1.out.size))
      clear n1 b2
      go_wp2_with fail
      go_ret
      exact ⟨rfl, HB2.out⟩
  · have g1 : ((ps.length : Int) == 0) = false := by rw [beq_eq_false_iff_ne]; omega
    have g2 : ¬ (6 : Int) < (ps.length : Int) := by omega
    have g3 : ((n2 : Int) == 0) = false := by rw [beq_eq_false_iff_ne]; omega
    go_enter Tryz.func7, Tryz.ntmps7
    go_wp2_with fail
    refine nk.mono ?_
    rintro e W1 ⟨rfl, b1⟩
    have B1 := Lib.hid b1
    have nn := dk_new W1 1 (fun _ => 0) (by decide)
    clear nk b1
    go_wp2_with fail
    refine nn.mono ?_
    rintro e W2 ⟨g, rfl, d2, b2⟩
    have K2 : Kn W W2 (pnt (fun _ => 0) W1.heap.size 1) := ⟨B1.out.trans (b2.mono B1.out.size), fun b hb => pnt_old (by have := B1.out.size; omega)⟩
    generalize pnt (fun _ => 0) W1.heap.size 1 = c2 at *
    have no := ck_Open d2 (by decide) ⟨#[115, 49]⟩ (by decide) (by simp) (by decide)
    rw [show (⟨#[115, 49]⟩ : ByteArray).data.toList = Ck.nmT from rfl, Ck.open0 (by decide)] at no
    clear nn b2 d2
    go_wp2_with fail
    refine no.mono ?_
    rintro e W3 ⟨c3, d3, h3, hcase⟩
    rcases hcase with ⟨-, s, rfl, S3⟩ | ⟨hne, -⟩
    · have HS0 : Hid (∃ c D, CrSt W Ck.nmT (Ck.keep2 (Ck.full 1 ps 0)) c W3 s g D) := Lib.hid ⟨c3, _, K2.chg h3 (by decide), d3, S3, Ck.holds0 (by decide), rfl, rfl, Ck.keep2_len _⟩
      clear no d3 h3 S3 K2
      go_wp2_with fail
      go_loopw [10] (fun iv wr => ∃ i : Nat, iv = .int .i64 i ∧ i ≤ ps.length ∧ Hid (∃ c D, CrSt W Ck.nmT (Ck.keep2 (Ck.full 1 ps i)) c wr s g D)) (fun iv _ => ps.length - (RowKit.intOf iv).toNat)
      case atStart => exact ⟨0, rfl, Nat.zero_le _, HS0⟩
      case round =>
        obtain ⟨i, rfl, hi, HS⟩ := hrel
        by_cases hlt : i < ps.length
        · obtain ⟨c, D, S⟩ := HS.out
          obtain ⟨p, hpd⟩ : ∃ p, ps[i]? = some p := ⟨_, List.getElem?_eq_getElem hlt⟩
          obtain ⟨pg, poff, pv, rfl, hpc, hpr⟩ := HP.out i p hpd
          obtain ⟨pa, pc, rfl⟩ := hpr.form
          have p0 := (S.K.1.cell (p := ⟨pg, poff + i, none⟩) (World.block_lt_of_cell? W _ hpc)).trans hpc
          have hltI : (i : Int) < (ps.length : Int) := by omega
          have hD : ps.getD i [] = p := by rw [List.getD_eq_getElem?_getD, hpd]; rfl
          by_cases hb : 1500 < p.length
          · have hbI : (1500 : Int) < (p.length : Int) := by omega
            have HB := Lib.hid S.K.1
            clear S hpc hpr hpd
            go_wp2_with fail
            go_ret
            exact ⟨rfl, HB.out⟩
          · have hbI : ¬ (1500 : Int) < (p.length : Int) := by omega
            have nS := S.save (n := i) (by omega) (by omega) (fun x hx => by have := Ck.full_lt (by decide) ps i x (Ck.keep2_sub _ x hx); omega) hpr
            have hfs : Ck.keep2 (Ck.keep2 (Ck.full 1 ps i) ++ [(i, p)]) = Ck.keep2 (Ck.full 1 ps (i + 1)) := by rw [Ck.keep2_snoc, Ck.full1_succ, hD]
            rw [hfs] at nS
            clear hfs hD
            clear S hpc hpr hpd
            go_wp2_with fail
            refine nS.mono ?_
            rintro e w5 ⟨rfl, HS5⟩
            have HS5 := Lib.hid HS5
            clear nS
            go_wp2_with fail
            exact ⟨⟨i + 1, by go_num, by omega, HS5⟩, by simp [RowKit.intOf]; omega⟩
        · obtain rfl : i = ps.length := by omega
          obtain ⟨c, D, S⟩ := HS.out
          obtain ⟨m, hm⟩ : ∃ m, ps.length = m + 1 := ⟨ps.length - 1, by omega⟩
          obtain ⟨q, hq⟩ : ∃ q, ps[m]? = some q := ⟨_, List.getElem?_eq_getElem (by omega)⟩
          obtain ⟨r, hr1, hr2⟩ := Ck.full_two (k := 1) (ps := ps) (i := ps.length) (by omega)
          have hql : ps.getD m [] = q := by rw [List.getD_eq_getElem?_getD, hq]; rfl
          rw [hm, Nat.add_sub_cancel, hql, Nat.one_mul] at hr1
          rw [show Ck.full 1 ps ps.length = Ck.full 1 ps (m + 1) from by rw [hm], hr1] at S
          have hmI : (ps.length : Int) - 1 = (m : Int) := by omega
          have nF := ck_FileName wr ⟨#[115, 49]⟩ m (by omega) (by decide) (by decide)
          rw [show (⟨#[115, 49]⟩ : ByteArray).data.toList = Ck.nmT from rfl] at nF
          have hSn := S.H.S.num (m, q) (by simp)
          have hSd := S.H.S.dat (m, q) (by simp)
          have hfl := Ck.fileName_length (nm := Ck.nmT) (n := m) (by omega)
          have hfd : Dk.find (Ck.fileName Ck.nmT m) D.fs = some ⟨Ck.encode m q, []⟩ := S.H.find (s := (m, q)) (by simp)
          have hrd : D.read (Ck.fileName Ck.nmT m) = (Ck.encode m q, 0) := by
            unfold Dk.D.read
            rw [if_neg (by simp [S.up]), hfd]
            rfl
          have hel := Ck.encode_pos m q
          obtain ⟨N, hN⟩ : ∃ N : ByteArray, N = ⟨(Ck.fileName Ck.nmT m).toArray⟩ := ⟨_, rfl⟩
          have hNl : N.data.toList = Ck.fileName Ck.nmT m := by rw [hN]
          have hNs : N.size ≤ 9223372036854775807 := by
            rw [hN]
            show (Ck.fileName Ck.nmT m).toArray.size ≤ _
            rw [List.size_toArray, hfl]
            decide
          rw [← hN] at nF
          obtain ⟨E, hE⟩ : ∃ E, E = Ck.encode m q := ⟨_, rfl⟩
          rw [← hE] at hfd hrd hel
          have hqm : q.length ≤ 1000000 := hSd
          have HS := Lib.hid S
          have HFD := Lib.hid hfd
          have HRD := Lib.hid hrd
          have HR2 := Lib.hid hr2
          have HE := Lib.hid hE
          have HM := Lib.hid hm
          have HQ := Lib.hid hq
          have HNL := Lib.hid hNl
          have HNS := Lib.hid hNs
          obtain ⟨L, hL⟩ : ∃ L, L = E.length := ⟨_, rfl⟩
          obtain ⟨k, hk⟩ : ∃ k, k = n1 % L := ⟨_, rfl⟩
          have hL0 : 0 < L := by omega
          have hkL : k < L := by rw [hk]; exact Nat.mod_lt _ hL0
          have hkI : (n1 : Int) % (L : Int) = (k : Int) := by rw [hk]; rfl
          have hkT : (n1 : Int).tmod (L : Int) = (k : Int) := by rw [Int.tmod_eq_emod_of_nonneg (by omega)]; exact hkI
          have hkl : (k : Int) < (L : Int) := by omega
          have hL9 : L ≤ 2000000 := by omega
          obtain ⟨x, hx⟩ : ∃ x, E[k]? = some x := ⟨_, List.getElem?_eq_getElem (by omega)⟩
          have hb8 : (UInt8.ofNat n2).toNat = n2 := Ck.toNat_of h2
          have hbne : UInt8.ofNat n2 ≠ 0 := fun e => by
            have := congrArg UInt8.toNat e
            rw [hb8] at this
            have : n2 = 0 := this
            omega
          obtain ⟨y, hy⟩ : ∃ y, y = x ^^^ UInt8.ofNat n2 := ⟨_, rfl⟩
          have hyx : y ≠ x := by rw [hy]; exact Ck.xor_ne hbne
          have hyI : bits .xor .u8 (x.toNat : Int) (n2 : Int) = (y.toNat : Int) := by
            rw [u8_xor_nat _ _ (UInt8.toNat_lt x) h2, hy, UInt8.toNat_xor, hb8]
          have HX := Lib.hid hx
          have HYX := Lib.hid hyx
          have HL := Lib.hid hL
          clear S hr1 hfd hrd hE hN hNl hSn hSd hfl hk hb8 hbne hy hyx hq hr2 hel hql hm hL
          --@1
          go_wp2_with fail
          refine nF.mono ?_
          rintro e w4 ⟨rfl, b4⟩
          have HS4 := Lib.hid (HS.out.keepW b4)
          have n5 := dk_Read HS4.out.d N HNS.out
          rw [HNL.out, HRD.out] at n5
          clear nF b4
          --@2
          go_wp2_with fail
          refine n5.mono ?_
          rintro e w5 ⟨v5, rfl, o5, b5⟩
          have HS5 := Lib.hid (HS4.out.keepW b5)
          have o5 : w5.ownsRow w4.heap.size 5 1 v5 E.length (dkCells E) := o5
          rw [← HL.out] at o5
          obtain ⟨g5, c5, rfl, hg5, hcl⟩ := own_formT o5 hL0
          have z0 := hcl k _ (dkCells_at E k x HX.out)
          obtain ⟨w6, hw6⟩ : ∃ w6, w6 = w5.alloc (.cells #[.int .u8 y.toNat] 5) := ⟨_, rfl⟩
          have b6 : Below w5.heap.size w5 w6 := by rw [hw6]; exact (Below.refl _ _).alloc (Nat.le_refl _) _
          have hch : Chg 2 c (pnt c w5.heap.size 0) w5 w6 := Chg.of_below b6 0
          have rd6 : RdC (pnt c w5.heap.size 0) w6 (.slice (some ⟨w5.heap.size, 0, none⟩) 1 1) [y] := by rw [hw6]; exact RdC.made [y] _ rfl _
          have d6 := HS5.out.d.chg hch (by decide) (by decide)
          have s6 := HS5.out.s.chg hch (by decide)
          have K6 := HS5.out.K.chg hch (by decide)
          have n7 := dk_WriteAt d6 N HNS.out (by rw [HS.out.bud]; decide) (k : Int) [y] _ rd6 (by simp) (fun f hf => by
            rw [HNL.out, HFD.out] at hf
            obtain rfl := Option.some.inj hf
            exact (by decide : (0 : Nat) < 65536))
          rw [HNL.out] at n7
          have hdm := HS.out.H.damaged HS.out.up HS.out.bud (k := k) (x := y) (e := x) (by rw [← HE.out]; exact HX.out) HYX.out
          obtain ⟨D7, hD7⟩ : ∃ D7, D7 = D.write (Ck.fileName Ck.nmT m) (fun _ => (k : Int)) [y] := ⟨_, rfl⟩
          have hft : Ck.Fit Ck.nmT D7.1 := by
            rw [hD7]
            exact (HS.out.H.fit (by have := HS.out.l2; omega) (by rw [HS.out.bud]; decide) (Ck.beside0 _) (Ck.beside0 _)).congr (Ck.write_names _ _ _ _) (by rw [hdm.2.1, HS.out.up]) (Ck.write_bud _ _ _ _ (by rw [HS.out.bud]; decide))
          rw [← hD7] at n7 hdm
          obtain ⟨D7, e7⟩ := D7
          obtain ⟨h70, h71, h72⟩ := hdm
          have hld : Ck.load D7 Ck.nmT = match r.getLast? with | some s => (s.1, s.2, 0) | none => (0, [], 9) := h72
          have h70 : e7 = 0 := h70
          subst h70
          have HW6 := Lib.hid hw6
          have HFT : Hid (Ck.Fit Ck.nmT D7) := Lib.hid hft
          have HUP : Hid (D7.down = false) := Lib.hid h71
          have HLD := Lib.hid hld
          have HK6 := Lib.hid K6
          have HS6 := Lib.hid s6
          clear n5 o5 hcl b5 b6 hch rd6 d6 s6 K6 hD7 hft h71 h72 hld hw6
          --@3
          go_wp2_with fail
          rw [← HW6.out]
          refine n7.mono ?_
          rintro e w7 ⟨c7, rfl, d7, h7⟩
          have d7 : DiskAt 1 c7 w7 g D7 := d7
          have K7 := HK6.out.chg h7 (by decide)
          have n8 := ck_Load_up d7 (HS6.out.chg h7 (by decide)) (by decide) HUP.out HFT.out.few2 (by decide) HFT.out.nml HFT.out.tame HFT.out.ord
          have HK7 := Lib.hid K7
          clear n7 d7 h7 K7
          have hld := HLD.out
          have hr2 := HR2.out
          have hm := HM.out
          by_cases h1 : ps.length = 1
          · rw [hr2, if_pos h1] at hld
            have hld : Ck.load D7 Ck.nmT = (0, [], 9) := hld
            rw [hld] at n8
            have h1I : ((ps.length : Int) == 1) = true := by rw [h1]; rfl
            clear hld hr2 hm
            --@4
            go_wp2_with fail
            refine n8.mono ?_
            rintro e w8 ⟨v8, rfl, o8, b8⟩
            have HB8 := Lib.hid (HK7.out.1.trans (b8.mono HK7.out.1.size))
            have o8 : w8.ownsRow w7.heap.size 5 1 v8 ([] : Dk.Bs).length (dkCells []) := o8
            obtain ⟨a8, c8, rfl⟩ := own_slice o8
            clear n8 b8 o8
            go_wp2_with fail
            go_ret
            exact ⟨rfl, HB8.out⟩
          · rw [hr2, if_neg h1, Nat.one_mul] at hld
            obtain ⟨j, hj⟩ : ∃ j, ps.length = j + 2 := ⟨ps.length - 2, by omega⟩
            obtain ⟨p, hp⟩ : ∃ p, ps[j]? = some p := ⟨_, List.getElem?_eq_getElem (by omega)⟩
            have hld : Ck.load D7 Ck.nmT = (j, p, 0) := by
              rw [hld, show ps.length - 2 = j from by omega, List.getD_eq_getElem?_getD, hp]
              rfl
            rw [hld] at n8
            simp only [] at n8
            have h1I : ((ps.length : Int) == 1) = false := by rw [beq_eq_false_iff_ne]; omega
            obtain ⟨pg, poff, pv, rfl, hpc, hpr⟩ := HP.out j p hp
            have hjI : (ps.length : Int) - 2 = (j : Int) := by omega
            have hjw : IntKind.i64.wrap (j : Int) = (j : Int) := IntWalk.i64_in _ (by omega)
            have hjl : (j : Int) < (ps.length : Int) := by omega
            clear hld hr2 hm hj hp
            --@5
            go_wp2_with fail
            refine n8.mono ?_
            rintro e w8 ⟨v8, rfl, o8, b8⟩
            have hB8 := HK7.out.1.trans (b8.mono HK7.out.1.size)
            have p0 : w8.drew.cell? ⟨pg, poff + j, none⟩ = _ := (hB8.cell (p := ⟨pg, poff + j, none⟩) (World.block_lt_of_cell? W _ hpc)).trans hpc
            have q1 := dk_conv (RdB.of_own o8) w8.drew rfl
            have q2 := dk_conv ((hpr.below hB8).mono hB8.size) w8.drew rfl
            obtain ⟨pa, pc, rfl⟩ := hpr.form
            obtain ⟨a8, c8, rfl⟩ := own_slice o8
            have HB8 := Lib.hid hB8
            clear n8 b8 o8 hB8 hpc hpr
            go_wp2_with fail
            refine wp_region_still_lit (by kernel_rfl) (by kernel_rfl) ?_
            change wpStill _ _ (World.drew _) _ _ _
            repeat still_step
            refine wpStill_nil ?_
            change Exit.then _ _ Exit.normal _ (World.drew w8)
            have b9 : Below W.heap.size W w8.drew := HB8.out.drew
            clear p0 q1 q2
            generalize w8.drew = w9 at *
            go_wp2_with fail
            go_ret
            exact ⟨rfl, b9⟩
    · exact absurd rfl hne

end Go.Proofs.YtamencnachmhoaaGreatDoor
