/-
  CheckpointStores: the walk.
-/
import Derived.Test.YtamencnachmhoaaGreatDoorCkStore
import Derived.Test.YtamencnachmhoaaGreatDoorCkSeqs
namespace Go.Proofs.YtamencnachmhoaaGreatDoor
open Go.RowKit

/-- a slice of booleans that is read -/
def BoolsAt (W : World) (v : Value) (ws : List Bool) : Prop := ∃ a cap, v = .slice a ws.length cap ∧ ∀ (i : Nat) (b : Bool), ws[i]? = some b → ∃ g off, a = some ⟨g, off, none⟩ ∧ W.cell? ⟨g, off + i, none⟩ = some (.bool b)

set_option maxRecDepth 100000 in
set_option maxHeartbeats 1000000 in
theorem law_ckstores (W : World) (v0 : Value) (ls : List Dk.Bs) (v1 : Value) (ws : List Bool) (hps : PiecesAt W v0 ls) (hws : BoolsAt W v1 ws) :
    Calls Tryz.prog 5 #[v0, v1] W fun e W' => e = .returned (.bool true) ∧ Below W.heap.size W W' := by
  obtain ⟨a0, cap0, rfl, hpl, hp⟩ := hps
  obtain ⟨wa, wc, rfl, hw⟩ := hws
  have HP := Lib.hid hp
  have HPS : Hid (PiecesAt W (.slice a0 ls.length cap0) ls) := Lib.hid ⟨a0, cap0, rfl, hpl, hp⟩
  have HW := Lib.hid hw
  have nk := ck_known W
  have nK : Hid (∀ o, Calls Tryz.prog 10 #[] o fun e W' => e = .returned (.bool true) ∧ Below o.heap.size o W') := Lib.hid ck_known
  clear hp hw
  by_cases hbig : 20 < ls.length ∨ ws.length < ls.length
  · have hbigI : (20 : Int) < (ls.length : Int) ∨ (ws.length : Int) < (ls.length : Int) := by omega
    obtain ⟨x1, hx1⟩ : ∃ x, decide ((20 : Int) < (ls.length : Int)) = x := ⟨_, rfl⟩
    obtain ⟨x2, hx2⟩ : ∃ x, decide ((ws.length : Int) < (ls.length : Int)) = x := ⟨_, rfl⟩
    have hor : (x1 || x2) = true := by
      rw [← hx1, ← hx2]
      simpa using hbigI
    clear hbig hbigI HP HPS HW
    go_enter Tryz.func5, Tryz.ntmps5
    go_wp2_with fail
    refine nk.mono ?_
    rintro e W1 ⟨rfl, b1⟩
    have HB1 := Lib.hid b1
    have n1 := nK.out W1
    clear nk b1
    cases x1
    all_goals cases x2
    all_goals try (exact absurd hor (by decide))
    all_goals
      simp only [decide_eq_true_eq, decide_eq_false_iff_not] at hx1 hx2
      go_wp2_with fail
      refine n1.mono ?_
      rintro e W2 ⟨rfl, b2⟩
      have HB2 := Lib.hid (HB1.out.trans (b2.mono HB1.out.size))
      clear n1 b2
      go_wp2_with fail
      go_ret
      exact ⟨rfl, HB2.out⟩
  · have g1 : ¬ (20 : Int) < (ls.length : Int) := by omega
    have g2 : ¬ (ws.length : Int) < (ls.length : Int) := by omega
    go_enter Tryz.func5, Tryz.ntmps5
    go_wp2_with fail
    refine nk.mono ?_
    rintro e W1 ⟨rfl, b1⟩
    have B1 := Lib.hid b1
    have nn := dk_new W1 1 (fun _ => 0) (by decide)
    clear nk b1
    go_wp2_with fail
    refine nn.mono ?_
    rintro e W2 ⟨g, rfl, d2, b2⟩
    have K2 : Kn W W2 (pnt (fun _ => 0) W1.heap.size 1) := ⟨B1.out.trans (b2.mono B1.out.size), fun b hb => pnt_old (by have := B1.out.size; omega)⟩
    generalize pnt (fun _ => 0) W1.heap.size 1 = c2 at *
    have no := ck_Open d2 (by decide) ⟨#[115]⟩ (by decide) (by simp) (by decide)
    rw [show (⟨#[115]⟩ : ByteArray).data.toList = Ck.nmS from rfl, Ck.open0 (by decide)] at no
    clear nn b2 d2
    go_wp2_with fail
    refine no.mono ?_
    rintro e W3 ⟨c3, d3, h3, hcase⟩
    obtain ⟨s, rfl, S3⟩ : ∃ s, e = .returned (.tuple #[.pointer (some ⟨s, 0, none⟩), .int .i64 0]) ∧ StIs c3 W3 s g Ck.nmS := by
      rcases hcase with ⟨-, s8, h, S8⟩ | ⟨hne, -⟩
      · exact ⟨s8, h, S8⟩
      · exact absurd rfl hne
    clear hcase
    have K3 := K2.chg h3 (by decide)
    have nt := ck_Open d3 (by decide) ⟨#[115, 49]⟩ (by decide) (by simp) (by decide)
    rw [show (⟨#[115, 49]⟩ : ByteArray).data.toList = Ck.nmT from rfl, Ck.open0 (by decide)] at nt
    clear no d3 h3 K2
    go_wp2_with fail
    refine nt.mono ?_
    rintro e W4 ⟨c4, d4, h4, hcase⟩
    obtain ⟨t, rfl, T4⟩ : ∃ s, e = .returned (.tuple #[.pointer (some ⟨s, 0, none⟩), .int .i64 0]) ∧ StIs c4 W4 s g Ck.nmT := by
      rcases hcase with ⟨-, s8, h, S8⟩ | ⟨hne, -⟩
      · exact ⟨s8, h, S8⟩
      · exact absurd rfl hne
    clear hcase
    have HS0 : Hid (TwSt W ls c4 W4 s t g ⟨[], -1, false⟩ (Ck.sel true ws 0) (Ck.sel false ws 0) (Ck.sel true ws 0) (Ck.sel false ws 0) (.slice none 0 0) (.slice none 0 0)) :=
      Lib.hid ⟨K3.chg h4 (by decide), d4, S3.chg h4 (by decide), T4, ⟨Ck.snaps0, Ck.snaps0, Ck.keep2_len _, Ck.keep2_len _, rfl, rfl, rfl⟩, World.ownsRow_nil _ _ _ _, (fun b hb => by cases hb), World.ownsRow_nil _ _ _ _, (fun b hb => by cases hb)⟩
    clear nt d4 h4 K3 S3 T4
    go_wp2_with fail
    go_loopw [7, 10, 11, 12] (fun ev ov tv iv wr => ∃ (i : Nat) (c : Nat → Nat) (D : Dk.D), iv = .int .i64 i ∧ i ≤ ls.length ∧ ev = .int .i64 0 ∧ Hid (TwSt W ls c wr s t g D (Ck.sel true ws i) (Ck.sel false ws i) (Ck.sel true ws i) (Ck.sel false ws i) ov tv)) (fun _ _ _ iv _ => ls.length - (RowKit.intOf iv).toNat)
    case atStart => exact ⟨0, c4, _, rfl, Nat.zero_le _, rfl, HS0⟩
    case round =>
      obtain ⟨i, c, D, rfl, hi, rfl, HS⟩ := hrel
      obtain ⟨oa, oc, rfl⟩ := own_slice HS.out.o
      obtain ⟨ua, uc, rfl⟩ := own_slice HS.out.u
      by_cases hlt : i < ls.length
      · obtain ⟨p, hpd⟩ : ∃ p, ls[i]? = some p := ⟨_, List.getElem?_eq_getElem hlt⟩
        obtain ⟨b, hbd⟩ : ∃ b, ws[i]? = some b := ⟨_, List.getElem?_eq_getElem (by omega)⟩
        obtain ⟨pg, poff, pv, rfl, hpc, hpr⟩ := HP.out i p hpd
        obtain ⟨pa, pc, rfl⟩ := hpr.form
        obtain ⟨wg, woff, rfl, hwc⟩ := HW.out i b hbd
        have p0 := (HS.out.K.1.cell (p := ⟨pg, poff + i, none⟩) (World.block_lt_of_cell? W _ hpc)).trans hpc
        have w0 := (HS.out.K.1.cell (p := ⟨wg, woff + i, none⟩) (World.block_lt_of_cell? W _ hwc)).trans hwc
        have hltI : (i : Int) < (ls.length : Int) := by omega
        have hltJ : (i : Int) < (ws.length : Int) := by omega
        by_cases hb : 1500 < p.length
        · have hbI : (1500 : Int) < (p.length : Int) := by omega
          have HB := Lib.hid HS.out.K.1
          clear hpc hpr hpd hwc hbd
          go_wp2_with fail
          go_ret
          exact ⟨rfl, HB.out⟩
        · have hbI : ¬ (1500 : Int) < (p.length : Int) := by omega
          cases b with
          | true =>
            have hs1 := Ck.sel_yes hbd
            have hs2 := Ck.sel_no (b := false) hbd (by decide)
            obtain ⟨v1, w1, hr1, S1, a1, c1, rfl⟩ := HS.out.pushO i (by have := Ck.sel_length true ws i; omega)
            have nS := S1.saveS (i := i) (by omega) hpd (by omega) (Ck.sel_lt true ws i) hpr
            have q0 := (S1.K.1.cell (p := ⟨pg, poff + i, none⟩) (World.block_lt_of_cell? W _ hpc)).trans hpc
            have HS1 := Lib.hid hs1
            have HS2 := Lib.hid hs2
            clear hpc hpr hpd hwc hbd S1 hs1 hs2
            go_wp2_with (at_builtin; refine wpList_append_eq rfl _ _ _ rfl _ _ _ _ rfl rfl hr1 ?_)
            refine nS.mono ?_
            rintro e w5 ⟨rfl, c5, D5, HS5⟩
            have HS5 := Lib.hid HS5
            clear nS
            go_wp2_with fail
            refine ⟨⟨i + 1, c5, D5, by go_num, by omega, rfl, Lib.hid ?_⟩, by simp [RowKit.intOf]; omega⟩
            rw [HS1.out, HS2.out]
            exact HS5.out
          | false =>
            have hs1 := Ck.sel_yes hbd
            have hs2 := Ck.sel_no (b := true) hbd (by decide)
            obtain ⟨v1, w1, hr1, S1, a1, c1, rfl⟩ := HS.out.pushU i (by have := Ck.sel_length false ws i; omega)
            have nS := S1.saveT (i := i) (by omega) hpd (by omega) (Ck.sel_lt false ws i) hpr
            have q0 := (S1.K.1.cell (p := ⟨pg, poff + i, none⟩) (World.block_lt_of_cell? W _ hpc)).trans hpc
            have HS1 := Lib.hid hs1
            have HS2 := Lib.hid hs2
            clear hpc hpr hpd hwc hbd S1 hs1 hs2
            go_wp2_with (at_builtin; refine wpList_append_eq rfl _ _ _ rfl _ _ _ _ rfl rfl hr1 ?_)
            refine nS.mono ?_
            rintro e w5 ⟨rfl, c5, D5, HS5⟩
            have HS5 := Lib.hid HS5
            clear nS
            go_wp2_with fail
            refine ⟨⟨i + 1, c5, D5, by go_num, by omega, rfl, Lib.hid ?_⟩, by simp [RowKit.intOf]; omega⟩
            rw [HS1.out, HS2.out]
            exact HS5.out
      · obtain rfl : i = ls.length := by omega
        have hone := Ck.sel_length true ws ls.length
        have htwo := Ck.sel_length false ws ls.length
        have hl1 := Ck.sel_lt true ws ls.length
        have hl2 := Ck.sel_lt false ws ls.length
        generalize Ck.sel true ws ls.length = o1 at *
        generalize Ck.sel false ws ls.length = o2 at *
        have n1 := HS.out.seqS
        go_wp2_with fail
        refine n1.mono ?_
        rintro e W1 ⟨v1, rfl, q1, b1⟩
        have H1 := Lib.hid (HS.out.keepW b1)
        have n2 := st_newest W1 v1 _ o1 q1 H1.out.o (by omega)
        obtain ⟨z1, hz1⟩ : ∃ z, z = (List.drop (o1.length - 2) o1).length := ⟨_, rfl⟩
        rw [← hz1] at q1
        obtain ⟨a1, k1, rfl⟩ := own_slice q1
        clear hz1
        clear n1 q1 b1
        --@2
        go_wp2_with fail
        refine n2.mono ?_
        rintro e W2 ⟨rfl, b2⟩
        have H2 := Lib.hid (H1.out.keepW b2)
        have n3 := H2.out.seqT
        clear n2 b2
        --@3
        go_wp2_with fail
        refine n3.mono ?_
        rintro e W3 ⟨v3, rfl, q3, b3⟩
        have H3 := Lib.hid (H2.out.keepW b3)
        have n4 := st_newest W3 v3 _ o2 q3 H3.out.u (by omega)
        obtain ⟨z3, hz3⟩ : ∃ z, z = (List.drop (o2.length - 2) o2).length := ⟨_, rfl⟩
        rw [← hz3] at q3
        obtain ⟨a3, k3, rfl⟩ := own_slice q3
        clear hz3
        clear n3 q3 b3
        --@4
        go_wp2_with fail
        refine n4.mono ?_
        rintro e W4 ⟨rfl, b4⟩
        have H4 := Lib.hid (H3.out.keepW b4)
        have n5 := dk_List H4.out.d (Nat.le_trans H4.out.fitS.few2 (by decide))
        rw [H4.out.names] at n5
        clear n4 b4
        --@5
        go_wp2_with fail
        refine n5.mono ?_
        rintro e W5 ⟨v5, rfl, q5, b5⟩
        have H5 := Lib.hid (H4.out.keepW b5)
        obtain ⟨z5, hz5⟩ : ∃ z, z = min 2 o1.length + min 2 o2.length := ⟨_, rfl⟩
        rw [← hz5] at q5
        obtain ⟨a5, k5, rfl⟩ := own_slice q5
        have n6 := st_latest H5.out.K H5.out.d H5.out.s H5.out.T.s H5.out.T.up H5.out.T.bud (Ck.beside0 _) (Ck.besideT H5.out.T.S2) H5.out.o HPS.out hl1 (by omega) (by omega)
        obtain ⟨y1, hy1⟩ : ∃ y, y = min 2 o1.length := ⟨_, rfl⟩
        obtain ⟨y2, hy2⟩ : ∃ y, y = min 2 o2.length := ⟨_, rfl⟩
        have m1 : min (2 : Int) (o1.length : Int) = (y1 : Int) := by omega
        have m2 : min (2 : Int) (o2.length : Int) = (y2 : Int) := by omega
        have m3 : (y1 : Int) + (y2 : Int) = (z5 : Int) := by omega
        have m4 : z5 ≤ 4 := by omega
        clear hy1 hy2 hz5
        clear n5 q5 b5
        --@6
        go_wp2_with fail
        refine n6.mono ?_
        rintro e W6 ⟨rfl, b6⟩
        have H6 := Lib.hid (H5.out.keepW b6)
        have n7 := st_latest H6.out.K H6.out.d H6.out.t H6.out.T.t H6.out.T.up H6.out.T.bud (Ck.besideS H6.out.T.S1) (Ck.beside0 _) H6.out.u HPS.out hl2 (by omega) (by omega)
        clear n6 b6
        --@7
        go_wp2_with fail
        refine n7.mono ?_
        rintro e W7 ⟨rfl, b7⟩
        have H7 := Lib.hid (H6.out.keepW b7)
        clear n7 b7
        go_wp2_with fail
        go_ret
        exact ⟨rfl, H7.out.K.1⟩

end Go.Proofs.YtamencnachmhoaaGreatDoor
