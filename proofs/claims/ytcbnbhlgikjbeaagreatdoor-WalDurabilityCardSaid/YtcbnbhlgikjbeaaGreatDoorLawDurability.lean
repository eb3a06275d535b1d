/-
  WalDurability: the walk.
-/
import Derived.Test.YtcbnbhlgikjbeaaGreatDoorWlDur
import Derived.Deep.CutBlock
import Derived.Deep.CutRange
namespace Go.Proofs.YtcbnbhlgikjbeaaGreatDoor
open Go.RowKit

theorem PiecesAt.below {W W' : World} {v : Value} {ps : List Dk.Bs} (h : PiecesAt W v ps) (hb : Below W.heap.size W W') : PiecesAt W' v ps := by
  obtain ⟨a0, cap, e, hl, h⟩ := h
  refine ⟨a0, cap, e, hl, fun i p hp => ?_⟩
  obtain ⟨g, off, pv, h1, h2, h3⟩ := h i p hp
  exact ⟨g, off, pv, h1, (hb.cell (p := ⟨g, off + i, none⟩) (World.block_lt_of_cell? W _ h2)).trans h2, (h3.below hb).mono hb.size⟩

theorem du_head {W : World} {B : Nat} {a : Option Addr} {n cap : Nat} {x : UInt8} {r : Dk.Bs} (h : RdB W B (.slice a n cap) (x :: r)) : ∃ g off, a = some ⟨g, off, none⟩ ∧ n = r.length + 1 ∧ g < B ∧ W.cell? ⟨g, off, none⟩ = some (.int .u8 x.toNat) := by
  rcases h with ⟨h0, _⟩ | ⟨g, off, cap', hv, hc, hg, hgs, hx⟩
  · cases h0
  · cases hv
    have := hx 0 x rfl
    exact ⟨g, off, rfl, rfl, hg, this⟩

theorem own_formT {w : World} {B sz : Nat} {t : TypeId} {v : Value} {n : Nat} {xs : List Value} (h : w.ownsRow B t sz v n xs) (hn : 0 < n) : ∃ sb cap, v = .slice (some ⟨sb, 0, none⟩) n cap ∧ sb < w.heap.size ∧ ∀ (k : Nat) (x : Value), xs[k]? = some x → w.cell? ⟨sb, k, none⟩ = some x := by
  obtain ⟨hl, ⟨_, h0⟩ | ⟨g, cap, cur, hv, hB, hh, hnc, hcap, hcur, htake⟩⟩ := h
  · omega
  · refine ⟨g, cap, hv, (Array.getElem?_eq_some_iff.1 hh).1, fun k x hk => ?_⟩
    have hk3 : k < xs.length := (List.getElem?_eq_some_iff.1 hk).1
    rw [← htake, List.getElem?_take_of_lt (by omega)] at hk
    rw [cell_of_row _ _ _ _ _ _ hh]
    simpa using hk

theorem crash_fs (D : Dk.D) : D.crash.1.fs = D.fs ∧ D.crash.1.down = true := by
  unfold Dk.D.crash
  split
  · exact ⟨rfl, by assumption⟩
  · exact ⟨rfl, rfl⟩

/-- how many of the entries found must be as they were appended -/
def sureOf (ch : Dk.Bs) (synced all : Nat) : Nat := if Dk.hd ch % 2 = 0 then all else synced

theorem sure_ok {ps : List Wl.Bs} {n na syn : Nat} {all : List (Nat × Wl.Bs)} {ch : Dk.Bs} (hn : n ≤ na) (hnp : n ≤ ps.length) (hsyn : syn ≤ n) {m : List (Nat × Wl.Bs)} (h1 : all = Wl.ents 0 (((cutAll ps).take n).take syn) ++ m)
    (h2 : Dk.hd ch % 2 = 0 → ∃ j, all = Wl.ents 0 (((cutAll ps).take n).take j)) (i : Nat) (hi : i < sureOf ch syn all.length) : i < na ∧ i < all.length ∧ ∃ q, (cutAll ps)[i]? = some q ∧ all[i]? = some (i, q) := by
  have hql : (cutAll ps).length = ps.length := cutAll_len ps
  unfold sureOf at hi
  split at hi
  · rename_i he
    obtain ⟨j, hj⟩ := h2 he
    have hl : all.length ≤ n := by rw [hj, Wl.ents_length, List.length_take, List.length_take]; omega
    have hlj : i < j := by
      have : all.length ≤ j := by rw [hj, Wl.ents_length, List.length_take]; omega
      omega
    obtain ⟨q, hq⟩ : ∃ q, (cutAll ps)[i]? = some q := ⟨_, List.getElem?_eq_getElem (by omega)⟩
    refine ⟨by omega, hi, q, hq, ?_⟩
    rw [hj, Wl.ents_get, List.getElem?_take_of_lt hlj, List.getElem?_take_of_lt (by omega), hq, Nat.zero_add]
    rfl
  · have hl : syn ≤ all.length := by
      rw [h1, List.length_append, Wl.ents_length, List.length_take, List.length_take]
      omega
    obtain ⟨q, hq⟩ : ∃ q, (cutAll ps)[i]? = some q := ⟨_, List.getElem?_eq_getElem (by omega)⟩
    refine ⟨by omega, by omega, q, hq, ?_⟩
    rw [h1, List.getElem?_append_left (by rw [Wl.ents_length, List.length_take, List.length_take]; omega), Wl.ents_get, List.getElem?_take_of_lt hi, List.getElem?_take_of_lt (by omega), hq, Nat.zero_add]
    rfl

set_option maxRecDepth 100000 in
set_option maxHeartbeats 1000000 in
theorem law_dur (W : World) (v0 v2 : Value) (ps : List Dk.Bs) (n0 n1 n2 : Nat) (ch : Dk.Bs) (hps : PiecesAt W v0 ps) (h0 : n0 < 256) (h1 : n1 < 256) (h2 : n2 < 256) (hch : RdB W W.heap.size v2 ch) :
    Calls Tryz.prog 6 #[v0, .agg #[.int .u8 n0, .int .u8 n1, .int .u8 n2], v2] W fun e W' => e = .returned (.bool true) ∧ Below W.heap.size W W' := by
  obtain ⟨vb, vc, rfl⟩ := hch.form
  obtain ⟨a0, cap0, rfl, hpl, hp⟩ := hps
  obtain ⟨W0, hW0⟩ : ∃ W0, W0 = W.alloc (.cells #[.int .u8 n0, .int .u8 n1, .int .u8 n2] 70) := ⟨_, rfl⟩
  have hb0 : Below W.heap.size W W0 := by rw [hW0]; exact (Below.refl _ _).alloc (Nat.le_refl _) _
  have hrow : W0.heap[W.heap.size]? = some (.cells #[.int .u8 n0, .int .u8 n1, .int .u8 n2] 70 (0, 0)) := by rw [hW0]; exact heap_alloc_new _ _
  have hp0 : PiecesAt W0 (.slice a0 ps.length cap0) ps := PiecesAt.below ⟨a0, cap0, rfl, hpl, hp⟩ hb0
  obtain ⟨a1, cap1, ee, -, hp1⟩ := hp0
  injection ee with ee1 _ ee3
  subst ee1 ee3
  have hch0 := (hch.below hb0).mono hb0.size
  obtain ⟨g0, hg0⟩ : ∃ g0, g0 = W.heap.size := ⟨_, rfl⟩
  rw [← hg0] at hrow
  have y0 : W0.cell? ⟨g0, 0, none⟩ = some (.int .u8 n0) := by rw [cell_of_row _ _ _ _ _ _ hrow]; rfl
  have y1 : W0.cell? ⟨g0, 1, none⟩ = some (.int .u8 n1) := by rw [cell_of_row _ _ _ _ _ _ hrow]; rfl
  have y2 : W0.cell? ⟨g0, 2, none⟩ = some (.int .u8 n2) := by rw [cell_of_row _ _ _ _ _ _ hrow]; rfl
  have hgl : g0 < W0.heap.size := (Array.getElem?_eq_some_iff.1 hrow).1
  have HP := Lib.hid hp1
  have HCH := Lib.hid hch0
  have HB0 := Lib.hid hb0
  have HW0 := Lib.hid hW0
  have HG0 := Lib.hid hg0
  have HY := Lib.hid (And.intro y0 (And.intro y1 (And.intro y2 hgl)))
  have nk := wl_known W0
  clear hp hp1 hch hch0 hb0 hW0 hg0 hrow y0 y1 y2 hgl
  go_enter Tryz.func6, Tryz.ntmps6
  go_wp2_with fail
  rw [← HW0.out, ← HG0.out]
  refine nk.mono ?_
  rintro e W1 ⟨rfl, b1⟩
  have B1 := Lib.hid b1
  clear nk b1
  by_cases h20 : 20 < ps.length
  · have hI : (20 : Int) < (ps.length : Int) := by omega
    go_wp2_with fail
    go_ret
    exact ⟨rfl, HB0.out.trans (B1.out.mono HB0.out.size)⟩
  · have hI : ¬ (20 : Int) < (ps.length : Int) := by omega
    by_cases h40 : 40 < ch.length
    · have hJ : (40 : Int) < (ch.length : Int) := by omega
      go_wp2_with fail
      go_ret
      exact ⟨rfl, HB0.out.trans (B1.out.mono HB0.out.size)⟩
    · have hJ : ¬ (40 : Int) < (ch.length : Int) := by omega
      have nn := dk_new W1 1 (fun _ => 0) (by decide)
      go_wp2_with fail
      refine nn.mono ?_
      rintro e W2 ⟨g, rfl, d2, b2⟩
      have K2 : Kn W0 W2 (pnt (fun _ => 0) W1.heap.size 1) := ⟨B1.out.trans (b2.mono B1.out.size), fun b hb => pnt_old (by have := B1.out.size; omega)⟩
      generalize pnt (fun _ => 0) W1.heap.size 1 = c2 at *
      obtain ⟨m, hm⟩ : ∃ m, m = 64 + 8 * n0 := ⟨_, rfl⟩
      have no := wl_Open_new (j := 3) d2 (by decide) (by decide) ⟨#[108, 111, 103]⟩ m (by decide) (by decide) (by omega) (by omega)
      rw [show (⟨#[108, 111, 103]⟩ : ByteArray).data.toList = kp from rfl, (Wl.Inv.start (p := kp) (sz := m) (by decide)).1] at no
      have HM := Lib.hid hm
      have NS : Hid (∀ o, Calls Tryz.prog 18 #[.int .u8 n0] o fun e W' => e = .returned (.int .i64 m) ∧ o = W') := Lib.hid (fun o => wl_segment o n0 m h0 hm)
      have z0 := (K2.1.cell (p := ⟨g0, 0, none⟩) HY.out.2.2.2).trans HY.out.1
      clear nn b2 d2 hm
      --@1
      go_wp2_with (go_at_call 18; refine (NS.out _).mono ?_; rintro e w ⟨rfl, rfl⟩)
      refine no.mono ?_
      rintro e W3 ⟨h, c3, rfl, d3, l3, h3⟩
      have K3 := K2.chg h3 (by decide)
      have z1 := (K3.1.cell (p := ⟨g0, 1, none⟩) HY.out.2.2.2).trans HY.out.2.1
      obtain ⟨b6, hb6⟩ : ∃ b6, b6 = n1 % 60 := ⟨_, rfl⟩
      have hb6I : (n1 : Int) % 60 = (b6 : Int) := by omega
      have hb6T : (n1 : Int).tmod 60 = (b6 : Int) := by rw [Int.tmod_eq_emod_of_nonneg (by omega)]; exact hb6I
      have hb60 : b6 < 60 := by omega
      have hsb : Dk.D.setBudget ⟨[(Wl.name kp 0, ⟨[], []⟩)], -1, false⟩ (b6 : Int) = (⟨[(Wl.name kp 0, ⟨[], []⟩)], (b6 : Int), false⟩, 0) := by
        unfold Dk.D.setBudget
        rw [if_neg (by simp), if_neg (by omega)]
      have n4 := dk_SetBudget d3 (b6 : Int)
      rw [hsb] at n4
      clear no d3 z0 hsb hb6
      --@2
      go_wp2_with fail
      refine n4.mono ?_
      rintro e W4 ⟨c4, rfl, d4, h4⟩
      have HS0 : Hid (DuSt W0 ps m 0 0 c4 W4 h g _ _ (.slice none 0 0) []) := Lib.hid ⟨K3.chg h4 (by decide), d4, l3.chg h4 (by decide), by show (b6 : Int) ≤ 60; omega,
        ⟨[], [], 0, 0, _, by rw [List.take_zero]; exact (Wl.Inv.start (p := kp) (sz := m) (by decide)).2.disk rfl⟩, World.ownsRow_nil _ _ _ _, (fun b hb => by cases hb), rfl, fun j v hj => by simp at hj⟩
      have HPB0 : Hid (Wl.PB (⟨[(Wl.name kp 0, ⟨[], []⟩)], (b6 : Int), false⟩ : Dk.D) 0) := Lib.hid (fun x hx => by simp at hx; subst hx; simp)
      clear n4 d4 h4 l3 h3 K2 K3 z1 hb6I hb6T
      --@3
      go_upto_block 0 with fail
      go_cut [11] from 12 to 94 (fun v11 wx => ∃ (n na : Nat) (c : Nat → Nat) (D : Dk.D) (L : Wl.L) (aa : Option Addr) (ac : Nat) (rows : List Value), v11 = .slice aa na ac ∧ n ≤ na ∧ na ≤ ps.length ∧ Hid (DuSt W0 ps m n na c wx h g D L (.slice aa na ac) rows))
      case first =>
        go_wp2_with fail
        go_loopw [11, 12] (fun v11 iv wr => ∃ (i : Nat) (c : Nat → Nat) (D : Dk.D) (L : Wl.L) (aa : Option Addr) (ac : Nat) (rows : List Value), iv = .int .i64 i ∧ i ≤ ps.length ∧ v11 = .slice aa i ac ∧ Hid (DuSt W0 ps m i i c wr h g D L (.slice aa i ac) rows) ∧ Hid (Wl.PB D i)) (fun _ iv _ => ps.length - (RowKit.intOf iv).toNat)
        case atStart => exact ⟨0, _, _, _, _, _, _, rfl, Nat.zero_le _, rfl, HS0, HPB0⟩
        case round =>
          obtain ⟨i, c, D, L, aa, ac, rows, rfl, hi, rfl, HS, HPB⟩ := hrel
          by_cases hlt : i < ps.length
          · obtain ⟨p, hpd⟩ : ∃ p, ps[i]? = some p := ⟨_, List.getElem?_eq_getElem hlt⟩
            obtain ⟨pg, poff, pv, rfl, hpc, hpr⟩ := HP.out i p hpd
            obtain ⟨pa, pc, rfl, hpcap, htk⟩ := hpr.form4
            obtain ⟨k, hk⟩ : ∃ k : Nat, k = min p.length 200 := ⟨_, rfl⟩
            have hkI : min (p.length : Int) 200 = (k : Int) := by omega
            have hkc : (k : Int) ≤ (pc : Int) := by omega
            have hk2 : k ≤ 65536 := by omega
            have hpg := World.block_lt_of_cell? W0 _ hpc
            have p0 := (HS.out.K.1.cell (p := ⟨pg, poff + i, none⟩) hpg).trans hpc
            have hrp := htk _ (Nat.min_le_left p.length 200)
            have hqd := cutAll_get hpd
            rw [← hk] at hrp hqd
            have HRP := Lib.hid hrp
            have HQD := Lib.hid hqd
            clear hpc hpr htk hk hpd hpg hrp hqd
            --@4
            go_upto_region 13 with fail
            go_quiet (fail)
            have bm : Below wr.heap.size wr (wr.drewN nq) := dk_below_drewN (Below.refl _ _) nq
            clear p0
            generalize wr.drewN nq = wm at *
            obtain ⟨v1, w1, hr1, S1, aa1, ac1, rfl⟩ := (HS.out.keepW bm).push HQD.out HRP.out rfl (by omega)
            have HS1 := Lib.hid S1
            clear bm S1 hkI
            generalize pnt c wm.heap.size 5 = c1 at *
            --@5
            go_upto_region 15 with (at_builtin; refine wpList_append_eq rfl _ _ _ rfl _ _ _ _ rfl rfl hr1 ?_)
            clear hr1
            cases hD : D.down with
            | true =>
              have n5 := wl_Append_down HS1.out.d HS1.out.l hD pa k pc hk2
              clear hD
              go_wp2_with fail
              refine n5.mono ?_
              rintro e w5 ⟨rfl, rfl⟩
              clear n5
              go_wp2_with fail
              go_meet
              case rel => exact ⟨i, i + 1, _, _, _, _, _, _, rfl, by omega, by omega, HS1⟩
            | false =>
              have n5 := HS1.out.step HPB.out hD HQD.out (by omega) (by have := HM.out; omega) HRP.out
              clear hD
              go_wp2_with fail
              refine n5.mono ?_
              rintro e w5 ⟨c5, D5, L5, ⟨rfl, S5, up5, pb5⟩ | ⟨rfl, S5⟩⟩
              · have z2 := (S5.K.1.cell (p := ⟨g0, 2, none⟩) HY.out.2.2.2).trans HY.out.2.2.1
                have HS5 := Lib.hid S5
                by_cases h3 : (i + n2) % 3 = 0
                · have h3I : ((i : Int) + (n2 : Int)) % 3 = 0 := by omega
                  have h3T : ((i : Int) + (n2 : Int)).tmod 3 = 0 := by rw [Int.tmod_eq_emod_of_nonneg (by omega)]; exact h3I
                  have n6 := S5.sync pb5 up5 (by omega)
                  clear n5 S5 up5 pb5 h3
                  --@6
                  go_wp2_with fail
                  refine n6.mono ?_
                  rintro e w6 ⟨c6, D6, L6, r6, rfl, S6, pb6⟩
                  have HS6 := Lib.hid S6
                  have HPB6 := Lib.hid pb6
                  clear n6 S6 pb6 h3I h3T z2
                  go_wp2_with fail
                  refine ⟨⟨i + 1, c6, D6, L6, aa1, ac1, _, by go_num, by omega, rfl, HS6, HPB6⟩, by simp [RowKit.intOf] <;> omega⟩
                · have h3I : ¬ ((i : Int) + (n2 : Int)) % 3 = 0 := by omega
                  have h3T : ¬ ((i : Int) + (n2 : Int)).tmod 3 = 0 := by rw [Int.tmod_eq_emod_of_nonneg (by omega)]; exact h3I
                  have HPB5 := Lib.hid pb5
                  clear n5 S5 up5 pb5 h3
                  --@7
                  go_wp2_with fail
                  refine ⟨⟨i + 1, c5, D5, L5, aa1, ac1, _, by go_num, by omega, rfl, HS5, HPB5⟩, by simp [RowKit.intOf] <;> omega⟩
              · have HS5 := Lib.hid S5
                clear n5 S5
                go_wp2_with fail
                go_meet
                case rel => exact ⟨i, i + 1, _, _, _, _, _, _, rfl, by omega, by omega, HS5⟩
          · obtain rfl : i = ps.length := by omega
            go_wp2_with fail
            go_meet
            case rel => exact ⟨_, _, _, _, _, _, _, _, rfl, Nat.le_refl _, Nat.le_refl _, HS⟩
      case rest =>
        obtain ⟨n, na, c, D, L, aa, ac, rows, rfl, hnn, hnp, HS⟩ := hcut
        obtain ⟨os, fo, f, k, gf, I⟩ := HS.out.inv
        have hps' : ∀ q ∈ (cutAll ps).take n, q.length ≤ 200 := fun q hq => cutAll_le ps q (List.mem_of_mem_take hq)
        have hln : ((cutAll ps).take n).length = n := by rw [List.length_take, cutAll_len]; omega
        obtain ⟨segs, all, e1, e2, e3, ⟨m', e4⟩, e5⟩ := I.durable hps' (by omega) ch
        obtain ⟨hg1, hg2, hg3⟩ := I.restartGood hps' (by omega) HS.out.d.within ch
        have hsy : L.synced ≤ n := by have := I.syn; have := I.len; omega
        have hfl : D.fs.length ≤ 1000 ∧ f ≤ 20 := by have := I.count; have := I.len; omega
        have hnmx : ∀ x ∈ D.fs, x.1.length ≤ maxLen := fun x hx => by
          have hvp : kp.length = 3 := rfl
          rw [I.fs] at hx
          rcases List.mem_append.1 hx with hx | hx
          · obtain ⟨u, hu, hou⟩ := I.old.mem x hx
            have h1 := I.chain.lt I.pos u hu
            have h2 := Wl.name_length (p := kp) (n := u.1) (by omega)
            rw [hou.1, h2, hvp]; decide
          · obtain rfl := List.mem_singleton.1 hx
            have h2 := Wl.name_length (p := kp) (n := f) (by omega)
            show (Wl.name kp f).length ≤ _
            rw [h2, hvp]; decide
        have HSURE : Hid (∀ i, i < sureOf ch L.synced all.length → i < na ∧ i < all.length ∧ ∃ q, (cutAll ps)[i]? = some q ∧ all[i]? = some (i, q)) := Lib.hid (sure_ok hnn (by omega) hsy e4 e5)
        obtain ⟨hcf, hcd⟩ := crash_fs D
        have hre : D.crash.1.restart ch = (⟨(Dk.restartFs D.fs ch).1, -1, false⟩, 0) := by unfold Dk.D.restart; rw [if_pos hcd, hcf]
        obtain ⟨D2, hD2⟩ : ∃ D2 : Dk.D, D2 = ⟨(Dk.restartFs D.fs ch).1, -1, false⟩ := ⟨_, rfl⟩
        have hgood : Wl.Good kp D2.fs ∧ 0 < D2.fs.length ∧ D2.fs.length ≤ 100 := by rw [hD2]; exact ⟨hg1, hg2, by show (Dk.restartFs D.fs ch).1.length ≤ _; omega⟩
        have hup2 : D2.down = false ∧ D2.bud = -1 := by rw [hD2]; exact ⟨rfl, rfl⟩
        rw [← hD2] at hre e1
        have n7 := wl_Synced HS.out.l
        have n8 := dk_Crash HS.out.d
        obtain ⟨D1, hD1⟩ : ∃ D1, D1 = D.crash := ⟨_, rfl⟩
        rw [← hD1] at n8 hre hcf
        have HRE := Lib.hid hre
        have HCF := Lib.hid hcf
        have HE1 := Lib.hid e1
        have HGD := Lib.hid hgood
        have HUP := Lib.hid hup2
        have HFL := Lib.hid hfl
        have HNM := Lib.hid hnmx
        clear I hps' hln e1 e2 e4 e5 hg1 hg2 hg3 hcd hre hD2 hgood hup2 hcf hD1 hfl hnmx
        --@a
        go_wp2_with (go_at_call 23; refine n7.mono ?_; rintro e w7 ⟨rfl, rfl⟩)
        refine n8.mono ?_
        rintro e w8 ⟨c8, rfl, d8, h8⟩
        have K8 := HS.out.K.chg h8 (by decide)
        have HL8 := Lib.hid (HS.out.l.chg h8 (by decide))
        have hrow8 : w8.ownsRow 0 38 1 (.slice aa na ac) na rows := own_keep HS.out.row (fun b hb2 => h8.block b (HS.out.row.lt b hb2).2 (by rw [HS.out.col b hb2]; decide))
        have hcol8 : ∀ b, (Value.slice aa na ac).ownBlock = some b → c8 b = 5 := fun b hb2 => (h8.col b (HS.out.row.lt b hb2).2).trans (HS.out.col b hb2)
        have n9 := dk_Restart d8 _ ch (RdC.of_kn K8 HCH.out) (by omega) (by rw [HCF.out]; have := HFL.out; omega) (by rw [HCF.out]; exact HNM.out)
        rw [HRE.out] at n9
        clear n7 n8 d8
        --@b
        go_wp2_with fail
        refine n9.mono ?_
        rintro e w9 ⟨c9, rfl, d9, h9⟩
        have K9 := K8.chg h9 (by decide)
        have hrow9 : w9.ownsRow 0 38 1 (.slice aa na ac) na rows := own_keep hrow8 (fun b hb2 => h9.block b (hrow8.lt b hb2).2 (by rw [hcol8 b hb2]; decide))
        have hcol9 : ∀ b, (Value.slice aa na ac).ownBlock = some b → c9 b = 5 := fun b hb2 => (h9.col b (hrow8.lt b hb2).2).trans (hcol8 b hb2)
        have z0 := (K9.1.cell (p := ⟨g0, 0, none⟩) HY.out.2.2.2).trans HY.out.1
        have n10 := wl_Open_files (j := 4) d9 (by decide) (by decide) HUP.out.1 HUP.out.2 ⟨#[108, 111, 103]⟩ m (by decide) (by decide) (by have := HM.out; omega) (by have := HM.out; omega) HGD.out.1 HGD.out.2.1 HGD.out.2.2 _ rfl
        rw [show (⟨#[108, 111, 103]⟩ : ByteArray).data.toList = kp from rfl, HE1.out] at n10
        clear n9 d9 hrow8 hcol8 K8
        --@c
        go_wp2_with (go_at_call 18; refine (NS.out _).mono ?_; rintro e w ⟨rfl, rfl⟩)
        refine n10.mono ?_
        rintro e w10 ⟨h2, c10, ev, vs, rfl, d10, l10, o10, en10, hc10⟩
        have K10 := Lib.hid (K9.chg hc10 (by decide))
        have hrow10 : w10.ownsRow 0 38 1 (.slice aa na ac) na rows := own_keep hrow9 (fun b hb2 => hc10.block b (hrow9.lt b hb2).2 (by rw [hcol9 b hb2]; decide))
        have HROW := Lib.hid hrow10
        have HVAL := Lib.hid HS.out.vals
        have XN : Hid (∀ o, Below w10.heap.size w10 o → Calls Tryz.prog 22 #[.pointer (some ⟨h2, 0, none⟩)] o fun e W' => e = .returned (.int .i64 all.length) ∧ o = W') := Lib.hid (fun o ho => wl_Next (l10.below ho))
        have XS : Hid (∀ o, Below w10.heap.size w10 o → Calls Tryz.prog 23 #[.pointer (some ⟨h2, 0, none⟩)] o fun e W' => e = .returned (.int .i64 all.length) ∧ o = W') := Lib.hid (fun o ho => wl_Synced (l10.below ho))
        obtain ⟨⟨ea, ecap, rfl⟩, hev⟩ := own_formE o10
        have HEV := Lib.hid hev
        have HEN := Lib.hid en10
        have hlt : ¬ (all.length : Int) < (L.synced : Int) := by omega
        clear n10 d10 l10 o10 hev en10 hc10 K9 hrow9 hcol9 z0 hrow10 HRE HCF HE1 HGD HUP HFL HNM HS
        --@d
        go_upto_region 27 with (first
          | (go_at_call 22; refine (XN.out _ (Below.refl _ _)).mono ?_; rintro e wA ⟨rfl, rfl⟩)
          | (go_at_call 23; refine (XS.out _ (Below.refl _ _)).mono ?_; rintro e wA ⟨rfl, rfl⟩))
        have HCHB := Lib.hid (HCH.out.below (W' := w10) K10.out.1)
        have HW10 := Lib.hid K10.out.1
        clear XN XS hlt K10 NS HL8 HM
        have hdl : decide (all.length < L.synced) = false := by simp; omega
        rw [hdl]
        clear hdl
        go_cut [148] from 139 to 148 (fun v148 wx => v148 = .bool (decide (Dk.hd ch % 2 = 0)) ∧ wx = w10)
        case first =>
          cases ch with
          | nil =>
            have hz : ((([] : Dk.Bs).length : Nat) : Int) = 0 := rfl
            go_wp2_with fail
            go_meet
            case rel => exact ⟨rfl, rfl⟩
          | cons x r =>
            obtain ⟨cg, coff, rfl, -, hcg, hcc⟩ := du_head HCHB.out
            have hz : ¬ (((x :: r : Dk.Bs).length : Nat) : Int) = 0 := by simp only [List.length_cons]; omega
            have hpos : (0 : Int) < (((x :: r : Dk.Bs).length : Nat) : Int) := by simp only [List.length_cons]; omega
            obtain ⟨cl, hcl⟩ : ∃ cl, cl = (x :: r : Dk.Bs).length := ⟨_, rfl⟩
            have hb2 : (decide (Dk.hd (x :: r) % 2 = 0)) = decide ((x.toNat : Int) % 2 = 0) := by
              show decide (x.toNat % 2 = 0) = _
              by_cases h : x.toNat % 2 = 0
              · rw [decide_eq_true h, decide_eq_true (by omega)]
              · rw [decide_eq_false h, decide_eq_false (by omega)]
            have HBB := Lib.hid hb2
            have HCL := Lib.hid hcl
            have hx8 := x.toNat_lt
            rw [← hcl] at hz hpos ⊢
            clear hb2 hcl HCHB HCH
            go_wp2_with fail
            have hcl := HCL.out
            subst hcl
            go_meet
            case rel =>
              refine ⟨?_, rfl⟩
              have hz2 : ((((x :: r : Dk.Bs).length : Nat) : Int) == 0) = false := by rw [beq_eq_false_iff_ne]; simp only [List.length_cons]; omega
              rw [HBB.out, hz2, Bool.false_or]
              rfl
        case rest =>
          obtain ⟨rfl, hww⟩ := hcut
          have hww := hww.symm
          subst hww
          obtain ⟨s, hs⟩ : ∃ s, s = sureOf ch L.synced all.length := ⟨_, rfl⟩
          have HSS := Lib.hid hs
          have HSU : Hid (∀ i, i < s → i < na ∧ i < all.length ∧ ∃ q, (cutAll ps)[i]? = some q ∧ all[i]? = some (i, q)) := Lib.hid (by rw [hs]; exact HSURE.out)
          clear hs HSURE
          go_upto_if 148 with fail
          go_cut [20] from 148 to 150 (fun v20 wx => v20 = .int .i64 s ∧ wx = w10)
          case first =>
            by_cases hev : Dk.hd ch % 2 = 0
            · have hd1 : decide (Dk.hd ch % 2 = 0) = true := by simpa using hev
              have hse : s = all.length := by rw [HSS.out]; unfold sureOf; rw [if_pos hev]
              have HSE := Lib.hid hse
              rw [hd1]
              clear hd1 hse
              go_wp2_with fail
              go_meet
              case rel => exact ⟨by rw [HSE.out], rfl⟩
            · have hd1 : decide (Dk.hd ch % 2 = 0) = false := by simpa using hev
              have hse : s = L.synced := by rw [HSS.out]; unfold sureOf; rw [if_neg hev]
              have HSE := Lib.hid hse
              rw [hd1]
              clear hd1 hse
              go_wp2_with fail
              go_meet
              case rel => exact ⟨by rw [HSE.out], rfl⟩
          case rest =>
            obtain ⟨rfl, hww⟩ := hcut
            have hww := hww.symm
            subst hww
            clear HSS HCHB e3
            go_wp2_with fail
            go_loopw [21] (fun iv wr => ∃ i : Nat, iv = .int .i64 i ∧ i ≤ s ∧ Hid (Below w10.heap.size w10 wr)) (fun iv _ => s - (RowKit.intOf iv).toNat)
            case atStart => exact ⟨0, rfl, Nat.zero_le _, Lib.hid (Below.refl _ _)⟩
            case round =>
              obtain ⟨i, rfl, hi2, HBR⟩ := hrel
              by_cases hlt2 : i < s
              · obtain ⟨hina, hial, q, hqd, hall⟩ := HSU.out i hlt2
                obtain ⟨sb, cap, e8, hsb, hcl⟩ := HEV.out (by omega)
                injection e8 with e81 _ e83
                subst e81 e83
                obtain ⟨v, hv⟩ : ∃ v, vs[i]? = some v := ⟨_, List.getElem?_eq_getElem (by rw [HEN.out.1]; exact hial)⟩
                obtain ⟨hrd, -⟩ := HEN.out.2 i _ v hall hv
                obtain ⟨x0, x1⟩ := enCells_get _ vs i _ v hall hv
                have y0 := hcl _ _ x0
                have y1 := hcl _ _ x1
                obtain ⟨ab, acap, e9, hab, hacl⟩ := own_formT HROW.out (by omega)
                injection e9 with e91 _ e93
                subst e91 e93
                obtain ⟨u, hu⟩ : ∃ u, rows[i]? = some u := ⟨_, List.getElem?_eq_getElem (by rw [HVAL.out.1]; exact hina)⟩
                obtain ⟨q', hq', hru⟩ := HVAL.out.2 i u hu
                have hqq : q' = q := Option.some.inj (hq'.symm.trans hqd)
                rw [hqq] at hru
                have y2 := hacl i u hu
                have hrd2 : RdB w10 w10.heap.size v q := hrd
                obtain ⟨va, vc2, rfl⟩ := hrd2.form
                obtain ⟨ua, uc, rfl⟩ := hru.form
                have HRD := Lib.hid hrd2
                have HRU := Lib.hid hru
                have HZ := Lib.hid (And.intro (And.intro y0 y1) (And.intro y2 (And.intro hsb hab)))
                have i0 : ¬ (na : Int) ≤ (i : Int) := by omega
                have i1 : (0 : Int) ≤ (i : Int) := by omega
                have i2 : (i : Int) < (all.length : Int) := by omega
                have i3 : (i : Int) < (na : Int) := by omega
                clear hqd hall hcl hv hrd hrd2 x0 x1 y0 y1 y2 hsb hab hacl hu hq' hru hqq
                go_upto_region 34 with fail
                have z0 : wr.drew.cell? ⟨sb, i * 2, none⟩ = _ := (HBR.out.cell (p := ⟨sb, i * 2, none⟩) HZ.out.2.2.1).trans HZ.out.1.1
                have z1 : wr.drew.cell? ⟨sb, i * 2 + 1, none⟩ = _ := (HBR.out.cell (p := ⟨sb, i * 2 + 1, none⟩) HZ.out.2.2.1).trans HZ.out.1.2
                have z2 : wr.drew.cell? ⟨ab, i, none⟩ = _ := (HBR.out.cell (p := ⟨ab, i, none⟩) HZ.out.2.2.2).trans HZ.out.2.1
                have q1 := dk_conv (HRD.out.below HBR.out) wr.drew rfl
                have q2 := dk_conv (HRU.out.below (HW10.out.trans (HBR.out.mono HW10.out.size))) wr.drew rfl
                --@z
                refine wp_region_still_lit (by kernel_rfl) (by kernel_rfl) ?_
                change wpStill _ _ (World.drew _) _ _ _
                repeat still_step
                refine wpStill_nil ?_
                change Exit.then _ _ Exit.normal _ (World.drew wr)
                have b9 : Below w10.heap.size w10 wr.drew := HBR.out.drew
                clear z0 z1 z2 q1 q2
                generalize wr.drew = w9 at *
                go_wp2_with fail
                refine ⟨⟨i + 1, by go_num, by omega, Lib.hid b9⟩, by simp [RowKit.intOf] <;> omega⟩
              · obtain rfl : i = s := by omega
                go_wp2_with fail
                go_ret
                exact ⟨rfl, HB0.out.trans (((HW10.out.trans (HBR.out.mono HW10.out.size))).mono HB0.out.size)⟩

theorem law_durability (W : World) (v0 : Value) (ps : List Dk.Bs) (n0 n1 n2 : Nat) (v2 : Value) (ch : Dk.Bs) (hps : PiecesAt W v0 ps) (h0 : n0 < 256) (h1 : n1 < 256) (h2 : n2 < 256) (hch : RdB W W.heap.size v2 ch) :
    Calls Tryz.prog 6 #[v0, .agg #[.int .u8 n0, .int .u8 n1, .int .u8 n2], v2] W fun e W' => e = .returned (.bool true) ∧ Below W.heap.size W W' := law_dur W v0 v2 ps n0 n1 n2 ch hps h0 h1 h2 hch

end Go.Proofs.YtcbnbhlgikjbeaaGreatDoor
