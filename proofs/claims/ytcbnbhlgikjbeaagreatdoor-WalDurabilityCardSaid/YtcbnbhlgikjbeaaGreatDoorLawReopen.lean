/-
  WalReopen: the walk.
-/
import Derived.Test.YtcbnbhlgikjbeaaGreatDoorWlTrunc
import Derived.Test.YtcbnbhlgikjbeaaGreatDoorWlGood
import Derived.Test.YtcbnbhlgikjbeaaGreatDoorDkNil
namespace Go.Proofs.YtcbnbhlgikjbeaaGreatDoor
open Go.RowKit

/-- a slice of slices of bytes that is read -/
def PiecesAt (W : World) (v0 : Value) (ps : List Dk.Bs) : Prop := ∃ a0 cap, v0 = .slice a0 ps.length cap ∧ ps.length ≤ 9223372036854775807 ∧
  ∀ i p, ps[i]? = some p → ∃ g off pv, a0 = some ⟨g, off, none⟩ ∧ W.cell? ⟨g, off + i, none⟩ = some pv ∧ RdB W W.heap.size pv p

theorem RdC.of_kn {W Wk : World} {c : Nat → Nat} {v : Value} {l : Dk.Bs} (K : Kn W Wk c) (h : RdB W W.heap.size v l) : RdC c Wk v l := by
  refine ⟨(h.below K.1).mono K.1.size, fun hne g hg => ?_⟩
  rcases h with ⟨h, _⟩ | ⟨g', off, cap, rfl, _, hg', _⟩
  · exact absurd h hne
  · simp only [Value.ownBlock, Option.some.injEq] at hg
    subst hg
    exact K.2 _ hg'

theorem wl_segment (W : World) (n m : Nat) (hn : n < 256) (hm : m = 64 + 8 * n) : Calls Tryz.prog 18 #[.int .u8 n] W fun e W' => e = .returned (.int .i64 m) ∧ W = W' := by
  have h1 : (m : Int) = 64 + 8 * (n : Int) := by omega
  go_enter Tryz.func18, Tryz.ntmps18
  go_wp2_with fail
  go_ret
  exact ⟨by rw [h1] <;> go_num, rfl⟩

/-- after the first i entries -/
structure RpSt (W : World) (qs : List Wl.Bs) (sz i : Nat) (c : Nat → Nat) (w : World) (h g : Nat) (D : Dk.D) (L : Wl.L) : Prop where
  K : Kn W w c
  d : DiskAt 1 c w g D
  l : LogAt 3 c w h g L
  up : D.down = false
  bud : D.bud = -1
  inv : ∃ os fo f k g', Wl.Inv kp sz (qs.take i) D L 0 os fo f k g'
  pb : Wl.PB D i

theorem RpSt.keepW {W : World} {qs : List Wl.Bs} {sz i : Nat} {c : Nat → Nat} {w w' : World} {h g : Nat} {D : Dk.D} {L : Wl.L} (S : RpSt W qs sz i c w h g D L) (hb : Below w.heap.size w w') : RpSt W qs sz i c w' h g D L :=
  ⟨⟨S.K.1.trans (hb.mono S.K.1.size), S.K.2⟩, S.d.keepW hb, S.l.below hb, S.up, S.bud, S.inv, S.pb⟩
theorem sub_nat {n a l : Nat} (h : a ≤ n) (hl : l = n - a) : (n : Int) - (a : Int) = (l : Int) := by omega
theorem mod_nat {b n k : Nat} (hk : k = b % (n + 1)) : (b : Int) % ((n : Int) + 1) = (k : Int) := by rw [hk, Int.natCast_emod]; rfl

theorem RpSt.step {W : World} {qs : List Wl.Bs} {sz i : Nat} {c : Nat → Nat} {w : World} {h g : Nat} {D : Dk.D} {L : Wl.L} (S : RpSt W qs sz i c w h g D L) {q : Wl.Bs} (hq : qs[i]? = some q) (hqs : ∀ q ∈ qs, q.length ≤ 200) (hi : i < 20) (hsz : sz ≤ 1000000000) {bv : Value} (hb : RdB W W.heap.size bv q) :
    Calls Tryz.prog 19 #[.pointer (some ⟨h, 0, none⟩), bv] w fun e W' => e = .returned (.tuple #[.int .i64 i, .int .i64 0]) ∧ ∃ c' D' L', RpSt W qs sz (i + 1) c' W' h g D' L' := by
  obtain ⟨os, fo, f, k, g', I⟩ := S.inv
  have hps : ∀ q ∈ qs.take i, q.length ≤ 200 := fun q hq => hqs q (List.mem_of_mem_take hq)
  have hil : i < qs.length := (List.getElem?_eq_some_iff.1 hq).1
  have hlen : (qs.take i).length = i := by rw [List.length_take]; omega
  have hq2 := hqs q (List.mem_of_getElem? hq)
  have n1 := wl_Append S.d S.l (by decide) (by decide) S.up (by rw [S.bud]; decide) I hps (by omega) S.pb (by omega) hsz (RdC.of_kn S.K hb) (by omega)
  have htk : qs.take (i + 1) = qs.take i ++ [q] := by rw [List.take_add_one, hq]; rfl
  have hnx : L.next = i := by have := I.next; have := I.len; omega
  rcases I.append_any S.up q hq2 hps (by omega) with ⟨r1, r2, r3, os', fo', f', k', g2, I2⟩ | ⟨r1, _⟩
  · refine n1.mono ?_
    rintro e W' ⟨c', rfl, d2, l2, hc2⟩
    refine ⟨by rw [r1, hnx], c', _, _, ⟨S.K.chg2 hc2 (by decide) (by decide), d2, l2, r2, r3 S.bud, ⟨os', fo', f', k', g2, by rw [htk]; exact I2⟩, S.pb.append _ _⟩⟩
  · exact absurd S.bud r1

theorem own_formE {w : World} {B : Nat} {v : Value} {n : Nat} {xs : List Value} (h : w.ownsRow B 62 2 v n xs) : (∃ a cap, v = .slice a n cap) ∧ (0 < n → ∃ sb cap, v = .slice (some ⟨sb, 0, none⟩) n cap ∧ sb < w.heap.size ∧ ∀ k x, xs[k]? = some x → w.cell? ⟨sb, k, none⟩ = some x) := by
  obtain ⟨hl, ⟨rfl, h0⟩ | ⟨g, cap, cur, hv, hB, hh, hnc, hcap, hcur, htake⟩⟩ := h
  · subst h0
    exact ⟨⟨none, 0, rfl⟩, fun h => absurd h (by omega)⟩
  · refine ⟨⟨_, _, hv⟩, fun _ => ⟨g, cap, hv, (Array.getElem?_eq_some_iff.1 hh).1, fun k x hk => ?_⟩⟩
    have hk3 : k < xs.length := (List.getElem?_eq_some_iff.1 hk).1
    rw [← htake, List.getElem?_take_of_lt (by omega)] at hk
    rw [cell_of_row _ _ _ _ _ _ hh]
    simpa using hk
theorem enCells_get : ∀ (l : List (Nat × Wl.Bs)) (vs : List Value) (k : Nat) (x : Nat × Wl.Bs) (v : Value), l[k]? = some x → vs[k]? = some v → (enCells l vs)[k * 2]? = some (.int .i64 x.1) ∧ (enCells l vs)[k * 2 + 1]? = some v
  | [], _, k, x, v, h, _ => by simp at h
  | _ :: _, [], k, x, v, _, h => by simp at h
  | y :: l, u :: vs, 0, x, v, h1, h2 => by
    obtain rfl : y = x := by simpa using h1
    obtain rfl : u = v := by simpa using h2
    exact ⟨rfl, rfl⟩
  | y :: l, u :: vs, k + 1, x, v, h1, h2 => by
    have := enCells_get l vs k x v (by simpa using h1) (by simpa using h2)
    rw [show (k + 1) * 2 = k * 2 + 2 from by omega, show k * 2 + 2 + 1 = k * 2 + 1 + 2 from by omega]
    exact this

/-- the payloads as they are appended -/
def cutAll (ps : List Wl.Bs) : List Wl.Bs := ps.map fun p => p.take (min p.length 200)
theorem cutAll_get {ps : List Wl.Bs} {i : Nat} {p : Wl.Bs} (h : ps[i]? = some p) : (cutAll ps)[i]? = some (p.take (min p.length 200)) := by unfold cutAll; rw [List.getElem?_map, h]; rfl
theorem cutAll_len (ps : List Wl.Bs) : (cutAll ps).length = ps.length := by simp [cutAll]
theorem cutAll_le (ps : List Wl.Bs) : ∀ q ∈ cutAll ps, q.length ≤ 200 := by
  intro q hq
  obtain ⟨p, _, rfl⟩ := List.mem_map.1 hq
  rw [List.length_take]; omega

set_option maxRecDepth 100000 in
set_option maxHeartbeats 1000000 in
theorem law_reopen (W : World) (v0 : Value) (ps : List Dk.Bs) (sz be : Nat) (hps : PiecesAt W v0 ps) (hsz : sz < 256) (hbe : be < 256) :
    Calls Tryz.prog 4 #[v0, .int .u8 sz, .int .u8 be] W fun e W' => e = .returned (.bool true) ∧ Below W.heap.size W W' := by
  obtain ⟨a0, cap0, rfl, hpl, hp⟩ := hps
  have n0 := wl_known W
  have HP := Lib.hid hp
  clear hp
  go_enter Tryz.func4, Tryz.ntmps4
  go_wp2_with fail
  refine n0.mono ?_
  rintro e W1 ⟨rfl, b1⟩
  have B1 := Lib.hid b1
  clear n0 b1
  by_cases h20 : 20 < ps.length
  · have hI : (20 : Int) < (ps.length : Int) := by omega
    go_wp2_with fail
    go_ret
    exact ⟨rfl, B1.out⟩
  · have hI : ¬ (20 : Int) < (ps.length : Int) := by omega
    have n1 := dk_new W1 1 (fun _ => 0) (by decide)
    go_wp2_with fail
    refine n1.mono ?_
    rintro e W2 ⟨g, rfl, d2, b2⟩
    have K2 : Kn W W2 (pnt (fun _ => 0) W1.heap.size 1) := ⟨B1.out.trans (b2.mono B1.out.size), fun b hb => pnt_old (by have := B1.out.size; omega)⟩
    generalize pnt (fun _ => 0) W1.heap.size 1 = c2 at *
    obtain ⟨m, hm⟩ : ∃ m, m = 64 + 8 * sz := ⟨_, rfl⟩
    have n2 := wl_Open_new (j := 3) d2 (by decide) (by decide) ⟨#[108, 111, 103]⟩ m (by decide) (by decide) (by omega) (by omega)
    rw [show (⟨#[108, 111, 103]⟩ : ByteArray).data.toList = kp from rfl, (Wl.Inv.start (p := kp) (sz := m) (by decide)).1] at n2
    have HM := Lib.hid hm
    have NS : Hid (∀ o, Calls Tryz.prog 18 #[.int .u8 sz] o fun e W' => e = .returned (.int .i64 m) ∧ o = W') := Lib.hid (fun o => wl_segment o sz m hsz hm)
    clear n1 b2 d2 hm
    go_wp2_with (go_at_call 18; refine (NS.out _).mono ?_; rintro e w ⟨rfl, rfl⟩)
    refine n2.mono ?_
    rintro e W3 ⟨h, c3, rfl, d3, l3, h3⟩
    have hqs := cutAll_le ps
    have hql := cutAll_len ps
    have HS0 : Hid (RpSt W (cutAll ps) m 0 c3 W3 h g _ _) := Lib.hid ⟨K2.chg h3 (by decide), d3, l3, rfl, rfl, ⟨[], [], 0, 0, _, by rw [List.take_zero]; exact (Wl.Inv.start (p := kp) (sz := m) (by decide)).2⟩, fun x hx => by simp at hx; subst hx; simp⟩
    have HQS := Lib.hid hqs
    have HQL := Lib.hid hql
    clear n2 d3 l3 h3 K2 hqs hql
    go_wp2_with fail
    go_loopw [11] (fun iv wr => ∃ (i : Nat) (c : Nat → Nat) (D : Dk.D) (L : Wl.L), iv = .int .i64 i ∧ i ≤ ps.length ∧ Hid (RpSt W (cutAll ps) m i c wr h g D L)) (fun iv _ => ps.length - (RowKit.intOf iv).toNat)
    case atStart => exact ⟨0, _, _, _, rfl, Nat.zero_le _, HS0⟩
    case round =>
      obtain ⟨i, c, D, L, rfl, hi, HS⟩ := hrel
      by_cases hlt : i < ps.length
      · obtain ⟨p, hpd⟩ : ∃ p, ps[i]? = some p := ⟨_, List.getElem?_eq_getElem hlt⟩
        obtain ⟨pg, poff, pv, rfl, hpc, hpr⟩ := HP.out i p hpd
        obtain ⟨pa, pc, rfl, hpcap, htk⟩ := hpr.form4
        obtain ⟨k, hk⟩ : ∃ k : Nat, k = min p.length 200 := ⟨_, rfl⟩
        have hkI : min (p.length : Int) 200 = (k : Int) := by omega
        have hkc : (k : Int) ≤ (pc : Int) := by omega
        have hpg := World.block_lt_of_cell? W _ hpc
        have p0 := (HS.out.K.1.cell (p := ⟨pg, poff + i, none⟩) hpg).trans hpc
        have hrp := htk _ (Nat.min_le_left p.length 200)
        rw [← hk] at hrp
        have n3 : Hid (∀ o, Below wr.heap.size wr o → Calls Tryz.prog 19 #[.pointer (some ⟨h, 0, none⟩), .slice pa k pc] o fun e W' => e = .returned (.tuple #[.int .i64 i, .int .i64 0]) ∧ ∃ c' D' L', RpSt W (cutAll ps) m (i + 1) c' W' h g D' L') :=
          Lib.hid (fun o ho => (HS.out.keepW ho).step (q := p.take k) (by rw [hk]; exact cutAll_get hpd) HQS.out (by omega) (by have := HM.out; omega) hrp)
        have HPC := Lib.hid hpc
        have HPG := Lib.hid hpg
        clear hpc hpr htk hk hpd hpg hrp
        go_upto_region 12 with fail
        go_region_held3 (fun w' => w'.cell? ⟨pg, poff + i, none⟩ = some (.slice pa p.length pc))
          (first | assumption | go_keep)
          (first | (go_at_call 19; refine (n3.out _ (by first | exact Below.refl _ _ | exact (Below.refl _ _).drew)).mono ?_; rintro e W4 ⟨rfl, c4, D4, L4, S4⟩; have hS4 : W4.cell? ⟨pg, poff + i, none⟩ = some (.slice pa p.length pc) := (S4.K.1.cell (p := ⟨pg, poff + i, none⟩) HPG.out).trans HPC.out))
        have HS4 := Lib.hid S4
        clear n3 S4 p0 hS4
        go_wp2_with fail
        refine ⟨⟨i + 1, c4, D4, L4, by go_num, by omega, HS4⟩, by simp [RowKit.intOf] <;> omega⟩
      · obtain rfl : i = ps.length := by omega
        obtain ⟨os, fo, f, k, gf, I⟩ := HS.out.inv
        rw [List.take_of_length_le (by rw [HQL.out]; exact Nat.le_refl _)] at I
        obtain ⟨b, hb⟩ : ∃ b, b = be % (ps.length + 1) := ⟨_, rfl⟩
        have hbI : (be : Int) % ((ps.length : Int) + 1) = (b : Int) := mod_nat hb
        have hbT : (be : Int).tmod ((ps.length : Int) + 1) = (b : Int) := by rw [Int.tmod_eq_emod_of_nonneg (by omega)]; exact hbI
        have hbl : b ≤ ps.length := by have := Nat.mod_lt be (show 0 < ps.length + 1 by omega); omega
        have n4 := wl_Truncate HS.out.d HS.out.l (by decide) (by decide) HS.out.up HS.out.bud I (by rw [HQL.out]; omega) b (by rw [HQL.out]; exact hbl)
        clear hb I
        go_wp2_with fail
        refine n4.mono ?_
        rintro e W4 ⟨rfl, c4, D4, L4, a4, os4, fo4, I4, up4, bud4, ha4, d4, l4, h4⟩
        have K4 := Lib.hid (HS.out.K.chg2 h4 (by decide) (by decide))
        obtain ⟨t, r, hsg, ht1, ht2, hln⟩ := I4.head
        have hal : a4 ≤ b := ha4 (Nat.zero_le _)
        have hle : ¬ (b : Int) < (a4 : Int) := by omega
        have hsl : L4.segs.length ≤ 1000000 := by
          have := I4.chain.len I4.pos
          have := I4.len
          rw [HQL.out] at this
          omega
        have FA : Hid (∀ o, Below W4.heap.size W4 o → Calls Tryz.prog 21 #[.pointer (some ⟨h, 0, none⟩)] o fun e W' => e = .returned (.int .i64 a4) ∧ Below W4.heap.size W4 W') :=
          Lib.hid (fun o ho => (wl_First (l4.below ho) t r hsg hsl).mono (fun e w ⟨he, hb⟩ => ⟨by rw [he, ht1], ho.trans (hb.mono ho.size)⟩))
        have HD4 := Lib.hid d4
        have HL4 := Lib.hid l4
        have HI4 := Lib.hid I4
        have HU4 := Lib.hid (And.intro up4 bud4)
        have HSG := Lib.hid hsg
        have HT1 := Lib.hid ht1
        clear n4 h4 d4 l4 I4 up4 bud4 ha4 hsg ht1 ht2 hln HS HS0
        --@1
        go_wp2_with (first
          | (go_at_call 21; refine (FA.out _ (Below.refl _ _)).mono ?_; rintro e W5 ⟨rfl, b5⟩)
          | (go_at_call 18; refine (NS.out _).mono ?_; rintro e w ⟨rfl, rfl⟩))
        --@2
        have hre := (HI4.out.reopen HU4.out.1 HU4.out.2 HQS.out (by rw [HQL.out]; omega)).1
        have hfk : f + k = ps.length := by have := HI4.out.len; rw [HQL.out] at this; omega
        rw [hfk] at hre
        have n6 := wl_Open_files (j := 4) (HD4.out.keepW b5) (by decide) (by decide) HU4.out.1 HU4.out.2 ⟨#[108, 111, 103]⟩ m (by decide) (by decide) (by have := HM.out; omega) (by have := HM.out; omega) (HI4.out.good HQS.out (by rw [HQL.out]; omega)) HI4.out.files.1 (by have := HI4.out.files.2; omega) _ rfl
        rw [show (⟨#[108, 111, 103]⟩ : ByteArray).data.toList = kp from rfl, hre] at n6
        have hal2 : a4 ≤ ps.length := by omega
        obtain ⟨nl, hnl⟩ : ∃ nl, nl = ps.length - a4 := ⟨_, rfl⟩
        have hel : (Wl.ents a4 ((cutAll ps).drop a4)).length = nl := by rw [Wl.ents_length, List.length_drop, HQL.out, hnl]
        simp only [hel] at n6
        refine n6.mono ?_
        rintro e W6 ⟨h2, c6, ev, vs, rfl, d6, l6, o6, en6, h6⟩
        obtain ⟨⟨ea, ecap, rfl⟩, hev⟩ := own_formE o6
        have hls : L4.segs = os4 ++ [(f, k)] := HI4.out.segs
        have K6 := Lib.hid ((K4.out.1.trans (b5.mono K4.out.1.size)).trans (Below.refl _ _))
        have K6c : Hid (Kn W W6 c6) := Lib.hid (Kn.chg (i := 1) ⟨K4.out.1.trans (b5.mono K4.out.1.size), K4.out.2⟩ h6 (by decide))
        have FA6 : Hid (∀ o, Below W6.heap.size W6 o → Calls Tryz.prog 21 #[.pointer (some ⟨h, 0, none⟩)] o fun e W' => e = .returned (.int .i64 a4) ∧ Below W6.heap.size W6 W') :=
          Lib.hid (fun o ho => (wl_First (((HL4.out.below b5).chg h6 (by decide)).below ho) t r HSG.out hsl).mono (fun e w ⟨he, hb⟩ => ⟨by rw [he, HT1.out], ho.trans (hb.mono ho.size)⟩))
        have FB6 : Hid (∀ o, Below W6.heap.size W6 o → Calls Tryz.prog 21 #[.pointer (some ⟨h2, 0, none⟩)] o fun e W' => e = .returned (.int .i64 a4) ∧ Below W6.heap.size W6 W') :=
          Lib.hid (fun o ho => (wl_First (l6.below ho) t r (by show os4 ++ [(f, k)] = _; rw [← hls]; exact HSG.out) (by show (os4 ++ [(f, k)]).length ≤ _; rw [← hls]; exact hsl)).mono (fun e w ⟨he, hb⟩ => ⟨by rw [he, HT1.out], ho.trans (hb.mono ho.size)⟩))
        have XN : Hid (∀ o, Below W6.heap.size W6 o → Calls Tryz.prog 22 #[.pointer (some ⟨h2, 0, none⟩)] o fun e W' => e = .returned (.int .i64 ps.length) ∧ o = W') := Lib.hid (fun o ho => wl_Next (l6.below ho))
        have XS : Hid (∀ o, Below W6.heap.size W6 o → Calls Tryz.prog 23 #[.pointer (some ⟨h2, 0, none⟩)] o fun e W' => e = .returned (.int .i64 ps.length) ∧ o = W') := Lib.hid (fun o ho => wl_Synced (l6.below ho))
        have HEV := Lib.hid hev
        have HEN := Lib.hid en6
        have hsub := sub_nat hal2 hnl
        have HNL := Lib.hid hnl
        have HEL := Lib.hid hel
        have HB6 : Hid (Below W6.heap.size W6 W6) := Lib.hid (Below.refl _ _)
        clear n6 d6 l6 o6 en6 h6 hev b5 hre hnl hel hls hsl
        have FAB : Hid (∀ hh, (hh = h ∨ hh = h2) → ∀ o, Below W6.heap.size W6 o → Calls Tryz.prog 21 #[.pointer (some ⟨hh, 0, none⟩)] o fun e W' => e = .returned (.int .i64 a4) ∧ Below W6.heap.size W6 W') :=
          Lib.hid (fun hh hor o ho => hor.elim (fun e => by rw [e]; exact FA6.out o ho) (fun e => by rw [e]; exact FB6.out o ho))
        --@3
        go_wp2_with (first
          | (go_at_call 21; refine (FAB.out _ (by first | exact Or.inl rfl | exact Or.inr rfl) _ (by first | exact Below.refl _ _ | assumption)).mono ?_; rintro e w9 ⟨rfl, b9⟩)
          | (go_at_call 22; refine (XN.out _ (by assumption)).mono ?_; rintro e wA ⟨rfl, rfl⟩)
          | (go_at_call 23; refine (XS.out _ (by assumption)).mono ?_; rintro e wA ⟨rfl, rfl⟩))
        --@4
        have HW6 := Lib.hid K6c.out.1
        clear K6 K6c FB6 XN XS FAB FA HD4 HL4 HI4 HU4 HSG HT1 hbI hbT hle hsub K4 NS HM
        go_loopw [18] (fun iv wr => ∃ i : Nat, iv = .int .i64 i ∧ i ≤ nl ∧ Hid (Below W6.heap.size W6 wr)) (fun iv _ => nl - (RowKit.intOf iv).toNat)
        case atStart => exact ⟨0, rfl, Nat.zero_le _, Lib.hid b9⟩
        case round =>
          obtain ⟨i, rfl, hi2, HBR⟩ := hrel
          clear b9
          by_cases hlt2 : i < nl
          · obtain ⟨sb, cap, e8, hsb, hcl⟩ := HEV.out (by omega)
            injection e8 with e81 _ e83
            subst e81 e83
            obtain ⟨x, hx⟩ : ∃ x, x = a4 + i := ⟨_, rfl⟩
            have hxI : (a4 : Int) + (i : Int) = (x : Int) := by rw [hx]; rfl
            have hxl : x < ps.length := by have := HNL.out; omega
            obtain ⟨p, hpd⟩ : ∃ p, ps[x]? = some p := ⟨_, List.getElem?_eq_getElem hxl⟩
            have hent : (Wl.ents a4 ((cutAll ps).drop a4))[i]? = some (x, p.take (min p.length 200)) := by rw [Wl.ents_get, List.getElem?_drop, ← hx, cutAll_get hpd]; rfl
            obtain ⟨v, hv⟩ : ∃ v, vs[i]? = some v := ⟨_, List.getElem?_eq_getElem (by rw [HEN.out.1, HEL.out]; exact hlt2)⟩
            obtain ⟨hrd, -⟩ := HEN.out.2 i _ v hent hv
            obtain ⟨c0, c1⟩ := enCells_get _ vs i _ v hent hv
            have y0 := hcl _ _ c0
            have y1 := hcl _ _ c1
            obtain ⟨pg, poff, pv, rfl, hpc, hpr⟩ := HP.out x p hpd
            obtain ⟨pa, pc, rfl, hpcap, htk⟩ := hpr.form4
            have hpg := World.block_lt_of_cell? W _ hpc
            obtain ⟨k2, hk⟩ : ∃ k : Nat, k = min p.length 200 := ⟨_, rfl⟩
            have hkI : min (p.length : Int) 200 = (k2 : Int) := by rw [hk]; omega
            have hkc : (k2 : Int) ≤ (pc : Int) := by omega
            have hrp := htk _ (Nat.min_le_left p.length 200)
            simp only [← hk] at hrp hrd y0 y1
            obtain ⟨q, hq⟩ : ∃ q, q = p.take k2 := ⟨_, rfl⟩
            rw [← hq] at hrp hrd
            clear hq
            obtain ⟨va, vc, rfl⟩ := hrd.form
            have HRP := Lib.hid hrp
            have HRD := Lib.hid hrd
            have HY := Lib.hid (And.intro (And.intro y0 y1) (And.intro hpc (And.intro hsb hpg)))
            clear hx hpd hent hv hrd c0 c1 y0 y1 hpc hpr htk hpg hk hrp hcl hsb
            go_upto_region 25 with (first | (go_at_call 21; refine (FA6.out _ HBR.out).mono ?_; rintro e w8 ⟨rfl, b8⟩))
            have bw := HW6.out.trans (b8.mono HW6.out.size)
            have z0 : w8.drew.cell? ⟨sb, i * 2, none⟩ = _ := (b8.cell (p := ⟨sb, i * 2, none⟩) HY.out.2.2.1).trans HY.out.1.1
            have z1 : w8.drew.cell? ⟨sb, i * 2 + 1, none⟩ = _ := (b8.cell (p := ⟨sb, i * 2 + 1, none⟩) HY.out.2.2.1).trans HY.out.1.2
            have z2 : w8.drew.cell? ⟨pg, poff + x, none⟩ = _ := (bw.cell (p := ⟨pg, poff + x, none⟩) HY.out.2.2.2).trans HY.out.2.1
            have q1 := dk_conv (HRD.out.below b8) w8.drew rfl
            have q2 := dk_conv (HRP.out.below bw) w8.drew rfl
            --@5
            have i1 : (0 : Int) ≤ (i : Int) := by omega
            have i2 : (i : Int) < (nl : Int) := by omega
            have i3 : (0 : Int) ≤ (x : Int) := by omega
            have i4 : (x : Int) < (ps.length : Int) := by omega
            have i5 : (0 : Int) ≤ (k2 : Int) := by omega
            refine wp_region_still_lit (by kernel_rfl) (by kernel_rfl) ?_
            change wpStill _ _ (World.drew _) _ _ _
            repeat still_step
            refine wpStill_nil ?_
            change Exit.then _ _ Exit.normal _ (World.drew w8)
            have b9 : Below W6.heap.size W6 w8.drew := b8.drew
            generalize w8.drew = w9 at *
            go_wp2_with fail
            refine ⟨⟨i + 1, by go_num, by omega, Lib.hid b9⟩, by simp [RowKit.intOf] <;> omega⟩
          · obtain rfl : i = nl := by omega
            go_wp2_with fail
            go_ret
            exact ⟨rfl, HW6.out.trans (HBR.out.mono HW6.out.size)⟩

end Go.Proofs.YtcbnbhlgikjbeaaGreatDoor
