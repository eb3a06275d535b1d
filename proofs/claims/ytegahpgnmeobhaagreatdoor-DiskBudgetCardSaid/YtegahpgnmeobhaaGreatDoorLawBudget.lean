/-
  DiskBudget: the walk.
-/
import Derived.Test.YtegahpgnmeobhaaGreatDoorLawRestart
import Derived.Test.YtegahpgnmeobhaaGreatDoorBudPlain
import Derived.Test.YtegahpgnmeobhaaGreatDoorDkEq2
namespace Go.Proofs.YtegahpgnmeobhaaGreatDoor
open Go.RowKit

/-- the disk of the law behind some operations -/
structure BdSt (W : World) (k : Nat) (left : Nat) (c : Nat → Nat) (w : World) (g : Nat) (D : Dk.D) : Prop where
  disk : DiskAt 1 c w g D
  good : Dk.Good k D
  kn : Kn W w c
  bud : D.bud = left

theorem RdB.back {W w : World} {v : Value} {l : Dk.Bs} (h : RdB w W.heap.size v l) (hb : Below W.heap.size W w) : RdB W W.heap.size v l := by
  rcases h with h | ⟨g, off, cap, hv, hc, hg, _, hx⟩
  · exact .inl h
  · exact .inr ⟨g, off, cap, hv, hc, hg, hg, fun j c hj => (hb.cell (p := ⟨g, off + j, none⟩) hg).symm.trans (hx j c hj)⟩
theorem RdC.of_kn0 {W Wk : World} {c : Nat → Nat} {v : Value} {l : Dk.Bs} (K : Kn W Wk c) (h : RdB W W.heap.size v l) : RdC c Wk v l :=
  RdC.of_kn' K (h.below K.1)

/-- a box of colour 7 that is kept -/
structure Bx (W : World) (gb : Nat) (cs : Array Value) (t : TypeId) (c : Nat → Nat) (w : World) : Prop where
  kn : Kn W w c
  row : w.heap[gb]? = some (.cells cs t (0, 0))
  col : c gb = 7
theorem Bx.chg {W w w' : World} {gb m : Nat} {cs : Array Value} {t : TypeId} {c c' : Nat → Nat} (h : Bx W gb cs t c w) (hc : Chg m c c' w w') (h0 : m ≠ 0) (h7 : m ≠ 7) : Bx W gb cs t c' w' :=
  ⟨h.kn.chg hc h0, (hc.block gb (Array.getElem?_eq_some_iff.1 h.row).1 (by rw [h.col]; exact Ne.symm h7)).trans h.row, (hc.col gb (Array.getElem?_eq_some_iff.1 h.row).1).trans h.col⟩

theorem wrap_small2 (n : Nat) (h : n < 256) : IntKind.i64.wrap (n : Int) = n := by
  unfold IntKind.wrap
  simp [IntKind.signed, IntKind.bits]
  omega

set_option maxRecDepth 100000 in
set_option maxHeartbeats 4000000 in
theorem law_budget (W : World) (v0 : Value) (l : List Dk.Raw) (n : Nat) (hl : OpsAt W v0 l) (hn : n < 256) :
    Calls Tryz.prog 8 #[v0, .int .u8 n] W fun e W' => e = .returned (.bool true) ∧ Below W.heap.size W W' := by
  obtain ⟨a0, cap0, rfl, hpl, hp⟩ := hl
  have n0 := dk_new W 1 (fun _ => 0) (by decide)
  have HP := Lib.hid hp
  clear hp
  go_enter Tryz.func8, Tryz.ntmps8
  go_wp2_with fail
  refine n0.mono ?_
  rintro e W1 ⟨g, rfl, d1, b1⟩
  have K1 : Kn W W1 (pnt (fun _ => 0) W.heap.size 1) := ⟨b1, fun b hb => pnt_old hb⟩
  generalize pnt (fun _ => 0) W.heap.size 1 = c1 at *
  clear n0 b1
  obtain ⟨m, hm⟩ : ∃ m, m = n % 12 := ⟨_, rfl⟩
  have n1 := dk_SetBudget d1 (m : Int)
  have hsb : Dk.D.setBudget ⟨[], -1, false⟩ (m : Int) = (⟨[], (m : Int), false⟩, 0) := by unfold Dk.D.setBudget; rw [if_neg (by simp), if_neg (by omega)]
  rw [hsb] at n1
  have i12 : ((n : Int) % 12) = (m : Int) := by omega
  have hm12 : m < 12 := by omega
  clear hsb hm
  go_wp2_with fail
  refine n1.mono ?_
  rintro e W2 ⟨c2, rfl, d2, h2⟩
  have HS2 : Hid (BdSt W 0 m c2 W2 g ⟨[], (m : Int), false⟩) := Lib.hid ⟨d2, ⟨by show (m : Int) ≤ _; omega, Nat.le_refl _, fun p hp => (by cases hp), fun p hp => (by cases hp)⟩, K1.chg h2 (by decide), rfl⟩
  clear n1 d2 h2 K1 d1
  go_wp2_with fail
  go_loopw [6, 7] (fun lv iv wr => ∃ (i left : Nat) (c : Nat → Nat) (D : Dk.D), iv = .int .i64 i ∧ lv = .int .i64 left ∧ left < 12 ∧ i ≤ l.length ∧ i ≤ 40 ∧ Hid (BdSt W i left c wr g D)) (fun _ iv _ => l.length - (RowKit.intOf iv).toNat)
  case atStart => exact ⟨0, m, c2, _, rfl, rfl, hm12, Nat.zero_le _, by decide, HS2⟩
  case round =>
    obtain ⟨i, left, c, D, rfl, rfl, hleft, hi, hi40, HS⟩ := hrel
    clear i12 hm12 hn
    by_cases hlt : i < l.length ∧ i < 40
    · obtain ⟨h1, h2⟩ := hlt
      obtain ⟨r, hrd⟩ : ∃ r, r = l[i] := ⟨_, rfl⟩
      obtain ⟨pg, poff, bv, rfl, hpg, hoc, hro, hrb⟩ := HP.out i r (by rw [hrd]; exact List.getElem?_eq_getElem h1)
      obtain ⟨p0, p1, p2, p3, p4⟩ := hoc.below HS.out.kn.1 hpg
      obtain ⟨ba, bc, rfl⟩ := hrb.form
      have n3 := dk_small wr r hro.k1 hro.k2 _ W.heap.size (hrb.below HS.out.kn.1)
      have HRO := Lib.hid hro
      unfold rawVal at n3
      clear hrb hoc hrd hro
      go_wp2_with fail
      refine n3.mono ?_
      rintro e w3 ⟨bv, rfl, hbv, b3⟩
      obtain ⟨ba, bc, rfl⟩ := hbv.form
      have hlen : (r.b.take 1500).length = min 1500 r.b.length := List.length_take
      rw [hlen] at hbv ⊢
      clear n3 p0 p1 p2 p3 p4 hlen
      unfold opVal
      obtain ⟨o4, ho4⟩ : ∃ o4 : Obj, o4 = .cells #[.int .i64 (Dk.small r).kind, .string (Dk.small r).name, .string (Dk.small r).to, .int .i64 (Dk.small r).n, .slice ba (min 1500 r.b.length) bc] 54 := ⟨_, rfl⟩
      have bA : Below w3.heap.size w3 (w3.alloc o4) := (Below.refl _ _).alloc (Nat.le_refl _) _
      have b4 := b3.trans (bA.mono b3.size)
      have HBV := Lib.hid (((hbv.below (b3.mono HS.out.kn.1.size)).below (bA.mono (Nat.le_trans HS.out.kn.1.size b3.size))))
      have hgb := heap_alloc_new w3 o4
      rw [ho4] at b4 HBV hgb
      have d4 := HS.out.disk.chg (Chg.of_below (i := 3) b4 7) (by decide) (by decide)
      have k4 := HS.out.kn.chg (Chg.of_below (i := 3) b4 7) (by decide)
      have colb : pnt c wr.heap.size 7 w3.heap.size = 7 := pnt_new b3.size
      have HG := Lib.hid HS.out.good
      have HBUD := Lib.hid HS.out.bud
      generalize pnt c wr.heap.size 7 = c4 at *
      have HD4 := Lib.hid d4
      have HK4 := Lib.hid k4
      obtain ⟨gb, hgbe⟩ : ∃ gb, gb = w3.heap.size := ⟨_, rfl⟩
      have HGE := Lib.hid hgbe
      rw [← hgbe] at hgb colb
      have HBX : Hid (Bx W gb _ _ c4 _) := Lib.hid ⟨k4, hgb, colb⟩
      have HOP := Lib.hid (HBV.out.back k4.1)
      have HSZ := Lib.hid (Dk.small_kind r)
      by_cases hk6 : (Dk.small r).kind ≤ 6
      · have hk6I : ¬ (6 : Int) < ((Dk.small r).kind : Int) := by omega
        have nC := dk_Clone HD4.out 3 (by decide) (by decide) (by have := HG.out.many; omega)
        clear hbv b3 bA b4 ho4 d4 k4 hgbe hgb HBV HK4 HS
        go_wp2_with fail
        rw [← HGE.out]
        generalize w3.alloc (.cells #[.int .i64 (Dk.small r).kind, .string (Dk.small r).name, .string (Dk.small r).to, .int .i64 (Dk.small r).n, .slice ba (min 1500 r.b.length) bc] 54) = w4 at *
        refine nC.mono ?_
        rintro e w5 ⟨gf, c5, rfl, df, b5, cols5⟩
        have hc5 : ∀ m, Chg m c4 c5 w4 w5 := fun m => Chg.of_below' b5 cols5
        have d5 := HD4.out.chg (hc5 9) (by decide) (by decide)
        have HBX5 := Lib.hid (HBX.out.chg (hc5 9) (by decide) (by decide))
        have nD := dk_Down d5
        have HD5 := Lib.hid d5
        have HF5 := Lib.hid df
        clear nC b5 cols5 hc5 d5 df HD4 HBX
        go_wp2_with fail
        refine nD.mono ?_
        rintro e w5' ⟨rfl, rfl⟩
        clear nD
        have hfit := HG.out.fits (by omega)
        obtain ⟨x0, x1, x2, x3, x4⟩ := row_cells5 HBX5.out.row
        cases hdn : D.down with
        | true =>
          have nO := dk_Do HD5.out hfit (Dk.small r) (Dk.small_kind r) HRO.out.name HRO.out.tn (.slice ba (min 1500 r.b.length) bc) (RdC.of_kn0 HBX5.out.kn HOP.out) (Dk.small_b r)
          rw [Dk.act_down D _ hdn hk6] at nO
          unfold opVal at nO
          clear hfit
          go_wp2_with fail
          refine nO.mono ?_
          rintro e w6 ⟨c6, rfl, d6, h6⟩
          have HBX6 := Lib.hid (HBX5.out.chg h6 (by decide) (by decide))
          have nB := dk_Budget d6
          have hbz : D.budget = 0 := by unfold Dk.D.budget; rw [if_pos hdn]
          rw [hbz] at nB
          have HD6 := Lib.hid d6
          clear nO h6 d6 hbz HD5 HF5 HBX5
          go_wp2_with fail
          refine nB.mono ?_
          rintro e w6' ⟨rfl, rfl⟩
          clear nB
          go_wp2_with fail
          exact ⟨⟨i + 1, left, c6, D, by go_num, rfl, hleft, by omega, by omega, Lib.hid ⟨HD6.out, HG.out.mono (Nat.le_succ _), HBX6.out.kn, HBUD.out⟩⟩, by simp [RowKit.intOf]; omega⟩
        | false =>
          obtain ⟨fs, bud, dn⟩ := D
          have hbud : bud = (left : Int) := HBUD.out
          have hdn2 : dn = false := hdn
          subst hbud hdn2
          have gfr : Dk.Good i (⟨fs, -1, false⟩ : Dk.D) := ⟨by show (-1 : Int) ≤ _; decide, HG.out.many, HG.out.names, HG.out.pend⟩
          have nS := dk_SetBudget HF5.out (-1)
          have hsb : Dk.D.setBudget ⟨fs, (left : Int), false⟩ (-1) = (⟨fs, -1, false⟩, 0) := by unfold Dk.D.setBudget; rw [if_neg (by simp), if_neg (by decide)]
          rw [hsb] at nS
          have HGF := Lib.hid gfr
          clear hsb hdn HBUD gfr x0 x1 x2 x3 x4 hfit
          go_wp2_with fail
          refine nS.mono ?_
          rintro e w6 ⟨c6, rfl, f6, h6⟩
          have HBX6 := Lib.hid (HBX5.out.chg h6 (by decide) (by decide))
          have HD6 := Lib.hid (HD5.out.chg h6 (by decide) (by decide))
          have HF6 := Lib.hid f6
          have nC2 := dk_Clone f6 5 (by decide) (by decide) (by show fs.length ≤ _; have h := HGF.out.many; have h2 : fs.length ≤ i := h; omega)
          clear nS h6 f6 HBX5 HD5 HF5
          go_wp2_with fail
          refine nC2.mono ?_
          rintro e w7 ⟨gwas, c7, rfl, dw, b7, cols7⟩
          have hc7 : ∀ m, Chg m c6 c7 w6 w7 := fun m => Chg.of_below' b7 cols7
          have HBX7 := Lib.hid (HBX6.out.chg (hc7 9) (by decide) (by decide))
          have HD7 := Lib.hid (HD6.out.chg (hc7 9) (by decide) (by decide))
          have HF7 := Lib.hid (HF6.out.chg (hc7 9) (by decide) (by decide))
          have HW7 := Lib.hid dw
          have nO := dk_Do HF7.out (HGF.out.fits (by omega)) (Dk.small r) (Dk.small_kind r) HRO.out.name HRO.out.tn (.slice ba (min 1500 r.b.length) bc) (RdC.of_kn0 HBX7.out.kn HOP.out) (Dk.small_b r)
          unfold opVal at nO
          obtain ⟨x0, x1, x2, x3, x4⟩ := row_cells5 HBX7.out.row
          clear nC2 b7 cols7 hc7 dw HBX6 HD6 HF6
          go_wp2_with fail
          refine nO.mono ?_
          rintro e w8 ⟨c8, rfl, f8, h8⟩
          have HBX8 := Lib.hid (HBX7.out.chg h8 (by decide) (by decide))
          have HD8 := Lib.hid (HD7.out.chg h8 (by decide) (by decide))
          have HW8 := Lib.hid (HW7.out.chg h8 (by decide) (by decide))
          have nO2 := dk_Do HD8.out (HG.out.fits (by omega)) (Dk.small r) (Dk.small_kind r) HRO.out.name HRO.out.tn (.slice ba (min 1500 r.b.length) bc) (RdC.of_kn0 HBX8.out.kn HOP.out) (Dk.small_b r)
          unfold opVal at nO2
          obtain ⟨x0, x1, x2, x3, x4⟩ := row_cells5 HBX8.out.row
          clear nO f8 h8 HBX7 HD7 HF7 HW7
          go_wp2_with fail
          refine nO2.mono ?_
          rintro e w9 ⟨c9, rfl, d9, h9⟩
          have HBX9 := Lib.hid (HBX8.out.chg h9 (by decide) (by decide))
          have HW9 := Lib.hid (HW8.out.chg h9 (by decide) (by decide))
          have HG9 := Lib.hid (HG.out.act (Dk.small r) (Dk.small_n r HRO.out.n2))
          have HD9 := Lib.hid d9
          obtain ⟨x0, x1, x2, x3, x4⟩ := row_cells5 HBX9.out.row
          clear nO2 h9 HBX8 HD8 HW8 d9
          rcases Dk.act_split fs (Dk.small r) hk6 with ⟨er, ha, hid⟩ | ⟨fs', ha, hid⟩
          · have e1 := ha (-1)
            have e2 := ha (left : Int)
            rw [e2] at HD9 HG9
            rw [e1, e2]
            have nB := dk_Budget HD9.out
            have hbz : Dk.D.budget ⟨fs, (left : Int), false⟩ = (left : Int) := by unfold Dk.D.budget; rw [if_neg (by simp)]
            rw [hbz] at nB
            have hmod : (er == 0) = false ∨ (er = 0 ∧ ((Dk.small r).kind = 1 ∨ (Dk.small r).kind = 2) ∧ min 1500 r.b.length = 0) := by
              by_cases he : er = 0
              · rcases hid with h | h
                · exact absurd he h
                · refine .inr ⟨he, h.1, ?_⟩
                  have := congrArg List.length h.2
                  rw [show (Dk.small r).b = r.b.take 1500 from rfl, List.length_take] at this
                  exact this
              · exact .inl (by simpa using he)
            clear ha e1 e2 hbz hid hk6 hk6I
            rcases hmod with he | ⟨rfl, hk1 | hk1, hz⟩
            · have nBB := nB
              clear nB
              go_wp2_with fail
              refine nBB.mono ?_
              rintro e w10 ⟨rfl, rfl⟩
              clear nBB
              go_wp2_with fail
              exact ⟨⟨i + 1, left, c9, _, by go_num, rfl, hleft, by omega, by omega, Lib.hid ⟨HD9.out, HG9.out, HBX9.out.kn, rfl⟩⟩, by simp [RowKit.intOf]; omega⟩
            · have hkI : ((Dk.small r).kind : Int) = 1 := by omega
              clear hk1
              go_wp2_with fail
              refine nB.mono ?_
              rintro e w10 ⟨rfl, rfl⟩
              clear nB
              go_wp2_with fail
              exact ⟨⟨i + 1, left, c9, _, by go_num, rfl, hleft, by omega, by omega, Lib.hid ⟨HD9.out, HG9.out, HBX9.out.kn, rfl⟩⟩, by simp [RowKit.intOf]; omega⟩
            · have hkI : ((Dk.small r).kind : Int) = 2 := by omega
              clear hk1
              go_wp2_with fail
              refine nB.mono ?_
              rintro e w10 ⟨rfl, rfl⟩
              clear nB
              go_wp2_with fail
              exact ⟨⟨i + 1, left, c9, _, by go_num, rfl, hleft, by omega, by omega, Lib.hid ⟨HD9.out, HG9.out, HBX9.out.kn, rfl⟩⟩, by simp [RowKit.intOf]; omega⟩
          · have e1 := ha (-1)
            have e2 := ha (left : Int)
            have m1 : Dk.D.modify ⟨fs, -1, false⟩ fs' = (⟨fs', -1, false⟩, 0) := by unfold Dk.D.modify; rw [if_neg (by simp)]; rfl
            rw [m1] at e1
            rw [e2] at HD9 HG9
            rw [e1, e2]
            have hmod : (((Dk.small r).kind : Int) = 1 ∧ ((min 1500 r.b.length : Nat) : Int) ≠ 0) ∨ (((Dk.small r).kind : Int) = 2 ∧ ((min 1500 r.b.length : Nat) : Int) ≠ 0) ∨ ((((Dk.small r).kind : Int) == 1) = false ∧ (((Dk.small r).kind : Int) == 2) = false) := by
              have hb0 : min 1500 r.b.length = 0 → (Dk.small r).b = [] := fun h => by
                rw [show (Dk.small r).b = r.b.take 1500 from rfl]
                exact List.eq_nil_of_length_eq_zero (by rw [List.length_take]; exact h)
              by_cases h1 : (Dk.small r).kind = 1
              · exact .inl ⟨by omega, fun h => hid ⟨.inl h1, hb0 (by omega)⟩⟩
              · by_cases h2 : (Dk.small r).kind = 2
                · exact .inr (.inl ⟨by omega, fun h => hid ⟨.inr h2, hb0 (by omega)⟩⟩)
                · exact .inr (.inr ⟨by simp; omega, by simp; omega⟩)
            clear ha e1 e2 m1 hid hk6 hk6I
            rcases Nat.eq_zero_or_pos left with rfl | hpos
            · have m2 : Dk.D.modify ⟨fs, ((0 : Nat) : Int), false⟩ fs' = (⟨fs, 0, true⟩, 32) := by unfold Dk.D.modify; rw [if_pos (by simp)]; rfl
              rw [m2] at HD9 HG9 ⊢
              clear m2
              have nDn := dk_Down HD9.out
              rcases hmod with ⟨hkI, hz⟩ | ⟨hkI, hz⟩ | ⟨hkI, hkJ⟩
              all_goals
                go_wp2_with fail
                refine nDn.mono ?_
                rintro e w10 ⟨rfl, rfl⟩
                have nCr := dk_Crash HW9.out
                rw [Dk.crash_up _ (show (⟨fs, -1, false⟩ : Dk.D).down = false from rfl)] at nCr
                simp only [] at nCr
                clear nDn
                go_wp2_with fail
                refine nCr.mono ?_
                rintro e w11 ⟨c11, rfl, dw11, h11⟩
                have HBX11 := Lib.hid (HBX9.out.chg h11 (by decide) (by decide))
                have d11 := HD9.out.chg h11 (by decide) (by decide)
                have nA := dk_Clone d11 9 (by decide) (by decide) (by show fs.length ≤ _; have h := HGF.out.many; have h2 : fs.length ≤ i := h; omega)
                have HW11 := Lib.hid dw11
                have HD11 := Lib.hid d11
                clear nCr h11 dw11 d11 HBX9 HD9 HW9
                go_wp2_with fail
                refine nA.mono ?_
                rintro e w12 ⟨ga, c12, rfl, da, b12, cols12⟩
                have hc12 : ∀ m, Chg m c11 c12 w11 w12 := fun m => Chg.of_below' b12 cols12
                have hL1 := Chg.alloc (i := 11) (c := c12) (W := w12) (.cells #[.int .u8 1, .int .u8 255, .int .u8 1, .int .u8 255, .int .u8 1, .int .u8 255] 5) 0
                have HBX12 := Lib.hid ((HBX11.out.chg (hc12 13) (by decide) (by decide)).chg hL1 (by decide) (by decide))
                have HD12 := Lib.hid ((HD11.out.chg (hc12 13) (by decide) (by decide)).chg hL1 (by decide) (by decide))
                have HW12 := Lib.hid ((HW11.out.chg (hc12 13) (by decide) (by decide)).chg hL1 (by decide) (by decide))
                have nR := dk_Restart (da.chg hL1 (by decide) (by decide)) _ [1, 255, 1, 255, 1, 255] (RdC.made [1, 255, 1, 255, 1, 255] #[.int .u8 1, .int .u8 255, .int .u8 1, .int .u8 255, .int .u8 1, .int .u8 255] rfl 5) (by decide) (by show fs.length ≤ _; have h := HGF.out.many; have h2 : fs.length ≤ i := h; omega) (fun q hq => by have := HGF.out.names q hq; unfold maxLen; omega)
                rw [Dk.restart_down _ _ (show (⟨fs, 0, true⟩ : Dk.D).down = true from rfl)] at nR
                simp only [] at nR
                clear nA b12 cols12 hc12 hL1 da HBX11 HD11 HW11
                go_wp2_with fail
                refine nR.mono ?_
                rintro e w13 ⟨c13, rfl, da13, h13⟩
                have hL2 := Chg.alloc (i := 11) (c := c13) (W := w13) (.cells #[.int .u8 1, .int .u8 255, .int .u8 1, .int .u8 255, .int .u8 1, .int .u8 255] 5) 0
                have HBX13 := Lib.hid ((HBX12.out.chg h13 (by decide) (by decide)).chg hL2 (by decide) (by decide))
                have HD13 := Lib.hid ((HD12.out.chg h13 (by decide) (by decide)).chg hL2 (by decide) (by decide))
                have HA13 := Lib.hid (da13.chg hL2 (by decide) (by decide))
                have nR2 := dk_Restart ((HW12.out.chg h13 (by decide) (by decide)).chg hL2 (by decide) (by decide)) _ [1, 255, 1, 255, 1, 255] (RdC.made [1, 255, 1, 255, 1, 255] #[.int .u8 1, .int .u8 255, .int .u8 1, .int .u8 255, .int .u8 1, .int .u8 255] rfl 5) (by decide) (by show fs.length ≤ _; have h := HGF.out.many; have h2 : fs.length ≤ i := h; omega) (fun q hq => by have := HGF.out.names q hq; unfold maxLen; omega)
                rw [Dk.restart_down _ _ (show (⟨fs, -1, true⟩ : Dk.D).down = true from rfl)] at nR2
                simp only [] at nR2
                clear nR h13 hL2 da13 HBX12 HD12 HW12
                go_wp2_with fail
                refine nR2.mono ?_
                rintro e w14 ⟨c14, rfl, dw14, h14⟩
                have HBX14 := Lib.hid (HBX13.out.chg h14 (by decide) (by decide))
                have HD14 := Lib.hid (HD13.out.chg h14 (by decide) (by decide))
                have da14 := HA13.out.chg h14 (by decide) (by decide)
                have nE := dk_Equal da14 dw14 (by show (Dk.restartFs fs _).1.length ≤ _; rw [Dk.restartFs_length]; have h := HGF.out.many; have h2 : fs.length ≤ i := h; omega) (by show (Dk.restartFs fs _).1.length ≤ _; rw [Dk.restartFs_length]; have h := HGF.out.many; have h2 : fs.length ≤ i := h; omega) da14.rising dw14.rising
                clear nR2 h14 dw14 da14 HBX13 HD13 HA13
                go_wp2_with fail
                refine nE.mono ?_
                rintro e w15 ⟨rr, rfl, hrr, b15⟩
                obtain rfl : rr = true := hrr.2 (by first | exact ⟨rfl, rfl, rfl⟩ | exact ⟨trivial, trivial, rfl⟩ | simp)
                have HD15 := Lib.hid (HD14.out.keepB b15)
                have K15 := Lib.hid (HBX14.out.kn.chg (Chg.of_below_same (i := 3) b15) (by decide))
                clear nE hrr b15 HBX14 HD14
                go_wp2_with fail
                exact ⟨⟨i + 1, 0, c14, _, by go_num, rfl, by decide, by omega, by omega, Lib.hid ⟨HD15.out, HG9.out, K15.out, rfl⟩⟩, by simp [RowKit.intOf]; omega⟩
            · obtain ⟨p, rfl⟩ : ∃ p, left = p + 1 := ⟨left - 1, by omega⟩
              have m2 : Dk.D.modify ⟨fs, ((p + 1 : Nat) : Int), false⟩ fs' = (⟨fs', (p : Int), false⟩, 0) := by
                unfold Dk.D.modify
                rw [if_neg (by show ¬ (((p + 1 : Nat) : Int) = 0); omega)]
                simp only [Prod.mk.injEq, and_true, Dk.D.mk.injEq, true_and]
                rw [if_pos (by omega)]
                omega
              rw [m2] at HD9 HG9 ⊢
              clear m2
              have nB := dk_Budget HD9.out
              have hbz : Dk.D.budget ⟨fs', (p : Int), false⟩ = (p : Int) := by unfold Dk.D.budget; rw [if_neg (by simp)]
              rw [hbz] at nB
              have nDn := dk_Down HD9.out
              clear hbz
              rcases hmod with ⟨hkI, hz⟩ | ⟨hkI, hz⟩ | ⟨hkI, hkJ⟩
              all_goals
                go_wp2_with fail
                refine nB.mono ?_
                rintro e w10 ⟨rfl, rfl⟩
                clear nB
                go_wp2_with fail
                refine nDn.mono ?_
                rintro e w10 ⟨rfl, rfl⟩
                clear nDn
                go_wp2_with fail
                exact ⟨⟨i + 1, p, c9, _, by go_num, by go_num, by omega, by omega, by omega, Lib.hid ⟨HD9.out, HG9.out, HBX9.out.kn, rfl⟩⟩, by simp [RowKit.intOf]; omega⟩
      · have hk6I : (6 : Int) < ((Dk.small r).kind : Int) := by omega
        clear hbv b3 bA b4 ho4 d4 k4 hgbe hgb
        go_wp2_with fail
        exact ⟨⟨i + 1, left, c4, D, by go_num, rfl, hleft, by omega, by omega, Lib.hid ⟨HD4.out, HG.out.mono (Nat.le_succ _), HK4.out, HBUD.out⟩⟩, by simp [RowKit.intOf]; omega⟩
    · by_cases h1 : i < l.length
      all_goals
        try (have h40 : 40 ≤ i := by omega)
        go_wp2_with fail
        refine (dk_known wr).mono ?_
        rintro e W3 ⟨rfl, hb⟩
        go_wp2_with fail
        go_ret
        exact ⟨rfl, HS.out.kn.1.trans (hb.mono HS.out.kn.1.size)⟩

end Go.Proofs.YtegahpgnmeobhaaGreatDoor
