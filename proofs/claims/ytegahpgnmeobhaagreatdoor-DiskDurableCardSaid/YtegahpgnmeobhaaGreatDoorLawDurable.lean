/-
  DiskDurable: the walk.
-/
import Derived.Test.YtegahpgnmeobhaaGreatDoorLawRestart
import Derived.Test.YtegahpgnmeobhaaGreatDoorLawNil
namespace Go.Proofs.YtegahpgnmeobhaaGreatDoor
open Go.RowKit

/-- the disk of DiskDurable behind i names -/
structure DurAt (W : World) (fs : List (Dk.Bs × Dk.Fl)) (i : Nat) (B : Nat) (nv : Value) (c : Nat → Nat) (wr : World) (g : Nat) (fs' : List (Dk.Bs × Dk.Fl)) : Prop where
  disk : DiskAt 1 c wr g ⟨fs', -1, false⟩
  names : fs'.map Prod.fst = fs.map Prod.fst
  even : ∀ j p, fs'[j]? = some p → j < i → j % 2 = 0 → p.2.pend = []
  kn : Kn W wr c
  row : wr.ownsRow B 9 1 nv fs.length (dkNames (fs.map Prod.fst))
  col : ∀ b, nv.ownBlock = some b → c b = 6

theorem DurAt.len {W : World} {fs fs' : List (Dk.Bs × Dk.Fl)} {i B g : Nat} {nv : Value} {c : Nat → Nat} {wr : World} (h : DurAt W fs i B nv c wr g fs') : fs'.length = fs.length := by
  have := congrArg List.length h.names
  simpa using this
theorem DurAt.at {W : World} {fs fs' : List (Dk.Bs × Dk.Fl)} {i B g : Nat} {nv : Value} {c : Nat → Nat} {wr : World} (h : DurAt W fs i B nv c wr g fs') (k : Nat) (hk : k < fs.length) : ∃ f, fs'[k]? = some ((fs[k]).1, f) := by
  have hm := congrArg (fun l : List Dk.Bs => l[k]?) h.names
  have hk' : k < fs'.length := by rw [h.len]; exact hk
  simp only [List.getElem?_map, List.getElem?_eq_getElem hk, List.getElem?_eq_getElem hk', Option.map_some, Option.some.injEq] at hm
  exact ⟨(fs'[k]).2, by rw [List.getElem?_eq_getElem hk', ← hm]⟩
/-- a sync -/
theorem DurAt.next {W : World} {fs fs' : List (Dk.Bs × Dk.Fl)} {i B g : Nat} {nv : Value} {c c' : Nat → Nat} {wr w' : World} (h : DurAt W fs i B nv c wr g fs') (hi : i % 2 = 0) (n : Dk.Bs) (f : Dk.Fl) (hf : fs'[i]? = some (n, f))
    (hd : DiskAt 1 c' w' g ⟨fs'.set i (n, ⟨f.contents, []⟩), -1, false⟩) (hc : Chg 1 c c' wr w') : DurAt W fs (i + 2) B nv c' w' g (fs'.set i (n, ⟨f.contents, []⟩)) := by
  have hl := (List.getElem?_eq_some_iff.1 hf).1
  have he := (List.getElem?_eq_some_iff.1 hf).2
  refine ⟨hd, ?_, ?_, h.kn.chg hc (by decide), own_block h.row (fun b hb => hc.block b (h.row.lt b hb).2 (by rw [h.col b hb]; decide)), fun b hb => (hc.col b (h.row.lt b hb).2).trans (h.col b hb)⟩
  · rw [← h.names, List.map_set]
    exact List.ext_getElem? (fun j => by
      rw [List.getElem?_set]
      split
      · rename_i hij
        subst hij
        rw [List.length_map, if_pos hl, List.getElem?_map, hf]
        rfl
      · rfl)
  · intro j p hp hj h2
    rw [List.getElem?_set] at hp
    split at hp
    · cases hp; rfl
    · exact h.even j p hp (by omega) h2

set_option maxRecDepth 100000 in
set_option maxHeartbeats 4000000 in
theorem law_durable (W : World) (v0 v1 : Value) (l : List Dk.Raw) (ch : Dk.Bs) (hl : OpsAt W v0 l) (hch : RdB W W.heap.size v1 ch) (hcl : ch.length ≤ 140737488355328) :
    Calls Tryz.prog 4 #[v0, v1] W fun e W' => e = .returned (.bool true) ∧ Below W.heap.size W W' := by
  have n0 := dk_run (RunCtx.first W 1 7 (by decide) (by decide) (by decide)) v0 l hl
  obtain ⟨ca, cc, rfl⟩ := hch.form
  have HCH := Lib.hid hch
  clear hl hch
  go_enter Tryz.func4, Tryz.ntmps4
  go_wp2_with fail
  refine n0.mono ?_
  rintro e W1 ⟨c1, g, v, rfl, d1, r1, gd, b1, cols⟩
  have K1 : Kn W W1 c1 := ⟨b1, cols⟩
  generalize Dk.runD l = D at *
  obtain ⟨sa, sn, sc, rfl⟩ := r1.form
  clear n0 b1 cols
  have hdw : D.norm.down = D.down := Dk.D.norm_down D
  have hA := Chg.alloc (i := 7) (c := c1) (W := W1) (.cells #[.slice sa sn sc, .int .i64 D.norm.bud, .bool D.norm.down] 27) 7
  have d2 := d1.chg hA (by decide) (by decide)
  have K2 := K1.chg hA (by decide)
  obtain ⟨gw, hgw⟩ : ∃ gw, gw = W1.heap.size := ⟨_, rfl⟩
  obtain ⟨W2, hW2⟩ : ∃ W2, W2 = W1.alloc (.cells #[.slice sa sn sc, .int .i64 D.norm.bud, .bool D.norm.down] 27) := ⟨_, rfl⟩
  rw [← hW2] at hA d2 K2
  generalize pnt c1 W1.heap.size 7 = c2 at *
  cases hdn : D.down with
  | true =>
    rw [hdn] at hdw
    rw [hdw] at hW2 ⊢
    have HW2 := Lib.hid hW2
    clear hA d2 hW2 d1 r1 K1 hgw
    go_wp2_with fail
    rw [← HW2.out]
    refine (dk_known W2).mono ?_
    rintro e w7 ⟨rfl, b7⟩
    go_wp2_with fail
    go_ret
    exact ⟨rfl, K2.1.trans (b7.mono K2.1.size)⟩
  | false =>
    rw [hdn] at hdw
    rw [hdw] at hW2 ⊢
    have HW2 := Lib.hid hW2
    have HGW := Lib.hid hgw
    have n3 := dk_SetBudget d2 (-1)
    have hsb : D.setBudget (-1) = (⟨D.fs, -1, false⟩, 0) := by unfold Dk.D.setBudget; rw [if_neg (by simp [hdn]), if_neg (by decide)]; rw [← hdn]
    rw [hsb] at n3
    obtain ⟨fs, hfs⟩ : ∃ fs, fs = D.fs := ⟨_, rfl⟩
    have hmany : fs.length ≤ 40 := by rw [hfs]; exact gd.many
    have hn64 : ∀ p ∈ fs, p.1.length ≤ 64 := by rw [hfs]; exact gd.names
    have HN64 := Lib.hid hn64
    rw [← hfs] at n3
    clear hA d2 hW2 d1 r1 K1 hgw gd hsb hfs hn64
    go_wp2_with fail
    rw [← HW2.out, ← HGW.out]
    refine n3.mono ?_
    rintro e w3 ⟨c3, rfl, d3, h3⟩
    have K3 := K2.chg h3 (by decide)
    have n4 := dk_List d3 (by show fs.length ≤ _; omega)
    have hnm : (⟨fs, -1, false⟩ : Dk.D).names = fs.map Prod.fst := rfl
    rw [hnm, List.length_map] at n4
    clear n3 h3 K2 hnm
    go_wp2_with fail
    refine n4.mono ?_
    rintro e w4 ⟨nv, rfl, own4, b4⟩
    have S4 : DurAt W fs 0 w3.heap.size nv (pnt c3 w3.heap.size 6) w4 g fs := ⟨d3.chg (Chg.of_below (i := 3) b4 6) (by decide) (by decide), rfl, fun j p _ hj => absurd hj (Nat.not_lt_zero _), K3.chg (Chg.of_below (i := 3) b4 6) (by decide), own4, fun b hb => pnt_new (own4.lt b hb).1⟩
    obtain ⟨na, nc, rfl⟩ := rf_own_form own4
    have HS4 := Lib.hid S4
    generalize pnt c3 w3.heap.size 6 = c4 at *
    generalize w3.heap.size = B3 at *
    clear n4 own4 b4 K3 d3 S4 HW2 HGW hdw
    go_wp2_with fail
    go_loopw [9] (fun iv wr => ∃ (i : Nat) (c : Nat → Nat) (fs' : List (Dk.Bs × Dk.Fl)), iv = .int .i64 i ∧ i ≤ fs.length + 1 ∧ i % 2 = 0 ∧ Hid (DurAt W fs i B3 (.slice na fs.length nc) c wr g fs')) (fun iv _ => fs.length + 1 - (RowKit.intOf iv).toNat)
    case atStart => exact ⟨0, c4, fs, rfl, Nat.zero_le _, rfl, HS4⟩
    case round =>
      obtain ⟨i, c, fs', rfl, hi, hi2, HS⟩ := hrel
      by_cases hlt : i < fs.length
      · obtain ⟨f, hf⟩ := HS.out.at i hlt
        have n5 := dk_Sync HS.out.disk ⟨(fs[i]).1.toArray⟩ (by have := HN64.out _ (List.getElem_mem hlt); show (fs[i]).1.toArray.size ≤ _; simp; omega) (by show (-1 : Int) ≤ _; decide)
        rw [show (⟨(fs[i]).1.toArray⟩ : ByteArray).data.toList = (fs[i]).1 by simp, Dk.sync_at HS.out.disk.rising i _ f hf] at n5
        obtain ⟨lg, lc', hlv, _, hlgl⟩ := HS.out.row.form (by omega)
        injection hlv with h1 _ h3
        subst h1 h3
        have lcell : wr.cell? ⟨lg, i, none⟩ = some (.string ⟨(fs[i]).1.toArray⟩) := by
          rw [HS.out.row.cellAt i (by omega)]
          unfold dkNames
          rw [List.getElem?_map, List.getElem?_map, List.getElem?_eq_getElem hlt]
          rfl
        have i1 : (0 : Int) ≤ i := by omega
        have i2 : (i : Int) < fs.length := by omega
        have HNX := Lib.hid (fun c' w' hd hc => HS.out.next (c' := c') (w' := w') hi2 _ f hf hd hc)
        generalize (fs[i]).1 = nm at *
        clear hf
        go_wp2_with fail
        refine n5.mono ?_
        rintro e w5 ⟨c5, rfl, d5, h5⟩
        have S5 := Lib.hid (HNX.out c5 w5 d5 h5)
        clear n5 d5 h5 HNX
        go_wp2_with fail
        exact ⟨⟨i + 2, c5, _, by go_num, by omega, by omega, S5⟩, by simp [RowKit.intOf]; omega⟩
      · have S := HS.out
        have hlen := S.len
        have n5 := dk_Clone S.disk 2 (by decide) (by decide) (by show fs'.length ≤ _; omega)
        have HEV : Hid (∀ j p, fs'[j]? = some p → j < fs.length → j % 2 = 0 → p.2.pend = []) := Lib.hid (fun j p hp hj h2 => S.even j p hp (by omega) h2)
        have HNM := Lib.hid S.names
        have HAT := Lib.hid S.at
        have HSX : Hid (DurAt W fs 0 B3 (.slice na fs.length nc) c wr g fs') := Lib.hid ⟨S.disk, S.names, fun j p _ hj => absurd hj (Nat.not_lt_zero _), S.kn, S.row, S.col⟩
        clear S HS HS4 hi hi2
        generalize wr = w5 at *
        go_wp2_with fail
        refine n5.mono ?_
        rintro e w6 ⟨g2, c6, rfl, d6, b6, cols6⟩
        have hc6 : ∀ m, Chg m c c6 w5 w6 := fun m => Chg.of_below' b6 cols6
        have d1 := HSX.out.disk.chg (hc6 3) (by decide) (by decide)
        have K6 := HSX.out.kn.chg (hc6 3) (by decide)
        have row6 := own_block HSX.out.row (fun b hb => b6.block b (HSX.out.row.lt b hb).2)
        have col6 : ∀ b, (Value.slice na fs.length nc).ownBlock = some b → c6 b = 6 := fun b hb => (cols6 b (HSX.out.row.lt b hb).2).trans (HSX.out.col b hb)
        have n7 := dk_Crash d1
        rw [Dk.crash_up _ (show (⟨fs', -1, false⟩ : Dk.D).down = false from rfl)] at n7
        simp only [] at n7
        clear n5 b6 cols6 hc6 HSX d1
        go_wp2_with fail
        refine n7.mono ?_
        rintro e w7 ⟨c7, rfl, d7, h7⟩
        have K7 := K6.chg h7 (by decide)
        have n8 := dk_Restart d7 _ ch (RdC.of_kn' K7 (HCH.out.below K7.1)) (by omega) (by show fs'.length ≤ _; omega) (fun p hp => by
          have hm : p.1 ∈ fs'.map Prod.fst := List.mem_map.2 ⟨p, hp, rfl⟩
          rw [HNM.out] at hm
          obtain ⟨q, hq, e⟩ := List.mem_map.1 hm
          have := HN64.out q hq
          rw [← e]; unfold maxLen; omega)
        rw [Dk.restart_down _ _ (show (⟨fs', -1, true⟩ : Dk.D).down = true from rfl)] at n8
        simp only [] at n8
        have e7 := d6.chg h7 (by decide) (by decide)
        have row7 := own_block row6 (fun b hb => h7.block b (row6.lt b hb).2 (by rw [col6 b hb]; decide))
        have col7 : ∀ b, (Value.slice na fs.length nc).ownBlock = some b → c7 b = 6 := fun b hb => (h7.col b (row6.lt b hb).2).trans (col6 b hb)
        clear n7 d7 h7 K6 d6 row6 col6
        go_wp2_with fail
        refine n8.mono ?_
        rintro e w8 ⟨c8, rfl, d8, h8⟩
        have K8 := K7.chg h8 (by decide)
        have HE8 := Lib.hid (e7.chg h8 (by decide) (by decide))
        have HROW8 := Lib.hid (own_block row7 (fun b hb => h8.block b (row7.lt b hb).2 (by rw [col7 b hb]; decide)))
        have hl8 : (Dk.restartFs fs' ch).1.length = fs.length := by rw [Dk.restartFs_length, hlen]
        have n9 := dk_List d8 (by show (Dk.restartFs fs' ch).1.length ≤ _; omega)
        have hnm : (⟨(Dk.restartFs fs' ch).1, -1, false⟩ : Dk.D).names.length = fs.length := by show ((Dk.restartFs fs' ch).1.map Prod.fst).length = _; rw [List.length_map, hl8]
        rw [hnm] at n9
        have HD8 := Lib.hid d8
        clear n8 d8 h8 K7 e7 row7 col7 hnm
        go_wp2_with fail
        refine n9.mono ?_
        rintro e w9 ⟨nv9, rfl, own9, b9⟩
        obtain ⟨na9, nc9, rfl⟩ := rf_own_form own9
        have K9 := Lib.hid (K8.chg (Chg.of_below_same (i := 3) b9) (by decide))
        have HE9 := Lib.hid (HE8.out.keepB b9)
        have HD9 := Lib.hid (HD8.out.keepB b9)
        have HROW9 := Lib.hid (own_block HROW8.out (fun b hb => b9.block b (HROW8.out.lt b hb).2))
        clear n9 own9 b9 K8 HE8 HD8 HROW8
        go_wp2_with fail
        go_loopw [11] (fun iv wr => ∃ i : Nat, iv = .int .i64 i ∧ i ≤ fs.length + 1 ∧ i % 2 = 0 ∧ Hid (Below w9.heap.size w9 wr)) (fun iv _ => fs.length + 1 - (RowKit.intOf iv).toNat)
        case atStart => exact ⟨0, rfl, Nat.zero_le _, rfl, Lib.hid (Below.refl _ _)⟩
        case round =>
          obtain ⟨k, rfl, hk, hk2, HB⟩ := hrel
          by_cases hlt2 : k < fs.length
          · obtain ⟨f, hf⟩ := HAT.out k hlt2
            have hp0 := HEV.out k _ hf hlt2 hk2
            simp only [] at hp0
            have hr := Dk.restartFs_get fs' ch k _ f hf hp0
            obtain ⟨_, hf1⟩ := Dk.find_place HE9.out.rising k _ f hf
            obtain ⟨_, hf2⟩ := Dk.find_place HD9.out.rising k _ f hr
            have hn64 := HN64.out _ (List.getElem_mem hlt2)
            obtain ⟨lg, lc', hlv, _, hlgl⟩ := HROW9.out.form (by omega)
            injection hlv with h1 _ h3
            subst h1 h3
            have lcell : wr.cell? ⟨lg, k, none⟩ = some (.string ⟨(fs[k]).1.toArray⟩) := by
              refine (HB.out.cell (p := ⟨lg, k, none⟩) hlgl).trans ?_
              rw [HROW9.out.cellAt k (by omega)]
              unfold dkNames
              rw [List.getElem?_map, List.getElem?_map, List.getElem?_eq_getElem hlt2]
              rfl
            have hsz1 : (⟨(fs[k]).1.toArray⟩ : ByteArray).size ≤ 9223372036854775807 := by show (fs[k]).1.toArray.size ≤ _; simp; omega
            have hrd := dk_Read (HE9.out.keepB HB.out) ⟨(fs[k]).1.toArray⟩ hsz1
            rw [show (⟨(fs[k]).1.toArray⟩ : ByteArray).data.toList = (fs[k]).1 by simp] at hrd
            have hread : Dk.D.read ⟨fs', -1, false⟩ (fs[k]).1 = (f.contents, 0) := by unfold Dk.D.read; rw [if_neg (by simp)]; simp only [hf1]
            rw [hread] at hrd
            have hread2 : Dk.D.read ⟨(Dk.restartFs fs' ch).1, -1, false⟩ (fs[k]).1 = (f.contents, 0) := by unfold Dk.D.read; rw [if_neg (by simp)]; simp only [hf2]
            have hpend2 : Dk.D.pending ⟨(Dk.restartFs fs' ch).1, -1, false⟩ (fs[k]).1 = 0 := by unfold Dk.D.pending; rw [if_neg (by simp)]; simp only [hf2, hp0, List.length_nil]
            have HRD := Lib.hid hrd
            have HREAD2 := Lib.hid hread2
            have HPEND2 := Lib.hid hpend2
            have HSZ1 := Lib.hid hsz1
            have i1 : (0 : Int) ≤ k := by omega
            have i2 : (k : Int) < fs.length := by omega
            clear hrd hread hread2 hpend2 hsz1 hr hf hf1 hf2 hp0 hn64
            generalize (fs[k]).1 = nm at *
            go_wp2_with fail
            refine HRD.out.mono ?_
            rintro e w10 ⟨va, rfl, hoa, hb10⟩
            obtain ⟨a1, a2, rfl⟩ := rf_own_form hoa
            have hb910 := HB.out.trans (hb10.mono HB.out.size)
            have lcell2 := (hb10.cell (p := ⟨lg, k, none⟩) (World.block_lt_of_cell? wr _ lcell)).trans lcell
            have hrd2 := dk_Read (HD9.out.keepB hb910) ⟨nm.toArray⟩ HSZ1.out
            rw [show (⟨nm.toArray⟩ : ByteArray).data.toList = nm by simp, HREAD2.out] at hrd2
            have HRD2 := Lib.hid hrd2
            have HOA := Lib.hid hoa
            have HB910 := Lib.hid hb910
            clear hrd2 hoa hb910 lcell hb10
            go_wp2_with fail
            refine HRD2.out.mono ?_
            rintro e w11 ⟨vb, rfl, hob, hb11⟩
            obtain ⟨b1, b2, rfl⟩ := rf_own_form hob
            have hb911 := HB910.out.trans (hb11.mono HB910.out.size)
            have lcell3 := (hb11.cell (p := ⟨lg, k, none⟩) (World.block_lt_of_cell? w10 _ lcell2)).trans lcell2
            have q1 := dk_conv ((RdB.of_own HOA.out).below hb11) w11 rfl
            have q2 := dk_conv (RdB.of_own hob) w11 rfl
            have hpn := dk_Pending (HD9.out.keepB hb911) ⟨nm.toArray⟩ HSZ1.out
            rw [show (⟨nm.toArray⟩ : ByteArray).data.toList = nm by simp, HPEND2.out] at hpn
            have HPN := Lib.hid hpn
            have HB911 := Lib.hid hb911
            clear hpn hb911 hob hb11 lcell2
            go_wp2_with fail
            refine HPN.out.mono ?_
            rintro e w12 ⟨rfl, rfl⟩
            go_wp2_with fail
            exact ⟨⟨k + 2, by go_num, by omega, by omega, HB911⟩, by simp [RowKit.intOf]; omega⟩
          · go_wp2_with fail
            have k0 := K9.out.1.trans (HB.out.mono K9.out.1.size)
            refine (dk_known wr).mono ?_
            rintro e w7 ⟨rfl, b7⟩
            go_wp2_with fail
            go_ret
            exact ⟨rfl, k0.trans (b7.mono k0.size)⟩

end Go.Proofs.YtegahpgnmeobhaaGreatDoor
