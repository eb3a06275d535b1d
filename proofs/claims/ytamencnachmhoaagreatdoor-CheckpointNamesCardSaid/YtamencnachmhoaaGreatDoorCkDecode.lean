/-
  checkpoint.Decode.
-/
import Derived.Test.YtamencnachmhoaaGreatDoorCkReaders
namespace Go.Proofs.YtamencnachmhoaaGreatDoor
open Go.RowKit

theorem nextR_len (b : Wl.Bs) : (Wl.nextR b).1.length ≤ b.length := by
  unfold Wl.nextR
  repeat' split
  all_goals first | exact Nat.zero_le _ | (show (List.take _ _).length ≤ _; rw [List.length_take, List.length_drop]; omega)
theorem cd_rEnd {B : Nat} {W : World} {r : Nat} {v : Value} {p : Ck.Bs} {a : Nat} {er : Int} (h : RdIs B W r v p a er) (hl : p.length ≤ 100000000) :
    Calls Tryz.prog 49 #[.pointer (some ⟨r, 0, none⟩)] W fun e W' => e = .returned (.int .i64 (if er ≠ 0 then er else if a < p.length then 5 else 0)) ∧ Below W.heap.size W W' := by
  have n1 := cd_rErr h
  have n2 := cd_rRest h hl
  have hle := h.le
  clear h
  by_cases he : er = 0
  · subst he
    by_cases hlt : a < p.length
    · obtain ⟨s, hs⟩ : ∃ s, s = p.length - a := ⟨_, rfl⟩
      rw [← hs] at n2
      have hs0 : ((s : Int) == 0) = false := by rw [beq_eq_false_iff_ne]; omega
      have HQ : Hid ((if (0 : Int) ≠ 0 then (0 : Int) else if a < p.length then 5 else 0) = 5) := Lib.hid (by rw [if_neg (by simp), if_pos hlt])
      clear hs
      go_enter Tryz.func49, Tryz.ntmps49
      go_wp2_with fail
      refine n1.mono ?_
      rintro e W1 ⟨rfl, rfl⟩
      go_wp2_with fail
      refine n2.mono ?_
      rintro e W2 ⟨rfl, b2⟩
      have HB2 := Lib.hid b2
      clear n1 n2 b2
      go_wp2_with fail
      go_ret
      try rw [HQ.out]
      exact ⟨rfl, HB2.out⟩
    · have hs : p.length - a = 0 := by omega
      rw [hs] at n2
      have HQ : Hid ((if (0 : Int) ≠ 0 then (0 : Int) else if a < p.length then 5 else 0) = 0) := Lib.hid (by rw [if_neg (by simp), if_neg hlt])
      clear hs
      go_enter Tryz.func49, Tryz.ntmps49
      go_wp2_with fail
      refine n1.mono ?_
      rintro e W1 ⟨rfl, rfl⟩
      go_wp2_with fail
      refine n2.mono ?_
      rintro e W2 ⟨rfl, b2⟩
      have HB2 := Lib.hid b2
      clear n1 n2 b2
      go_wp2_with fail
      go_ret
      try rw [HQ.out]
      exact ⟨rfl, HB2.out⟩
  · have HQ : Hid ((if er ≠ 0 then er else if a < p.length then 5 else 0) = er) := Lib.hid (by rw [if_pos he])
    clear n2
    go_enter Tryz.func49, Tryz.ntmps49
    go_wp2_with fail
    refine n1.mono ?_
    rintro e W1 ⟨rfl, rfl⟩
    clear n1
    go_wp2_with fail
    go_ret
    try rw [HQ.out]
    exact ⟨rfl, Below.refl _ _⟩

set_option maxRecDepth 100000 in
set_option maxHeartbeats 1000000 in
theorem ck_Decode (W : World) (bv : Value) (b : Ck.Bs) (hb : RdB W W.heap.size bv b) (hl : b.length ≤ 16777216) :
    Calls Tryz.prog 15 #[bv] W fun e W' => ∃ v, e = .returned (.tuple #[.int .i64 (Ck.decode b).1, v, .int .i64 (Ck.decode b).2.2]) ∧ W'.ownsRow W.heap.size 5 1 v (Ck.decode b).2.1.length (dkCells (Ck.decode b).2.1) ∧ Below W.heap.size W W' := by
  have n1 := rec_Next W bv b hb (by omega)
  have hpl := nextR_len b
  obtain ⟨a0, cap0, rfl⟩ := hb.form
  have HD : Hid (Ck.decode b = if (Wl.nextR b).2.2 ≠ 0 then (0, [], (Wl.nextR b).2.2) else if (Wl.nextR b).2.1 < b.length then (0, [], 5) else Ck.decodeP (Wl.nextR b).1) := Lib.hid rfl
  generalize Wl.nextR b = x at *
  obtain ⟨p, m, er⟩ := x
  simp only [] at n1 hpl HD
  clear hb
  go_enter Tryz.func15, Tryz.ntmps15
  go_wp2_with fail
  refine n1.mono ?_
  rintro e W1 ⟨v1, rfl, o1, b1⟩
  have HO1 := Lib.hid o1
  have HB1 := Lib.hid b1
  obtain ⟨a1, c1, rfl⟩ := own_slice o1
  clear n1 o1 b1
  by_cases he : er = 0
  · subst he
    by_cases hsz : m < b.length
    · have hsI : (m : Int) < (b.length : Int) := by omega
      have HQ : Hid (Ck.decode b = (0, [], 5)) := Lib.hid (by rw [HD.out, if_neg (by simp), if_pos hsz])
      go_wp2_with fail
      go_ret3
      rw [HQ.out]
      exact ⟨_, rfl, World.ownsRow_nil _ _ _ _, HB1.out⟩
    · have hsI : ¬ (m : Int) < (b.length : Int) := by omega
      have HQ : Hid (Ck.decode b = Ck.decodeP p) := Lib.hid (by rw [HD.out, if_neg (by simp), if_neg hsz])
      have n2 := cd_NewReader W1 _ p (RdB.of_own HO1.out) (by omega)
      clear HD
      go_wp2_with fail
      refine n2.mono ?_
      rintro e W2 ⟨r, v2, rfl, h2, b2⟩
      have HB2 := Lib.hid (HB1.out.trans (b2.mono HB1.out.size))
      have n3 := cd_rUint h2 (by omega)
      clear n2 h2 b2
      go_wp2_with fail
      refine n3.mono ?_
      rintro e W3 ⟨rfl, h3, b3⟩
      have HB3 := Lib.hid (HB2.out.trans (b3.mono HB1.out.size))
      have HR3 := Lib.hid h3
      clear n3 h3 b3
      have hup : (Ck.readU p).2.2 = 0 → 0 < p.length := fun h => by
        cases p with
        | nil => exact absurd h (by decide)
        | cons => simp
      have HDP : Hid (Ck.decodeP p = if (Ck.readU p).2.2 ≠ 0 then (0, [], (Ck.readU p).2.2)
        else if (Ck.readB (p.drop (Ck.readU p).2.1)).2.2 ≠ 0 then (0, [], (Ck.readB (p.drop (Ck.readU p).2.1)).2.2)
        else if (Ck.readU p).2.1 + (Ck.readB (p.drop (Ck.readU p).2.1)).2.1 < p.length then (0, [], 5)
        else if 1000000000 < (Ck.readU p).1 then (0, [], 2)
        else if 1000000 < (Ck.readB (p.drop (Ck.readU p).2.1)).1.length then (0, [], 5)
        else ((Ck.readU p).1, (Ck.readB (p.drop (Ck.readU p).2.1)).1, 0)) := Lib.hid rfl
      generalize Ck.readU p = u at *
      obtain ⟨n, k, eu⟩ := u
      simp only [] at HR3 hup HDP ⊢
      by_cases heu : eu = 0
      · subst heu
        have n4 := cd_rBlob HR3.out (hup rfl) (by omega)
        clear hup
        generalize Ck.readB (p.drop k) = y at *
        obtain ⟨d, j, ed⟩ := y
        simp only [] at n4 HDP
        go_wp2_with fail
        refine n4.mono ?_
        rintro e W4 ⟨v4, rfl, o4, h4, b4⟩
        have HB4 := Lib.hid (HB3.out.trans (b4.mono HB1.out.size))
        have n5 := cd_rEnd h4 (by omega)
        have HO4 := Lib.hid o4
        obtain ⟨a4, c4, rfl⟩ := own_slice o4
        clear n4 h4 b4 o4
        obtain ⟨ee, hee⟩ : ∃ ee : Int, ee = if ed ≠ 0 then ed else if k + j < p.length then 5 else 0 := ⟨_, rfl⟩
        rw [← hee] at n5
        have HEE := Lib.hid hee
        clear hee
        go_wp2_with fail
        refine n5.mono ?_
        rintro e W5 ⟨rfl, b5⟩
        have HB5 := Lib.hid (HB4.out.trans (b5.mono HB4.out.size))
        have HO5 : Hid (W5.ownsRow W.heap.size 5 1 (.slice a4 d.length c4) d.length (dkCells d)) := Lib.hid (owns_mono (own_keep HO4.out (fun g hg => b5.block g (HO4.out.lt g hg).2)) HB1.out.size)
        clear n5 b5
        by_cases hee0 : ee = 0
        · have hz := HEE.out
          rw [hee0] at hz
          have hed : ed = 0 := by
            by_cases h : ed = 0
            · exact h
            · rw [if_pos h] at hz; exact absurd hz.symm h
          subst hed
          have hkj : ¬ k + j < p.length := fun h => by rw [if_neg (by simp), if_pos h] at hz; exact absurd hz (by decide)
          subst hee0
          by_cases hbig : 1000000000 < n
          · have hbI : (1000000000 : Int) < (n : Int) := by omega
            have HF : Hid (Ck.decode b = (0, [], 2)) := Lib.hid (by rw [HQ.out, HDP.out, if_neg (by simp), if_neg (by simp), if_neg hkj, if_pos hbig])
            clear hz
            go_wp2_with fail
            go_ret3
            rw [HF.out]
            exact ⟨_, rfl, World.ownsRow_nil _ _ _ _, HB5.out⟩
          · have hbI : ¬ (1000000000 : Int) < (n : Int) := by omega
            by_cases hlong : 1000000 < d.length
            · have hlI : (1000000 : Int) < (d.length : Int) := by omega
              have HF : Hid (Ck.decode b = (0, [], 5)) := Lib.hid (by rw [HQ.out, HDP.out, if_neg (by simp), if_neg (by simp), if_neg hkj, if_neg hbig, if_pos hlong])
              clear hz
              go_wp2_with fail
              go_ret3
              rw [HF.out]
              exact ⟨_, rfl, World.ownsRow_nil _ _ _ _, HB5.out⟩
            · have hlI : ¬ (1000000 : Int) < (d.length : Int) := by omega
              have HF : Hid (Ck.decode b = (n, d, 0)) := Lib.hid (by rw [HQ.out, HDP.out, if_neg (by simp), if_neg (by simp), if_neg hkj, if_neg hbig, if_neg hlong])
              clear hz
              go_wp2_with fail
              go_ret3
              rw [HF.out]
              exact ⟨_, rfl, HO5.out, HB5.out⟩
        · have HF : Hid (Ck.decode b = (0, [], ee)) := Lib.hid (by
            rw [HQ.out, HDP.out, if_neg (by simp)]
            have hz := HEE.out
            by_cases h : ed = 0
            · subst h
              rw [if_neg (by simp)] at hz
              by_cases h2 : k + j < p.length
              · rw [if_pos h2] at hz
                rw [if_neg (by simp), if_pos h2, hz]
              · rw [if_neg h2] at hz
                exact absurd hz hee0
            · rw [if_pos h] at hz
              rw [if_pos h, hz])
          go_wp2_with fail
          go_ret3
          rw [HF.out]
          exact ⟨_, rfl, World.ownsRow_nil _ _ _ _, HB5.out⟩
      · have n4 := cd_rBlob_err HR3.out heu
        have n5 := cd_rEnd HR3.out (by omega)
        rw [if_pos heu] at n5
        have HF : Hid (Ck.decode b = (0, [], eu)) := Lib.hid (by rw [HQ.out, HDP.out, if_pos heu])
        clear hup HDP
        go_wp2_with fail
        refine n4.mono ?_
        rintro e W4 ⟨rfl, rfl⟩
        clear n4
        go_wp2_with fail
        refine n5.mono ?_
        rintro e W5 ⟨rfl, b5⟩
        have HB5 := Lib.hid (HB3.out.trans (b5.mono HB3.out.size))
        clear n5 b5
        go_wp2_with fail
        go_ret3
        rw [HF.out]
        exact ⟨_, rfl, World.ownsRow_nil _ _ _ _, HB5.out⟩
  · have HQ : Hid (Ck.decode b = (0, [], er)) := Lib.hid (by rw [HD.out, if_pos he])
    go_wp2_with fail
    go_ret3
    rw [HQ.out]
    exact ⟨_, rfl, World.ownsRow_nil _ _ _ _, HB1.out⟩

end Go.Proofs.YtamencnachmhoaaGreatDoor
