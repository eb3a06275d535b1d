/-
  record.number, record.Next: the first record of some bytes.
-/
import Derived.Test.YtamencnachmhoaaGreatDoorWlCrcs
import Derived.Test.YtamencnachmhoaaGreatDoorCkMem
namespace Go.Proofs.YtamencnachmhoaaGreatDoor
open Go.RowKit

theorem or_shift {x y : Nat} (k : Nat) (h : x < 2 ^ k) : x ||| (y * 2 ^ k) = x + y * 2 ^ k := by
  rw [Nat.or_comm, Nat.mul_comm, ← Nat.two_pow_add_eq_or_of_lt h, Nat.add_comm]
theorem num_or (a b c d : UInt8) : (((a.toNat ||| b.toNat * 256) ||| c.toNat * 65536) ||| d.toNat * 16777216) = a.toNat + 256 * b.toNat + 65536 * c.toNat + 16777216 * d.toNat := by
  have ha := UInt8.toNat_lt a
  have hb := UInt8.toNat_lt b
  have hc := UInt8.toNat_lt c
  have h1 : a.toNat ||| b.toNat * 256 = a.toNat + b.toNat * 256 := or_shift 8 (by omega)
  have h2 : (a.toNat + b.toNat * 256) ||| c.toNat * 65536 = a.toNat + b.toNat * 256 + c.toNat * 65536 := or_shift 16 (by omega)
  have h3 : (a.toNat + b.toNat * 256 + c.toNat * 65536) ||| d.toNat * 16777216 = a.toNat + b.toNat * 256 + c.toNat * 65536 + d.toNat * 16777216 := or_shift 24 (by omega)
  rw [h1, h2, h3]; omega

theorem num_bits (y0 y1 y2 y3 : Nat) (h0 : y0 < 256) (h1 : y1 < 256) (h2 : y2 < 256) (h3 : y3 < 256) :
    bits BinOp.or IntKind.u32 (bits BinOp.or IntKind.u32 (bits BinOp.or IntKind.u32 (IntKind.u32.wrap (y0 : Int)) (IntKind.u32.wrap (IntKind.u32.wrap (y1 : Int) * 256))) (IntKind.u32.wrap (IntKind.u32.wrap (y2 : Int) * 65536))) (IntKind.u32.wrap (IntKind.u32.wrap (y3 : Int) * 16777216)) = ((y0 + 256 * y1 + 65536 * y2 + 16777216 * y3 : Nat) : Int) := by
  have w : ∀ n : Nat, n < 4294967296 → IntKind.u32.wrap (n : Int) = (n : Int) := fun n hn => by simp [IntKind.wrap, IntKind.bits, IntKind.signed]; omega
  rw [w y0 (by omega), w y1 (by omega), w y2 (by omega), w y3 (by omega)]
  rw [show (y1 : Int) * 256 = ((y1 * 256 : Nat) : Int) from by omega, show (y2 : Int) * 65536 = ((y2 * 65536 : Nat) : Int) from by omega, show (y3 : Int) * 16777216 = ((y3 * 16777216 : Nat) : Int) from by omega]
  rw [w (y1 * 256) (by omega), w (y2 * 65536) (by omega), w (y3 * 16777216) (by omega)]
  have e1 : y0 ||| y1 * 256 = y0 + y1 * 256 := or_shift 8 (by omega)
  have e2 : (y0 + y1 * 256) ||| y2 * 65536 = y0 + y1 * 256 + y2 * 65536 := or_shift 16 (by omega)
  have e3 : (y0 + y1 * 256 + y2 * 65536) ||| y3 * 16777216 = y0 + y1 * 256 + y2 * 65536 + y3 * 16777216 := or_shift 24 (by omega)
  rw [u32_or_nat _ _ (by omega) (by omega), e1, u32_or_nat _ _ (by omega) (by omega), e2, u32_or_nat _ _ (by omega) (by omega), e3]
  congr 1
  omega

set_option maxRecDepth 100000 in
set_option maxHeartbeats 1000000 in
theorem rec_number (W : World) (bv : Value) (b : Wl.Bs) (hb : RdB W W.heap.size bv b) (hl : 4 ≤ b.length) :
    Calls Tryz.prog 100 #[bv] W fun e W' => e = .returned (.int .u32 (Wl.num b)) ∧ Below W.heap.size W W' := by
  obtain ⟨a, cap, rfl⟩ := hb.form
  obtain ⟨g, off, rfl, c0⟩ := hb.at 0 (by omega)
  obtain ⟨g1, off1, e1, c1⟩ := hb.at 1 (by omega)
  cases e1
  obtain ⟨g2, off2, e2, c2⟩ := hb.at 2 (by omega)
  cases e2
  obtain ⟨g3, off3, e3, c3⟩ := hb.at 3 (by omega)
  cases e3
  obtain ⟨x0, x1, x2, x3, r, rfl⟩ : ∃ x0 x1 x2 x3 r, b = x0 :: x1 :: x2 :: x3 :: r := by
    match b, hl with
    | x0 :: x1 :: x2 :: x3 :: r, _ => exact ⟨x0, x1, x2, x3, r, rfl⟩
  simp only [List.getElem_cons_zero, List.getElem_cons_succ, Nat.add_zero] at c0 c1 c2 c3
  have hn : Wl.num (x0 :: x1 :: x2 :: x3 :: r) = x0.toNat + 256 * x1.toNat + 65536 * x2.toNat + 16777216 * x3.toNat := rfl
  rw [hn]
  have HO := Lib.hid (num_or x0 x1 x2 x3)
  have h0 := UInt8.toNat_lt x0
  have h1 := UInt8.toNat_lt x1
  have h2 := UInt8.toNat_lt x2
  have h3 := UInt8.toNat_lt x3
  generalize (x0 :: x1 :: x2 :: x3 :: r).length = n at *
  have hlt : ∀ k, k < 4 → ((k : Nat) : Int) < (n : Int) := fun k hk => by omega
  have q0 : (0 : Int) < (n : Int) := by omega
  have q1 : (1 : Int) < (n : Int) := by omega
  have q2 : (2 : Int) < (n : Int) := by omega
  have q3 : (3 : Int) < (n : Int) := by omega
  have r0 : 0 < n := by omega
  have r1 : 1 < n := by omega
  have r2 : 2 < n := by omega
  have r3 : 3 < n := by omega
  generalize x0.toNat = y0 at *
  generalize x1.toNat = y1 at *
  generalize x2.toNat = y2 at *
  generalize x3.toNat = y3 at *
  have hB0 : Below W.heap.size W W := Below.refl _ _
  clear hb hn hlt
  go_enter Tryz.func100, Tryz.ntmps100
  go_wp2_with fail
  go_region_held3 (fun w' => Below W.heap.size W w' ∧ w'.cell? ⟨g, off, none⟩ = some (.int .u8 y0) ∧ w'.cell? ⟨g, off + 1, none⟩ = some (.int .u8 y1) ∧ w'.cell? ⟨g, off + 2, none⟩ = some (.int .u8 y2) ∧ w'.cell? ⟨g, off + 3, none⟩ = some (.int .u8 y3))
    (first | assumption | exact Below.drew (by assumption) | (refine ⟨?_, ?_, ?_, ?_, ?_⟩ <;> first | assumption | exact Below.drew (by assumption) | go_keep) | go_keep)
    (fail)
  go_wp2_with fail
  go_ret
  rw [num_bits y0 y1 y2 y3 h0 h1 h2 h3]
  exact ⟨rfl, Below.drew (Below.refl _ _)⟩

theorem next_S {W w w' : World} (h : Below W.heap.size W w) (k : Below w.heap.size w w') : Below W.heap.size W w' := h.trans (k.mono h.size)
theorem RdB.part {W : World} {B g off n cap : Nat} {l : Dk.Bs} (h : RdB W B (.slice (some ⟨g, off, none⟩) n cap) l) (k m : Nat) (hkm : k + m ≤ l.length) (hl : 0 < l.length) :
    RdB W B (.slice (some ⟨g, off + k, none⟩) m (cap - k)) ((l.drop k).take m) ∧ l.length ≤ cap := by
  rcases h with ⟨rfl, _⟩ | ⟨g', off', cap', hv, hc, hg, hgs, hx⟩
  · simp at hl
  · injection hv with e1 e2 e3
    cases e1
    subst e3
    refine ⟨.inr ⟨g, off + k, cap - k, ?_, ?_, hg, hgs, fun j u hj => ?_⟩, hc⟩
    · rw [List.length_take, List.length_drop, Nat.min_eq_left (by omega)]
    · rw [List.length_take, List.length_drop]; omega
    · rw [List.getElem?_take] at hj
      split at hj
      · rw [List.getElem?_drop] at hj
        rw [Nat.add_assoc]
        exact hx _ _ hj
      · cases hj

theorem num_lt (b : Wl.Bs) : Wl.num b < 4294967296 := by
  unfold Wl.num
  split
  · rename_i a b c d _
    have ha := UInt8.toNat_lt a
    have hb := UInt8.toNat_lt b
    have hc := UInt8.toNat_lt c
    have hd := UInt8.toNat_lt d
    omega
  · decide

set_option maxRecDepth 100000 in
set_option maxHeartbeats 2000000 in
theorem rec_Next (W : World) (bv : Value) (b : Wl.Bs) (hb : RdB W W.heap.size bv b) (hl : b.length ≤ 1000000000) :
    Calls Tryz.prog 45 #[bv] W fun e W' => ∃ v, e = .returned (.tuple #[v, .int .i64 (Wl.nextR b).2.1, .int .i64 (Wl.nextR b).2.2]) ∧ W'.ownsRow W.heap.size 5 1 v (Wl.nextR b).1.length (dkCells (Wl.nextR b).1) ∧ Below W.heap.size W W' := by
  by_cases h8 : b.length < 8
  · obtain ⟨a, cap, rfl⟩ := hb.form
    have HQ : Hid (Wl.nextR b = ([], 0, 19)) := Lib.hid (by unfold Wl.nextR; rw [if_pos h8])
    have h8i : (b.length : Int) < 8 := by omega
    clear hb
    go_enter Tryz.func45, Tryz.ntmps45
    go_wp2_with fail
    go_ret3
    rw [HQ.out]
    exact ⟨_, rfl, World.ownsRow_nil _ _ _ _, Below.refl _ _⟩
  · have h8i : ¬ (b.length : Int) < 8 := by omega
    have n1 := rec_number W bv b hb (by omega)
    obtain ⟨a, cap, rfl⟩ := hb.form
    obtain ⟨g, off, rfl, -⟩ := hb.at 0 (by omega)
    obtain ⟨m, hm⟩ : ∃ m, m = Wl.num b := ⟨_, rfl⟩
    have hm32 := num_lt b
    rw [← hm] at n1 hm32
    have hmw : IntKind.i64.wrap (m : Int) = (m : Int) := IntWalk.i64_in _ (by omega)
    by_cases hbig : 1048576 < m
    · have HQ : Hid (Wl.nextR b = ([], 0, 2)) := Lib.hid (by unfold Wl.nextR; rw [if_neg h8, ← hm, if_pos hbig])
      have hbi : (1048576 : Int) < (m : Int) := by omega
      clear hb hm
      go_enter Tryz.func45, Tryz.ntmps45
      go_wp2_with fail
      refine n1.mono ?_
      rintro e W1 ⟨rfl, b1⟩
      clear n1
      go_wp2_with fail
      go_ret3
      rw [HQ.out]
      exact ⟨_, rfl, World.ownsRow_nil _ _ _ _, b1⟩
    · have hbi : ¬ (1048576 : Int) < (m : Int) := by omega
      have hmw2 : IntKind.i64.wrap (8 + (m : Int)) = 8 + (m : Int) := IntWalk.i64_in _ (by omega)
      have hmw3 : wrap64 (8 + (m : Int)) = 8 + (m : Int) := by unfold wrap64; omega
      by_cases hsh : b.length < 8 + m
      · have HQ : Hid (Wl.nextR b = ([], 0, 19)) := Lib.hid (by unfold Wl.nextR; rw [if_neg h8, ← hm, if_neg hbig, if_pos hsh])
        have hshi : (b.length : Int) < 8 + (m : Int) := by omega
        clear hb hm
        go_enter Tryz.func45, Tryz.ntmps45
        go_wp2_with fail
        refine n1.mono ?_
        rintro e W1 ⟨rfl, b1⟩
        clear n1
        go_wp2_with fail
        go_ret3
        rw [HQ.out]
        exact ⟨_, rfl, World.ownsRow_nil _ _ _ _, b1⟩
      · have hshi : ¬ (b.length : Int) < 8 + (m : Int) := by omega
        obtain ⟨hp4, hcap⟩ := hb.part 0 4 (by omega) (by omega)
        obtain ⟨hp8, -⟩ := hb.part 8 m (by omega) (by omega)
        obtain ⟨hd4, -⟩ := hb.part 4 (b.length - 4) (by omega) (by omega)
        simp only [Nat.add_zero, Nat.sub_zero, List.drop_zero] at hp4
        rw [List.take_of_length_le (by rw [List.length_drop]; exact Nat.le_refl _)] at hd4
        obtain ⟨pl, hpl⟩ : ∃ pl, pl = (b.drop 8).take m := ⟨_, rfl⟩
        have hpll : pl.length = m := by rw [hpl, List.length_take, List.length_drop]; omega
        rw [← hpl] at hp8
        have hQ : Wl.nextR b = if Wl.ext (Wl.ext 0 (b.take 4)) pl ≠ Wl.num (b.drop 4) then ([], 0, 18) else (pl, 8 + m, 0) := by
          unfold Wl.nextR; rw [if_neg h8, ← hm, if_neg hbig, if_neg hsh, hpl]
        have HQ := Lib.hid hQ
        have nC : Hid (∀ o, Below W.heap.size W o → Calls Tryz.prog 95 #[.slice (some ⟨g, off, none⟩) 4 cap] o fun e W' => e = .returned (.int .u32 (Wl.ext 0 (b.take 4))) ∧ Below o.heap.size o W') :=
          Lib.hid (fun o ho => rec_Checksum o _ _ ((hp4.below ho).mono ho.size) (by rw [List.length_take]; omega))
        have key : ∀ ad : Addr, RdB W W.heap.size (.slice (some ad) m (cap - 8)) pl → Hid (∀ o, Below W.heap.size W o → Calls Tryz.prog 94 #[.int .u32 (Wl.ext 0 (b.take 4)), .slice (some ad) m (cap - 8)] o fun e W' => e = .returned (.int .u32 (Wl.ext (Wl.ext 0 (b.take 4)) pl)) ∧ Below o.heap.size o W') ∧
            Hid (∀ o, Below W.heap.size W o → Calls Tryz.prog 96 #[.slice (some ad) m (cap - 8)] o fun e W' => ∃ v', e = .returned v' ∧ W'.ownsRow o.heap.size 5 1 v' m (dkCells pl) ∧ Below o.heap.size o W') := fun ad hr =>
          ⟨Lib.hid (fun o ho => rec_Extend o _ (Wl.ext_lt _ _) _ _ ((hr.below ho).mono ho.size) (by omega)),
            Lib.hid (fun o ho => by have := dk_cloneB _ pl o ((hr.below ho).mono ho.size) (by omega); rw [hpll] at this; exact this)⟩
        have nN : Hid (∀ o, Below W.heap.size W o → Calls Tryz.prog 100 #[.slice (some ⟨g, off + 4, none⟩) (b.length - 4) (cap - 4)] o fun e W' => e = .returned (.int .u32 (Wl.num (b.drop 4))) ∧ Below o.heap.size o W') :=
          Lib.hid (fun o ho => rec_number o _ _ ((hd4.below ho).mono ho.size) (by rw [List.length_drop]; omega))
        have k8 := key ⟨g, off + 8, none⟩ hp8
        have k0 : cap = 8 → _ := fun hc => key ⟨g, off, none⟩ (by
          have hm0 : m = 0 := by omega
          have hpl0 : pl = [] := List.eq_nil_of_length_eq_zero (by omega)
          rw [hpl0, hm0]
          exact .inl ⟨rfl, _, _, rfl⟩)
        clear key
        generalize Wl.ext 0 (b.take 4) = x4 at *
        generalize Wl.ext x4 pl = x5 at *
        generalize Wl.num (b.drop 4) = x6 at *
        have HPL := Lib.hid hpll
        generalize b.length = bl at *
        clear hb hm hp4 hp8 hd4 hQ hpl hpll
        have hc4 : ¬ cap = 4 := by omega
        have k1 : (8 : Int) + (m : Int) ≤ (cap : Int) := by omega
        have k2 : (8 : Int) ≤ 8 + (m : Int) := by omega
        have k3 : (8 + (m : Int)).toNat = 8 + m := by omega
        have k4 : 8 + m - 8 = m := by omega
        have k5 : (4 : Int) ≤ (cap : Int) := by omega
        have k6 : (4 : Int) ≤ (bl : Int) := by omega
        have k7 : (bl : Int) ≤ (cap : Int) := by omega
        have k9 : 4 ≤ cap := by omega
        have k10 : 4 ≤ bl := by omega
        have k11 : bl ≤ cap := by omega
        by_cases hc8 : cap = 8
        · obtain ⟨nE, nK⟩ := k0 hc8
          have hm0 : m = 0 := by omega
          subst hm0
          subst hc8
          have hbl8 : bl = 8 := by omega
          subst hbl8
          clear k0 k8 k1 k2 k3 k4 k5 k6 k7 k9 k10 k11 hc4 hmw2 hmw3 hmw hbi hshi h8i h8 hcap hsh hbig hm32 hl
          go_enter Tryz.func45, Tryz.ntmps45
          go_wp2_with fail
          refine n1.mono ?_
          rintro e W1 ⟨rfl, b1⟩
          clear n1
          go_wp2_with fail
          go_region_held3 (fun w' => Below W.heap.size W w')
            (first | assumption | exact Below.drew (by assumption))
            (first
              | (go_at_call 95; refine (nC.out _ (by assumption)).mono ?_; rintro e w2 ⟨rfl, hb2⟩; have hS2 := next_S (by assumption) hb2)
              | (go_at_call 94; refine (nE.out _ (by assumption)).mono ?_; rintro e w3 ⟨rfl, hb3⟩; have hS3 := next_S (by assumption) hb3)
              | (go_at_call 100; refine (nN.out _ (by assumption)).mono ?_; rintro e w4 ⟨rfl, hb4⟩; have hS4 := next_S (by assumption) hb4))
          all_goals
            by_cases heq : x5 = x6
            · have hei : (x5 : Int) = (x6 : Int) := by omega
              subst heq
              go_wp2_with fail
              refine (nK.out _ (by assumption)).mono ?_
              rintro e w5 ⟨v5, rfl, o5, hb5⟩
              go_wp2_with fail
              go_ret3
              rw [HQ.out, if_neg (by simp)]
              simp only []
              rw [HPL.out]
              exact ⟨_, rfl, owns_mono o5 (Below.size (by assumption)), next_S (by assumption) hb5⟩
            · have hei : ¬ (x5 : Int) = (x6 : Int) := by omega
              go_wp2_with fail
              go_ret3
              rw [HQ.out, if_pos heq]
              exact ⟨_, rfl, World.ownsRow_nil _ _ _ _, by assumption⟩
        · obtain ⟨nE, nK⟩ := k8
          clear k0
          go_enter Tryz.func45, Tryz.ntmps45
          go_wp2_with fail
          refine n1.mono ?_
          rintro e W1 ⟨rfl, b1⟩
          clear n1
          go_wp2_with fail
          go_region_held3 (fun w' => Below W.heap.size W w')
            (first | assumption | exact Below.drew (by assumption))
            (first
              | (go_at_call 95; refine (nC.out _ (by assumption)).mono ?_; rintro e w2 ⟨rfl, hb2⟩; have hS2 := next_S (by assumption) hb2)
              | (go_at_call 94; refine (nE.out _ (by assumption)).mono ?_; rintro e w3 ⟨rfl, hb3⟩; have hS3 := next_S (by assumption) hb3)
              | (go_at_call 100; refine (nN.out _ (by assumption)).mono ?_; rintro e w4 ⟨rfl, hb4⟩; have hS4 := next_S (by assumption) hb4))
          all_goals
            by_cases heq : x5 = x6
            · have hei : (x5 : Int) = (x6 : Int) := by omega
              subst heq
              go_wp2_with fail
              refine (nK.out _ (by assumption)).mono ?_
              rintro e w5 ⟨v5, rfl, o5, hb5⟩
              go_wp2_with fail
              go_ret3
              rw [HQ.out, if_neg (by simp)]
              simp only []
              rw [HPL.out]
              exact ⟨_, rfl, owns_mono o5 (Below.size (by assumption)), next_S (by assumption) hb5⟩
            · have hei : ¬ (x5 : Int) = (x6 : Int) := by omega
              go_wp2_with fail
              go_ret3
              rw [HQ.out, if_pos heq]
              exact ⟨_, rfl, World.ownsRow_nil _ _ _ _, by assumption⟩

end Go.Proofs.YtamencnachmhoaaGreatDoor
