/-
  The reference of the codec: giroref08 (ReadUint, Uint).
  The reference of checkpoints: giroref08's strings, giroref12.Decode.
  The reference of checkpoints: giroref08.Read and Encode of a string.
-/
import Derived.Test.YtamencnachmhoaaGreatDoorCkReaders
import Derived.Test.YtamencnachmhoaaGreatDoorCkRef9s
import Derived.Test.YtamencnachmhoaaGreatDoorDkApp1
import Derived.Test.YtamencnachmhoaaGreatDoorCkEncode
import Derived.Test.YtamencnachmhoaaGreatDoorCkDecode
import Derived.Lib.AppendStr
import Derived.Lib.ConvBytes

namespace Go.Proofs.YtamencnachmhoaaGreatDoor
open Go.RowKit

theorem r8_u2 (u : Nat) : ∃ u2 : Nat, IntKind.u64.wrap ((u : Int) * 128) = (u2 : Int) ∧ u2 < 18446744073709551616 ∧ (u * 128 < 18446744073709551616 → u2 = u * 128) := by
  refine ⟨u * 128 % 18446744073709551616, ?_, Nat.mod_lt _ (by decide), fun h => Nat.mod_eq_of_lt h⟩
  show ((u : Int) * 128) % 18446744073709551616 = _
  omega

set_option maxRecDepth 100000 in
set_option maxHeartbeats 1000000 in
theorem r8_ReadUint (W : World) (bv : Value) (b : Ck.Bs) (hb : RdB W W.heap.size bv b) (hl : b.length ≤ 1000000000) :
    Calls Tryz.prog 51 #[bv] W fun e W' => e = .returned (.tuple #[.int .u64 (Ck.readU b).1, .int .i64 (Ck.readU b).2.1, .int .i64 (Ck.readU b).2.2]) ∧ W = W' := by
  obtain ⟨a0, cap0, rfl⟩ := hb.form
  have HB := Lib.hid hb
  clear hb
  go_enter Tryz.func51, Tryz.ntmps51
  go_wp2_with fail
  go_loopw [5, 6, 7] (fun xv uv iv wr => ∃ i x u : Nat, iv = .int .i64 i ∧ xv = .int .u64 x ∧ uv = .int .u64 u ∧ i ≤ b.length ∧ i ≤ 9 ∧ Hid (x < 128 ^ i) ∧ Hid (u = 128 ^ i) ∧ Hid (Ck.readU b = Ck.readF i x (b.drop i)) ∧ wr = W) (fun _ _ iv _ => 10 - (RowKit.intOf iv).toNat)
  case atStart => exact ⟨0, 0, 1, rfl, rfl, rfl, Nat.zero_le _, Nat.zero_le _, Lib.hid (by decide), Lib.hid rfl, Lib.hid (by rw [List.drop_zero]; rfl), rfl⟩
  case round =>
    obtain ⟨i, x, u, rfl, rfl, rfl, hi, hi9, HX, HU, HR, rfl⟩ := hrel
    have h10 : (i : Int) < 10 := by omega
    by_cases hlt : i < b.length
    · obtain ⟨c, hcd⟩ : ∃ c, b[i]? = some c := ⟨_, List.getElem?_eq_getElem hlt⟩
      obtain ⟨bg, boff, rfl, y0⟩ := HB.out.cellAt hcd
      have hc8 := c.toNat_lt
      have hdrop : b.drop i = c :: b.drop (i + 1) := by
        rw [List.drop_eq_getElem_cons hlt]
        congr 1
        exact Option.some.inj ((List.getElem?_eq_getElem hlt).symm.trans hcd)
      have hrd := HR.out
      rw [hdrop, Ck.readF] at hrd
      have HRD := Lib.hid hrd
      have hltI : ¬ (b.length : Int) ≤ (i : Int) := by omega
      have hm128 : c.toNat % 128 < 128 := Nat.mod_lt _ (by decide)
      clear hcd hdrop hrd
      by_cases h9 : i = 9 ∧ 1 < c.toNat
      · obtain ⟨h9e, hc1⟩ := h9
        have hb9 : ((i : Int) == 9) = true := by rw [h9e]; rfl
        have hc1I : (1 : Int) < (c.toNat : Int) := by omega
        have HQ : Hid (Ck.readU b = (0, 0, 2)) := Lib.hid (by rw [HRD.out, if_pos ⟨h9e, hc1⟩])
        clear h9e
        go_wp2_with fail
        go_ret3
        rw [HQ.out]
        exact ⟨rfl, rfl⟩
      · have h9' : i = 9 → c.toNat ≤ 1 := fun h => by
          rcases Nat.lt_or_ge 1 c.toNat with h1 | h1
          · exact absurd ⟨h, h1⟩ h9
          · exact h1
        obtain ⟨x2, hx2⟩ : ∃ x2, x2 = x + c.toNat % 128 * 128 ^ i := ⟨_, rfl⟩
        have hlt2 : x2 < 128 ^ (i + 1) := by rw [hx2]; exact int_lt HX.out hm128
        obtain ⟨p, hp⟩ : ∃ p, p = c.toNat % 128 * u := ⟨_, rfl⟩
        have hpb : p < 18446744073709551616 := by rw [hp, HU.out]; exact sh_lt hi9 hm128 (fun h => by have := h9' h; omega)
        have hpI : IntKind.u64.wrap ((c.toNat : Int) % 128 * (u : Int)) = (p : Int) := by
          rw [show (c.toNat : Int) % 128 * (u : Int) = (p : Int) from by rw [hp, Int.natCast_mul, Int.natCast_emod]; rfl]
          exact wrapU64 hpb
        have hx2b : x2 < 18446744073709551616 := by
          have e : x2 = x + p := by rw [hx2, hp, HU.out]
          rcases Nat.lt_or_ge i 9 with h | h
          · have h2 : (128 : Nat) ^ (i + 1) ≤ 128 ^ 9 := Nat.pow_le_pow_right (by decide) (by omega)
            exact Nat.lt_trans (Nat.lt_of_lt_of_le hlt2 h2) pow9
          · obtain rfl : i = 9 := by omega
            have h1 := h9' rfl
            have h3 := HX.out
            have h4 : p ≤ 128 ^ 9 := by
              rw [hp, HU.out]
              exact Nat.le_trans (Nat.mul_le_mul (by omega : c.toNat % 128 ≤ 1) (Nat.le_refl _)) (by rw [Nat.one_mul]; exact Nat.le_refl _)
            have h5 : (128 : Nat) ^ 9 = 9223372036854775808 := by decide +kernel
            rw [h5] at h3 h4
            omega
        have hxI : IntKind.u64.wrap ((x : Int) + (p : Int)) = (x2 : Int) := by
          rw [show (x : Int) + (p : Int) = (x2 : Int) from by rw [hx2, hp, HU.out, Int.natCast_add]]
          exact wrapU64 hx2b
        obtain ⟨u2, hu2, hu2b, hu2e⟩ := r8_u2 u
        obtain ⟨b9, hb9⟩ : ∃ b9, ((i : Int) == 9) = b9 := ⟨_, rfl⟩
        have hgd : b9 = true → ¬ (1 : Int) < (c.toNat : Int) := fun h => by
          rw [h] at hb9
          have : (i : Int) = 9 := by simpa using hb9
          have := h9' (by omega)
          omega
        have HX2 := Lib.hid hx2
        have HLT2 := Lib.hid hlt2
        have H9 := Lib.hid h9
        have H9' := Lib.hid h9'
        have HU2 := Lib.hid hu2e
        clear hx2 hlt2 h9 h9' hm128 hp hpb hx2b hu2e hu2b
        by_cases hcb : 128 ≤ c.toNat
        · have hc2 : ¬ (c.toNat : Int) < 128 := by omega
          have hr1 : Ck.readU b = Ck.readF (i + 1) x2 (b.drop (i + 1)) := by
            rw [HRD.out, if_neg H9.out, if_pos hcb, HX2.out]
            congr 3
            omega
          have HR1 := Lib.hid hr1
          have hi8 : i ≤ 8 := by
            have := H9'.out
            omega
          have HUU : Hid (u2 = 128 ^ (i + 1)) := Lib.hid (by
            have h2 : (128 : Nat) ^ (i + 1) ≤ 128 ^ 9 := Nat.pow_le_pow_right (by decide) (by omega)
            have e : u * 128 = 128 ^ (i + 1) := by rw [HU.out, Nat.pow_succ]
            rw [← e] at h2 ⊢
            exact HU2.out (Nat.lt_of_le_of_lt h2 pow9))
          clear hr1 hcb HU2
          cases b9 with
          | true =>
            have hc1 := hgd rfl
            clear hgd
            go_wp2_with fail
            refine ⟨⟨i + 1, x2, u2, by go_num, rfl, rfl, by omega, by omega, HLT2, HUU, HR1, trivial⟩, by simp [RowKit.intOf] <;> omega⟩
          | false =>
            clear hgd
            go_wp2_with fail
            refine ⟨⟨i + 1, x2, u2, by go_num, rfl, rfl, by omega, by omega, HLT2, HUU, HR1, trivial⟩, by simp [RowKit.intOf] <;> omega⟩
        · have hc2 : (c.toNat : Int) < 128 := by omega
          have hxx : x2 = x + c.toNat * 128 ^ i := by rw [HX2.out, Nat.mod_eq_of_lt (by omega)]
          have hr1 : Ck.readU b = if c.toNat = 0 ∧ 0 < i then (0, 0, 3) else (x2, i + 1, 0) := by
            rw [HRD.out, if_neg H9.out, if_neg hcb, hxx]
          have HR1 := Lib.hid hr1
          clear hr1 hcb hxx
          by_cases h0 : c.toNat = 0
          · have h0I : ((c.toNat : Int) == 0) = true := by rw [h0]; rfl
            by_cases hp : 0 < i
            · have hpI : (0 : Int) < (i : Int) := by omega
              have HQ : Hid (Ck.readU b = (0, 0, 3)) := Lib.hid (by rw [HR1.out, if_pos ⟨h0, hp⟩])
              clear h0
              cases b9 with
              | true =>
                have hc1 := hgd rfl
                clear hgd
                go_wp2_with fail
                go_ret3
                rw [HQ.out]
                exact ⟨rfl, rfl⟩
              | false =>
                clear hgd
                go_wp2_with fail
                go_ret3
                rw [HQ.out]
                exact ⟨rfl, rfl⟩
            · have hpI : ¬ (0 : Int) < (i : Int) := by omega
              have HQ : Hid (Ck.readU b = (x2, i + 1, 0)) := Lib.hid (by rw [HR1.out, if_neg (fun h => hp h.2)])
              clear h0
              cases b9 with
              | true =>
                have hc1 := hgd rfl
                clear hgd
                go_wp2_with fail
                go_ret3
                rw [HQ.out]
                exact ⟨rfl, rfl⟩
              | false =>
                clear hgd
                go_wp2_with fail
                go_ret3
                rw [HQ.out]
                exact ⟨rfl, rfl⟩
          · have h0I : ((c.toNat : Int) == 0) = false := by simpa using h0
            have HQ : Hid (Ck.readU b = (x2, i + 1, 0)) := Lib.hid (by rw [HR1.out, if_neg (fun h => h0 h.1)])
            clear h0
            cases b9 with
            | true =>
              have hc1 := hgd rfl
              clear hgd
              go_wp2_with fail
              go_ret3
              rw [HQ.out]
              exact ⟨rfl, rfl⟩
            | false =>
              clear hgd
              go_wp2_with fail
              go_ret3
              rw [HQ.out]
              exact ⟨rfl, rfl⟩
    · have hie : i = b.length := by omega
      have HQ : Hid (Ck.readU b = (0, 0, 19)) := Lib.hid (by rw [HR.out, List.drop_of_length_le (by omega)]; rfl)
      have hltI : (b.length : Int) ≤ (i : Int) := by omega
      clear hie
      go_wp2_with fail
      go_ret3
      rw [HQ.out]
      exact ⟨rfl, rfl⟩

/-! ### Uint -/
theorem Ck.uint_inv (n : Nat) (hn : n < 18446744073709551616) : n < 128 ^ 9 * 2 := by
  have h5 : (128 : Nat) ^ 9 = 9223372036854775808 := by decide +kernel
  rw [h5]; omega

theorem Ck.uintF_more {k x : Nat} (h : 128 ≤ x) : Ck.uintF (k + 1) x = UInt8.ofNat (x % 128 + 128) :: Ck.uintF k (x / 128) := by rw [Ck.uintF, if_neg (by omega)]
theorem Ck.uintF_last {k x : Nat} (h : x < 128) : Ck.uintF k x = [UInt8.ofNat x] := by
  cases k with
  | zero => rfl
  | succ k => rw [Ck.uintF, if_pos h]

/-- one byte behind a row of the call's own -/
theorem r8_push {W wr : World} {v : Value} {l : Ck.Bs} (hown : wr.ownsRow W.heap.size 5 1 v l.length (dkCells l)) (hb : Below W.heap.size W wr) (c : UInt8) (hl : l.length ≤ 100000000) :
    ∃ v1 w1, (Builtin.append_ #[22, 22] 22 #[v, .slice (some ⟨wr.heap.size, 0, none⟩) 1 1]).run Tryz.prog (wr.alloc (.cells #[.int .u8 c.toNat] 5)) = .ok v1 w1 ∧ (∃ a cp, v1 = .slice a (l.length + 1) cp) ∧
      w1.ownsRow W.heap.size 5 1 v1 (l ++ [c]).length (dkCells (l ++ [c])) ∧ Below W.heap.size W w1 := by
  obtain ⟨i0, hi, hz0, hz1, hz2⟩ := info_parts dk_infoByte
  have hb1 : Below wr.heap.size wr (wr.alloc (.cells #[.int .u8 c.toNat] 5)) := (Below.refl _ _).alloc (Nat.le_refl _) _
  have hs := hb.size
  obtain ⟨v1, w1, hr1, ho1, hg1, hat1⟩ := wl_append_at (w := wr.alloc (.cells #[.int .u8 c.toNat] 5)) 22 22 5 i0 (.int .u8 0) 1 1 Tryz.underlying22 hi hz0 hz1 hz2 rfl (by decide) W.heap.size v l.length (dkCells l)
    (own_keep hown (fun g hg => hb1.block g (hown.lt g hg).2)) (some ⟨wr.heap.size, 0, none⟩) 1 1 (dkCells [c]) (by simp [dkCells_length]) (byte_cells wr c) (by intro h; cases h) (fun u hu => dkCells_one [c] u hu) (by unfold maxLen; omega) (by omega) (by simp; omega)
  rw [← dkCells_append] at ho1
  refine ⟨v1, w1, hr1, own_slice ho1, by rw [List.length_append]; exact ho1, ?_⟩
  exact (hb.alloc hs _).grown hg1 (by simp; omega) (fun g hg => (hown.lt g hg).1)

set_option maxRecDepth 100000 in
set_option maxHeartbeats 1000000 in
theorem r8_Uint (W : World) (n : Nat) (hn : n < 18446744073709551616) :
    Calls Tryz.prog 42 #[.int .u64 n] W fun e W' => ∃ v, e = .returned v ∧ W'.ownsRow W.heap.size 5 1 v (Ck.uint n).length (dkCells (Ck.uint n)) ∧ Below W.heap.size W W' := by
  have hn2 := Ck.uint_inv n hn
  go_enter Tryz.func42, Tryz.ntmps42
  go_wp2_with fail
  go_loopw [0, 3] (fun xv ov wr => ∃ (k n' : Nat) (l' : Ck.Bs), xv = .int .u64 n' ∧ Hid (l' ++ Ck.uintF k n' = Ck.uint n) ∧ Hid (n' < 128 ^ k * 2) ∧ Hid (wr.ownsRow W.heap.size 5 1 ov l'.length (dkCells l')) ∧ Hid (Below W.heap.size W wr) ∧ Hid (l'.length + k ≤ 9)) (fun xv _ _ => (RowKit.intOf xv).toNat)
  case atStart => exact ⟨9, n, [], rfl, Lib.hid rfl, Lib.hid hn2, Lib.hid (World.ownsRow_nil _ _ _ _), Lib.hid (Below.refl _ _), Lib.hid (Nat.le_refl _)⟩
  case round =>
    obtain ⟨k, n', l', rfl, HE, HN, HO, HB, HLE⟩ := hrel
    have hn64 : n' < 18446744073709551616 := by
      have h1 := HN.out
      have h2 : (128 : Nat) ^ k ≤ 128 ^ 9 := Nat.pow_le_pow_right (by decide) (by have := HLE.out; omega)
      have h5 : (128 : Nat) ^ 9 = 9223372036854775808 := by decide +kernel
      rw [h5] at h2
      omega
    obtain ⟨oa, oc, rfl⟩ := own_slice HO.out
    by_cases hgt : 128 ≤ n'
    · have hgI : (128 : Int) ≤ (n' : Int) := by omega
      have hk : 0 < k := by
        rcases Nat.eq_zero_or_pos k with h0 | h0
        · have := HN.out
          rw [h0] at this
          simp at this
          omega
        · exact h0
      obtain ⟨j, rfl⟩ : ∃ j, k = j + 1 := ⟨k - 1, by omega⟩
      obtain ⟨c, hc⟩ : ∃ c, c = UInt8.ofNat (n' % 128 + 128) := ⟨_, rfl⟩
      have hct : c.toNat = n' % 128 + 128 := by rw [hc]; exact Ck.toNat_of (by omega)
      have hcI : IntKind.u8.wrap ((n' : Int) % 128 + 128) = (c.toNat : Int) := by
        rw [hct]
        show ((n' : Int) % 128 + 128) % 256 = _
        omega
      have hcJ : ((n' : Int) % 128) % 256 = (n' : Int) % 128 := by omega
      obtain ⟨v1, w1, hr1, ⟨a1, c1, rfl⟩, ho1, hb1⟩ := r8_push HO.out HB.out c (by have := HLE.out; omega)
      have HO1 := Lib.hid ho1
      have HB1 := Lib.hid hb1
      have HC := Lib.hid hc
      obtain ⟨m2, hm2⟩ : ∃ m2, m2 = n' / 128 := ⟨_, rfl⟩
      have hmI : (n' : Int) / 128 = (m2 : Int) := by omega
      have hmW : IntKind.u64.wrap (m2 : Int) = (m2 : Int) := wrapU64 (by omega)
      have HM := Lib.hid hm2
      clear hb1 ho1 hc hct hm2
      go_wp2_with (at_builtin; refine wpList_append_eq rfl _ _ _ rfl _ _ _ _ rfl rfl hr1 ?_)
      refine ⟨⟨j, m2, l' ++ [c], ?_, Lib.hid ?_, Lib.hid ?_, HO1, HB1, Lib.hid ?_⟩, ?_⟩
      · first | rfl | go_num
      · have e := HE.out
        rw [Ck.uintF_more hgt] at e
        rw [HM.out, HC.out, List.append_assoc]
        exact e
      · have e := HN.out
        rw [HM.out]
        rw [Nat.pow_succ] at e
        have e2 : 128 ^ j * 128 * 2 = (128 ^ j * 2) * 128 := by rw [Nat.mul_assoc, Nat.mul_assoc, Nat.mul_comm 128 2]
        rw [e2] at e
        exact Nat.div_lt_of_lt_mul (by rw [Nat.mul_comm]; exact e)
      · have := HLE.out
        rw [List.length_append, List.length_singleton]
        omega
      · have := HM.out
        simp [RowKit.intOf]
        omega
    · have hgI : ¬ (128 : Int) ≤ (n' : Int) := by omega
      obtain ⟨c, hc⟩ : ∃ c, c = UInt8.ofNat n' := ⟨_, rfl⟩
      have hct : c.toNat = n' := by rw [hc]; exact Ck.toNat_of (by omega)
      have hfin : l' ++ [c] = Ck.uint n := by
        have e := HE.out
        rw [Ck.uintF_last (by omega)] at e
        rw [← e, hc]
      obtain ⟨v1, w1, hr1, ⟨a1, c1, rfl⟩, ho1, hb1⟩ := r8_push HO.out HB.out c (by have := HLE.out; omega)
      rw [hct] at hr1
      rw [hfin] at ho1
      have HO1 := Lib.hid ho1
      have HB1 := Lib.hid hb1
      clear ho1 hb1 hc hct hfin
      go_wp2_with (at_builtin; refine wpList_append_eq rfl _ _ _ rfl _ _ _ _ rfl rfl hr1 ?_)
      go_ret
      exact ⟨_, rfl, HO1.out, HB1.out⟩

end Go.Proofs.YtamencnachmhoaaGreatDoor

namespace Go.Proofs.YtamencnachmhoaaGreatDoor
open Go.RowKit

theorem wrap_one {k : Nat} (hk : k ≤ 1000000000) : wrap64 (k : Int) = (k : Int) := by unfold wrap64; omega
theorem wrap_two {k n : Nat} (hk : k ≤ 1000000000) (hn : n ≤ 1048576) : IntKind.i64.wrap (n : Int) = (n : Int) ∧ IntKind.i64.wrap ((k : Int) + (n : Int)) = (k : Int) + (n : Int) ∧ wrap64 ((k : Int) + (n : Int)) = (k : Int) + (n : Int) :=
  ⟨IntWalk.i64_in _ (by omega), IntWalk.i64_in _ (by omega), by unfold wrap64; omega⟩

set_option maxRecDepth 100000 in
set_option maxHeartbeats 400000 in
theorem r8_rsErr (W : World) (bv : Value) (n k e0 : Int) (he : (e0 == 0) = false)
    (n1 : Calls Tryz.prog 51 #[bv] W fun e W' => e = .returned (.tuple #[.int .u64 n, .int .i64 k, .int .i64 e0]) ∧ W = W') :
    Calls Tryz.prog 108 #[bv] W fun e W' => e = .returned (.tuple #[.string ⟨#[]⟩, .int .i64 0, .int .i64 e0]) ∧ W = W' := by
  go_enter Tryz.func108, Tryz.ntmps108
  go_wp2_with fail
  refine n1.mono ?_
  rintro e w1 ⟨rfl, rfl⟩
  clear n1
  go_wp2_with fail
  go_ret3
  exact ⟨rfl, rfl⟩

set_option maxRecDepth 100000 in
set_option maxHeartbeats 400000 in
theorem r8_rsBig (W : World) (bv : Value) (n k : Int) (hb : 1048576 < n)
    (n1 : Calls Tryz.prog 51 #[bv] W fun e W' => e = .returned (.tuple #[.int .u64 n, .int .i64 k, .int .i64 0]) ∧ W = W') :
    Calls Tryz.prog 108 #[bv] W fun e W' => e = .returned (.tuple #[.string ⟨#[]⟩, .int .i64 0, .int .i64 5]) ∧ W = W' := by
  go_enter Tryz.func108, Tryz.ntmps108
  go_wp2_with fail
  refine n1.mono ?_
  rintro e w1 ⟨rfl, rfl⟩
  clear n1
  go_wp2_with fail
  go_ret3
  exact ⟨rfl, rfl⟩

set_option maxRecDepth 100000 in
set_option maxHeartbeats 400000 in
theorem r8_rsShort (W : World) (a : Option Addr) (l cap L : Nat) (n k : Int) (hb : ¬ 1048576 < n) (hL : (l : Int) - k = (L : Int)) (hw : IntKind.u64.wrap (L : Int) = (L : Int)) (hx : wrap64 (L : Int) = (L : Int)) (hs : (L : Int) < n)
    (n1 : Calls Tryz.prog 51 #[.slice a l cap] W fun e W' => e = .returned (.tuple #[.int .u64 n, .int .i64 k, .int .i64 0]) ∧ W = W') :
    Calls Tryz.prog 108 #[.slice a l cap] W fun e W' => e = .returned (.tuple #[.string ⟨#[]⟩, .int .i64 0, .int .i64 19]) ∧ W = W' := by
  go_enter Tryz.func108, Tryz.ntmps108
  go_wp2_with fail
  refine n1.mono ?_
  rintro e w1 ⟨rfl, rfl⟩
  clear n1
  go_wp2_with fail
  go_ret3
  exact ⟨rfl, rfl⟩

set_option maxRecDepth 100000 in
set_option maxHeartbeats 400000 in
theorem r8_rsOk (W : World) (g off l cap L k n : Nat) (q : Ck.Bs) (hb : ¬ (1048576 : Int) < (n : Int)) (hL : (l : Int) - (k : Int) = (L : Int)) (hw : IntKind.u64.wrap (L : Int) = (L : Int)) (hx : wrap64 (L : Int) = (L : Int)) (hs : ¬ (L : Int) < (n : Int))
    (i1 : IntKind.i64.wrap (n : Int) = (n : Int)) (i2 : IntKind.i64.wrap ((k : Int) + (n : Int)) = (k : Int) + (n : Int)) (i3 : wrap64 ((k : Int) + (n : Int)) = (k : Int) + (n : Int))
    (j1 : (k : Int) ≤ (k : Int) + (n : Int)) (j2 : (k : Int) + (n : Int) ≤ (cap : Int)) (j3 : ((k : Int) + (n : Int)).toNat = k + n) (j4 : k + n - k = n) (hc : ¬ cap = k)
    (c1 : (convert 22 9 (.slice (some ⟨g, off + k, none⟩) n (cap - k))).run Tryz.prog W = .ok (.string ⟨q.toArray⟩) W)
    (n1 : Calls Tryz.prog 51 #[.slice (some ⟨g, off, none⟩) l cap] W fun e W' => e = .returned (.tuple #[.int .u64 n, .int .i64 k, .int .i64 0]) ∧ W = W') :
    Calls Tryz.prog 108 #[.slice (some ⟨g, off, none⟩) l cap] W fun e W' => e = .returned (.tuple #[.string ⟨q.toArray⟩, .int .i64 ((k : Int) + (n : Int)), .int .i64 0]) ∧ W = W' := by
  go_enter Tryz.func108, Tryz.ntmps108
  go_wp2_with fail
  refine n1.mono ?_
  rintro e w1 ⟨rfl, rfl⟩
  clear n1
  go_wp2_with fail
  go_ret3
  exact ⟨rfl, rfl⟩

set_option maxRecDepth 100000 in
set_option maxHeartbeats 400000 in
theorem r8_rsEnd (W : World) (g off l k : Nat) (hL : (l : Int) - (k : Int) = 0)
    (c1 : (convert 22 9 (.slice (some ⟨g, off, none⟩) 0 0)).run Tryz.prog W = .ok (.string ⟨#[]⟩) W)
    (i1 : wrap64 (k : Int) = (k : Int)) (h1 : Hid (wrap64 (k : Int) = (k : Int)))
    (n1 : Calls Tryz.prog 51 #[.slice (some ⟨g, off, none⟩) l k] W fun e W' => e = .returned (.tuple #[.int .u64 0, .int .i64 k, .int .i64 0]) ∧ W = W') :
    Calls Tryz.prog 108 #[.slice (some ⟨g, off, none⟩) l k] W fun e W' => e = .returned (.tuple #[.string ⟨#[]⟩, .int .i64 k, .int .i64 0]) ∧ W = W' := by
  go_enter Tryz.func108, Tryz.ntmps108
  go_wp2_with fail
  refine n1.mono ?_
  rintro e w1 ⟨rfl, rfl⟩
  clear n1
  go_wp2_with fail
  go_ret3
  refine ⟨?_, rfl⟩
  show Ending.returned (.tuple #[.string ⟨#[]⟩, .int .i64 (wrap64 (k : Int)), .int .i64 0]) = _
  rw [h1.out]

theorem r8_wrap_one {k : Nat} (hk : k ≤ 1000000000) : wrap64 (k : Int) = (k : Int) := by unfold wrap64; omega
theorem r8_wrap_two {k n : Nat} (hk : k ≤ 1000000000) (hn : n ≤ 1048576) : IntKind.i64.wrap ((k : Int) + (n : Int)) = (k : Int) + (n : Int) ∧ wrap64 ((k : Int) + (n : Int)) = (k : Int) + (n : Int) :=
  ⟨IntWalk.i64_in _ (by omega), by unfold wrap64; omega⟩

set_option maxRecDepth 100000 in
theorem r8_readString (W : World) (bv : Value) (b : Ck.Bs) (hb : RdB W W.heap.size bv b) (hl : b.length ≤ 1000000000) :
    Calls Tryz.prog 108 #[bv] W fun e W' => e = .returned (.tuple #[.string ⟨(Ck.readB b).1.toArray⟩, .int .i64 (Ck.readB b).2.1, .int .i64 (Ck.readB b).2.2]) ∧ W = W' := by
  have n1 := r8_ReadUint W bv b hb hl
  have hrb : Ck.readB b = if (Ck.readU b).2.2 ≠ 0 then ([], 0, (Ck.readU b).2.2) else if 1048576 < (Ck.readU b).1 then ([], 0, 5) else if b.length - (Ck.readU b).2.1 < (Ck.readU b).1 then ([], 0, 19)
      else ((b.drop (Ck.readU b).2.1).take (Ck.readU b).1, (Ck.readU b).2.1 + (Ck.readU b).1, 0) := rfl
  obtain ⟨r, hr⟩ : ∃ r, r = Ck.readU b := ⟨_, rfl⟩
  rw [← hr] at n1 hrb
  obtain ⟨n, k, e0⟩ := r
  simp only [] at n1 hrb
  by_cases he : e0 = 0
  · subst he
    obtain ⟨-, hk0, hkl, -⟩ := Ck.readU_sound hr.symm
    rw [if_neg (by simp)] at hrb
    by_cases hbig : 1048576 < n
    · rw [hrb, if_pos hbig]
      exact r8_rsBig W bv n k (by omega) n1
    · rw [if_neg hbig] at hrb
      obtain ⟨a0, cap0, rfl⟩ := hb.form
      by_cases hsh : b.length - k < n
      · rw [hrb, if_pos hsh]
        exact r8_rsShort W a0 b.length cap0 (b.length - k) n k (by omega) (by omega) (wrapU64 (by omega)) (r8_wrap_one (by omega)) (by omega) n1
      · rw [hrb, if_neg hsh]
        obtain ⟨g, off, rfl, -⟩ := hb.at 0 (by omega)
        obtain ⟨hpt, hcap⟩ := hb.part k n (by omega) (by omega)
        by_cases hc : cap0 = k
        · have hn0 : n = 0 := by omega
          subst hn0
          subst hc
          have c1 := dk_conv (W := W) (B := W.heap.size) (v := .slice (some ⟨g, off, none⟩) 0 0) (l := []) (.inl ⟨rfl, _, _, rfl⟩) W rfl
          exact r8_rsEnd W g off b.length cap0 (by omega) c1 (r8_wrap_one (by omega)) (Lib.hid (r8_wrap_one (by omega))) n1
        · exact r8_rsOk W g off b.length cap0 (b.length - k) k n _ (by omega) (by omega) (wrapU64 (by omega)) (r8_wrap_one (by omega)) (by omega) (IntWalk.i64_in _ (by omega)) (r8_wrap_two (by omega) (by omega)).1 (r8_wrap_two (by omega) (by omega)).2
            (by omega) (by omega) (by omega) (by omega) hc (by have c1 := dk_conv hpt W rfl; exact c1) n1
  · rw [hrb, if_pos he]
    exact r8_rsErr W bv n k e0 (by rw [beq_eq_false_iff_ne]; exact he) n1

end Go.Proofs.YtamencnachmhoaaGreatDoor

namespace Go.Proofs.YtamencnachmhoaaGreatDoor
open Go.RowKit

/-- a value that is a string -/
def r8S (s : ByteArray) : Value := .agg #[.int .i64 3, .int .u64 0, .int .i64 0, .bool false, .string s, .slice none 0 0]

theorem r8_store6 {w : World} {b : Nat} {t : TypeId} {x0 x1 x2 x3 x4 x5 v0 v1 v2 v3 v4 v5 : Value} (h : w.heap[b]? = some (.cells #[x0, x1, x2, x3, x4, x5] t (0, 0))) :
    ((((((w.setCell ⟨b, 0, none⟩ v0).setCell ⟨b, 1, none⟩ v1).setCell ⟨b, 2, none⟩ v2).setCell ⟨b, 3, none⟩ v3).setCell ⟨b, 4, none⟩ v4).setCell ⟨b, 5, none⟩ v5).heap[b]? = some (.cells #[v0, v1, v2, v3, v4, v5] t (0, 0)) := by
  have h1 := dk_setCell w b 0 _ _ v0 h
  have h2 := dk_setCell _ b 1 _ _ v1 h1
  have h3 := dk_setCell _ b 2 _ _ v2 h2
  have h4 := dk_setCell _ b 3 _ _ v3 h3
  have h5 := dk_setCell _ b 4 _ _ v4 h4
  have h6 := dk_setCell _ b 5 _ _ v5 h5
  exact h6

theorem r8_results3 {P : Program} {fn : Func} {p u v : Tmp} {ty : TypeId} (h : fn.results = #[.cell p ty, .tmp u, .tmp v]) (tmps : Array Value) (w : World) (g : Nat) (t : TypeId) (cs : Array Value) (fr : Nat × Nat) (d : TypeDesc)
    (hp : tmps.getD p undef = .pointer (some ⟨g, 0, none⟩)) (hg : w.heap[g]? = some (.cells cs t fr))
    (hu : P.underlying ty = some d) (hd : (match d with | .struct _ | .array _ _ => true | _ => false) = true) (hi : (P.info? ty).map (·.size) = some cs.size) :
    (results fn tmps).run P w = .ok (.tuple #[.agg cs, tmps.getD u undef, tmps.getD v undef]) w := by
  have hp' : tmps[p]?.getD undef = .pointer (some ⟨g, 0, none⟩) := by simpa using hp
  simp [results, h, hp', asAddr, run_loadVar_row w g t ty cs fr d hg hu hd hi]

set_option maxRecDepth 100000 in
set_option maxHeartbeats 1000000 in
theorem r8_Read3 (W : World) (bv : Value) (b : Ck.Bs) (hb : RdB W W.heap.size bv b) (hl : b.length ≤ 1000000000) :
    Calls Tryz.prog 52 #[.int .i64 3, bv, .int .i64 0] W fun e W' => e = .returned (.tuple #[r8S ⟨(Ck.readB b).1.toArray⟩, .int .i64 (Ck.readB b).2.1, .int .i64 (Ck.readB b).2.2]) ∧ Below W.heap.size W W' := by
  have n1 : Hid (∀ w, Below W.heap.size W w → Calls Tryz.prog 108 #[bv] w fun e W' => e = .returned (.tuple #[.string ⟨(Ck.readB b).1.toArray⟩, .int .i64 (Ck.readB b).2.1, .int .i64 (Ck.readB b).2.2]) ∧ w = W') :=
    Lib.hid (fun w hw => r8_readString w bv b ((hb.below hw).mono hw.size) hl)
  obtain ⟨a, cap, rfl⟩ := hb.form
  unfold r8S
  generalize Ck.readB b = r at *
  obtain ⟨s, k, e0⟩ := r
  simp only [] at n1 ⊢
  clear hb
  go_enter Tryz.func52, Tryz.ntmps52
  go_wp2_with fail
  refine (n1.out _ ?_).mono ?_
  · exact (((Below.refl _ _).alloc (Nat.le_refl _) _).alloc (by simp) _)
  rintro e w1 ⟨rfl, rfl⟩
  clear n1
  go_wp2_with fail
  refine bodyPost_ret (r8_results3 rfl _ _ W.heap.size _ _ (0, 0) _ rfl (by rw [Below.heap_alloc _ _ _ (by simp)]; exact World.alloc_heap_new W _) Tryz.underlying85 rfl (by kernel_rfl)) rfl ?_
  exact ⟨rfl, ((Below.refl _ _).alloc (Nat.le_refl _) _).alloc (by simp) _⟩

/-! ### Encode of a string -/
theorem r8_strCells (s : ByteArray) : Lib.strCells s = dkCells s.data.toList := rfl

set_option maxRecDepth 100000 in
/-- a string behind a row, as a step of a region that draws its order -/
theorem step_str_append {W w : World} {ops : Array Oper} {o : Oper} {a : Act} {K : Act → World → Prop} {Q : Exit → Act → World → Prop} {E : Prop} (hgd : o.guard = none) (s x : Operand)
    (ho : o.op = .call { callee := .builtin .append, args := #[s, x], argTypes := #[22, 9] })
    {v : Value} {l0 : Dk.Bs} {t : ByteArray} (hs : a.eval s = v) (hx : a.eval x = .string t) (hb : Below W.heap.size W w) (hown : w.ownsRow W.heap.size 5 1 v l0.length (dkCells l0)) (hl : l0.length + t.size ≤ 100000000)
    (h : ∀ v1 w1, w1.ownsRow W.heap.size 5 1 v1 (l0 ++ t.data.toList).length (dkCells (l0 ++ t.data.toList)) → Below W.heap.size W w1 → K (a.put o.dst v1) w1) :
    if Region.wanted o (yielded ops a.tmps) = true then Oper.wp Tryz.prog o a w K Q else E := by
  obtain ⟨i0, hi, hz0, hz1, hz2⟩ := info_parts dk_infoByte
  obtain ⟨v1, w1, r1, o1, g1, -⟩ := Lib.run_append_own_string (P := Tryz.prog) w W.heap.size 22 9 o.type 5 i0 Tryz.underlying22 Tryz.underlying9 hi hz0 hz1 hz2 v l0.length (dkCells l0) hown t (by unfold maxLen; omega) (by omega) hb.size
  rw [r8_strCells, ← dkCells_append, show l0.length + t.size = (l0 ++ t.data.toList).length from by rw [List.length_append, Array.length_toList]; rfl] at o1
  rw [if_pos (by simp [Region.wanted, hgd])]
  exact Lib.wp_append_run w s x _ _ ho _ _ hs hx _ _ r1 (h v1 w1 o1 (hb.grown g1 hb.size (fun k hk => (hown.lt k hk).1)))

theorem r8_S_step {W w w3 : World} {x0 : Value} {q : Addr} (H : Below W.heap.size W w ∧ w.cell? q = some x0) (hb : Below w.heap.size w w3) : Below W.heap.size W w3 ∧ w3.cell? q = some x0 :=
  ⟨H.1.trans (hb.mono H.1.size), (hb.cell (World.block_lt_of_cell? w _ H.2)).trans H.2⟩
theorem r8_S_cell {W1 w : World} {x0 : Value} {q : Addr} (H : W1.cell? q = some x0) (hb : Below W1.heap.size W1 w) : Below W1.heap.size W1 w ∧ w.cell? q = some x0 := ⟨hb, (hb.cell (World.block_lt_of_cell? W1 _ H)).trans H⟩
theorem r8_S_drew {W w : World} {x0 : Value} {q : Addr} (H : Below W.heap.size W w ∧ w.cell? q = some x0) : Below W.heap.size W w.drew ∧ w.drew.cell? q = some x0 := ⟨H.1.drew, H.2⟩

set_option maxRecDepth 100000 in
set_option maxHeartbeats 1000000 in
theorem r8_EncodeS (W : World) (s : ByteArray) (hs : s.size ≤ 10000000) (hw : IntKind.u64.wrap (s.size : Int) = (s.size : Int)) :
    Calls Tryz.prog 43 #[r8S s] W fun e W' => ∃ v, e = .returned v ∧ W'.ownsRow W.heap.size 5 1 v (Ck.uint s.size ++ s.data.toList).length (dkCells (Ck.uint s.size ++ s.data.toList)) ∧ Below W.heap.size W W' := by
  have nU : Hid (∀ w, Calls Tryz.prog 42 #[.int .u64 s.size] w fun e W' => ∃ v, e = .returned v ∧ W'.ownsRow w.heap.size 5 1 v (Ck.uint s.size).length (dkCells (Ck.uint s.size)) ∧ Below w.heap.size w W') :=
    Lib.hid (fun w => r8_Uint w s.size (by omega))
  have hul := Ck.uint_length s.size
  unfold r8S
  go_enter Tryz.func43, Tryz.ntmps43
  go_wp2_with fail
  obtain ⟨W1, hW1⟩ : ∃ W1, W1 = W.alloc (Obj.cells #[.int .i64 3, .int .u64 0, .int .i64 0, .bool false, .string s, .slice none 0 0] 85) := ⟨_, rfl⟩
  have HB1 : Hid (Below W.heap.size W W1) := Lib.hid (by rw [hW1]; exact (Below.refl _ _).alloc (Nat.le_refl _) _)
  have HC1 : Hid (W1.cell? ⟨W.heap.size, 4, none⟩ = some (.string s)) := Lib.hid (by rw [hW1, cell_of_row _ _ _ _ _ _ (World.alloc_heap_new W _)]; rfl)
  have hS0 : Below W1.heap.size W1 W1 ∧ W1.cell? ⟨W.heap.size, 4, none⟩ = some (.string s) := ⟨Below.refl _ _, HC1.out⟩
  rw [← hW1]
  clear hW1
  go_region_held3 (fun w' => Below W1.heap.size W1 w' ∧ w'.cell? ⟨W.heap.size, 4, none⟩ = some (.string s))
    (first | assumption | exact r8_S_drew (by assumption))
    (first
      | (go_at_call 42; refine (nU.out _).mono ?_; rintro e w4 ⟨v4, rfl, o4, b4⟩; have hS4 := r8_S_step (by assumption) b4; have hO4 := owns_mono o4 (Below.size (And.left (by assumption))))
      | (refine step_str_append (W := W1) rfl _ _ rfl (l0 := Ck.uint s.size) (t := s) rfl rfl (And.left (by assumption)) (by assumption) (by omega) ?_; intro v6 w6 o6 hB6; have hS6 := r8_S_cell HC1.out hB6))
  go_wp2_with fail
  go_ret
  exact ⟨_, rfl, owns_mono (by assumption) HB1.out.size, HB1.out.trans (Below.mono (by assumption) HB1.out.size)⟩

set_option maxRecDepth 100000 in
set_option maxHeartbeats 1000000 in
theorem r12_EncodeOk (W : World) (m : Nat) (a0 : Option Addr) (cap0 : Nat) (d : Ck.Bs) (hd : RdB W W.heap.size (.slice a0 d.length cap0) d) (i1 : ¬ (m : Int) < 0) (i2 : ¬ (1000000000 : Int) < (m : Int)) (i3 : ¬ (1000000 : Int) < (d.length : Int)) (i4 : IntKind.u64.wrap (m : Int) = (m : Int)) (hm : m ≤ 1000000000) (hl : d.length ≤ 1000000) :
    Calls Tryz.prog 14 #[.int .i64 m, .slice a0 d.length cap0] W fun e W' => ∃ v, e = .returned (.tuple #[v, .int .i64 0]) ∧ W'.ownsRow W.heap.size 5 1 v (Ck.encode m d).length (dkCells (Ck.encode m d)) ∧ Below W.heap.size W W' := by
  have nU : Hid (∀ w, Calls Tryz.prog 42 #[.int .u64 m] w fun e W' => ∃ v, e = .returned v ∧ W'.ownsRow w.heap.size 5 1 v (Ck.uint m).length (dkCells (Ck.uint m)) ∧ Below w.heap.size w W') :=
    Lib.hid (fun w => r8_Uint w m (by omega))
  have nE : Hid (∀ w, Calls Tryz.prog 43 #[.agg #[.int .i64 3, .int .u64 0, .int .i64 0, .bool false, .string ⟨d.toArray⟩, .slice none 0 0]] w fun e W' => ∃ v, e = .returned v ∧ W'.ownsRow w.heap.size 5 1 v (Ck.uint d.length ++ d).length (dkCells (Ck.uint d.length ++ d)) ∧ Below w.heap.size w W') :=
    Lib.hid (fun w => by
      have hz : (⟨d.toArray⟩ : ByteArray).size = d.length := by show d.toArray.size = _; simp
      have h := r8_EncodeS w ⟨d.toArray⟩ (by rw [hz]; omega) (by rw [hz]; exact wrapU64 (by omega))
      rw [hz] at h
      exact h)
  have hul := Ck.uint_length m
  have hul2 := Ck.uint_length d.length
  obtain ⟨en, hen⟩ : ∃ en, en = Ck.encode m d := ⟨_, rfl⟩
  rw [← hen]
  have HEN : Hid (en = Wl.enc (Ck.body m d)) := Lib.hid hen
  clear hen
  have HD := Lib.hid hd
  have HC : Hid (∀ w, Below W.heap.size W w → (convert 22 9 (.slice a0 d.length cap0)).run Tryz.prog w = .ok (.string ⟨d.toArray⟩) w) := Lib.hid (fun w hw => dk_conv (HD.out.below hw) w rfl)
  clear hd
  go_enter Tryz.func14, Tryz.ntmps14
  go_wp2_with fail
  have hS0 : Below W.heap.size W W ∧ (convert 22 9 (.slice a0 d.length cap0)).run Tryz.prog W = .ok (.string ⟨d.toArray⟩) W := ⟨Below.refl _ _, HC.out _ (Below.refl _ _)⟩
  go_region_held3 (fun w' => Below W.heap.size W w' ∧ (convert 22 9 (.slice a0 d.length cap0)).run Tryz.prog w' = .ok (.string ⟨d.toArray⟩) w')
    (first | assumption | exact ⟨Below.drew (And.left (by assumption)), HC.out _ (Below.drew (And.left (by assumption)))⟩)
    (first
      | (go_at_call 42; refine (nU.out _).mono ?_; rintro e w4 ⟨v4, rfl, o4, b4⟩; have hB4 := next_S (And.left (by assumption)) b4; have hS4 := And.intro hB4 (HC.out _ hB4); have hO4 := owns_mono o4 (Below.size (And.left (by assumption))))
      | (go_at_call 43; refine (nE.out _).mono ?_; rintro e w5 ⟨v5, rfl, o5, b5⟩; have hB5 := next_S (And.left (by assumption)) b5; have hS5 := And.intro hB5 (HC.out _ hB5); have hO5 := owns_below hO4 b5)
      | (refine step_bytes_append (W := W) rfl _ _ rfl (l0 := Ck.uint m) (l := Ck.uint d.length ++ d) rfl rfl (And.left (by assumption)) (by assumption) (RdB.of_own (by assumption)) (by rw [List.length_append]; omega) ?_; intro v6 w6 o6 hB6; have hS6 := And.intro hB6 (HC.out _ hB6)))
  have hen := HEN.out
  have hbl : (Ck.body m d).length ≤ 1048576 := by unfold Ck.body; simp only [List.length_append]; omega
  have hbd : Ck.uint m ++ (Ck.uint d.length ++ d) = Ck.body m d := rfl
  rw [hbd] at o6
  clear hS0 hB4 hS4 hO4 hB5 hS5 hO5 hS6 o4 o5 b4 b5 hbd nU nE HC HEN
  generalize Ck.body m d = bd at *
  have n6 := r9_Encode w6 v6 bd (RdB.of_own o6) hbl
  rw [← hen] at n6
  have HB6 := Lib.hid hB6
  obtain ⟨z6, hz6⟩ : ∃ z, z = bd.length := ⟨_, rfl⟩
  rw [← hz6] at o6
  obtain ⟨a6, c6, rfl⟩ := own_slice o6
  clear hB6 o6 hz6 hbl hen
  go_wp2_with fail
  refine n6.mono ?_
  rintro e w7 ⟨v7, rfl, o7, b7⟩
  clear n6
  go_wp2_with fail
  go_ret2
  exact ⟨_, rfl, owns_mono o7 HB6.out.size, HB6.out.trans (b7.mono HB6.out.size)⟩

theorem r12_EncodeBad (W : World) (n : Int) (a0 : Option Addr) (l0 cap0 : Nat) (x1 x2 : Bool) (h1 : decide (n < 0) = x1) (h2 : decide (1000000000 < n) = x2) (hx : (x1 || x2) = true) :
    Calls Tryz.prog 14 #[.int .i64 n, .slice a0 l0 cap0] W fun e W' => e = .returned (.tuple #[.slice none 0 0, .int .i64 2]) ∧ W = W' := by
  cases x1
  all_goals cases x2
  all_goals try (exact absurd hx (by decide))
  all_goals
    simp only [decide_eq_true_eq, decide_eq_false_iff_not] at h1 h2
    go_enter Tryz.func14, Tryz.ntmps14
    go_wp2_with fail
    go_ret2
    exact ⟨rfl, rfl⟩

theorem r12_EncodeLong (W : World) (n : Int) (a0 : Option Addr) (l0 cap0 : Nat) (h1 : ¬ n < 0) (h2 : ¬ 1000000000 < n) (h3 : (1000000 : Int) < (l0 : Int)) :
    Calls Tryz.prog 14 #[.int .i64 n, .slice a0 l0 cap0] W fun e W' => e = .returned (.tuple #[.slice none 0 0, .int .i64 5]) ∧ W = W' := by
  go_enter Tryz.func14, Tryz.ntmps14
  go_wp2_with fail
  go_ret2
  exact ⟨rfl, rfl⟩

set_option maxRecDepth 100000 in
theorem r12_Encode (W : World) (n : Int) (bv : Value) (d : Ck.Bs) (hd : RdB W W.heap.size bv d) :
    Calls Tryz.prog 14 #[.int .i64 n, bv] W fun e W' => ∃ v, e = .returned (.tuple #[v, .int .i64 (Ck.encodeC n d).2]) ∧ W'.ownsRow W.heap.size 5 1 v (Ck.encodeC n d).1.length (dkCells (Ck.encodeC n d).1) ∧ Below W.heap.size W W' := by
  obtain ⟨a0, cap0, rfl⟩ := hd.form
  by_cases hr : n < 0 ∨ 1000000000 < n
  · rw [show Ck.encodeC n d = ([], 2) from by unfold Ck.encodeC; rw [if_pos hr]]
    refine (r12_EncodeBad W n a0 d.length cap0 _ _ rfl rfl (by simpa using hr)).mono ?_
    rintro e w ⟨rfl, rfl⟩
    exact ⟨_, rfl, World.ownsRow_nil _ _ _ _, Below.refl _ _⟩
  · by_cases hl : 1000000 < d.length
    · rw [show Ck.encodeC n d = ([], 5) from by unfold Ck.encodeC; rw [if_neg hr, if_pos hl]]
      refine (r12_EncodeLong W n a0 d.length cap0 (fun h => hr (.inl h)) (fun h => hr (.inr h)) (by omega)).mono ?_
      rintro e w ⟨rfl, rfl⟩
      exact ⟨_, rfl, World.ownsRow_nil _ _ _ _, Below.refl _ _⟩
    · obtain ⟨m, rfl⟩ : ∃ m : Nat, n = m := ⟨n.toNat, by omega⟩
      rw [show Ck.encodeC (m : Int) d = (Ck.encode m d, 0) from by unfold Ck.encodeC; rw [if_neg hr, if_neg hl]; rfl]
      exact r12_EncodeOk W m a0 cap0 d hd (by omega) (by omega) (by omega) (wrapU64 (by omega)) (by omega) (by omega)

theorem step_convert_eq {P : Program} {w : World} {ops : Array Oper} {o : Oper} {a : Act} {K : Act → World → Prop} {Q : Exit → Act → World → Prop} {E : Prop} (hgd : o.guard = none) (s : Operand) (t u : TypeId)
    (ho : o.op = .convert t u s) (v v' : Value) (w' : World) (hs : a.eval s = v) (hrun : (convert t u v).run P w = .ok v' w') (h : K (a.put o.dst v') w') :
    if Region.wanted o (yielded ops a.tmps) = true then Oper.wp P o a w K Q else E := by
  have hw : Region.wanted o (yielded ops a.tmps) = true := by simp [Region.wanted, hgd]
  rw [if_pos hw]
  unfold Oper.wp execOp
  simp only [ho, Sem.run_bind, Sem.run_pure, Result.andThen_ok, hs, hrun]
  exact h

theorem r8_bytesBelow {W w : World} (hb : Below W.heap.size W w) (e : TypeId) (s : ByteArray) : Below W.heap.size W (Lib.bytesWorld w e s) :=
  ⟨hb.os, hb.tape, hb.output, by rw [Lib.bytesWorld_size]; have := hb.size; omega, fun j hj => (Lib.bytesWorld_at_old w e s j (by have := hb.size; omega)).trans (hb.block j hj)⟩
theorem r8_S_bytes {W w : World} {x0 : Value} {q : Addr} (hlt : q.block < W.heap.size) (H : W.cell? q = some x0) (hb : Below W.heap.size W w) (s : ByteArray) : Below W.heap.size W (Lib.bytesWorld w 5 s) ∧ (Lib.bytesWorld w 5 s).cell? q = some x0 :=
  ⟨r8_bytesBelow hb _ s, ((r8_bytesBelow hb _ s).cell hlt).trans H⟩
theorem r8_bytesRd (w : World) (s : ByteArray) : RdB (Lib.bytesWorld w 5 s) (Lib.bytesWorld w 5 s).heap.size (.slice (some ⟨w.heap.size, 0, none⟩) s.size (grownCap w s.size 0 5)) s.data.toList := by
  refine .inr ⟨w.heap.size, 0, _, rfl, ?_, by rw [Lib.bytesWorld_size]; omega, by rw [Lib.bytesWorld_size]; omega, fun j c hj => ?_⟩
  · have h : s.data.toList.length = s.size := by simp
    rw [h]; exact grownCap_ge _ _ _ _
  · have hl := (List.getElem?_eq_some_iff.1 hj).1
    rw [Nat.zero_add, Lib.bytesWorld_cell _ _ _ _ (by simpa using hl), List.getD_eq_getElem?_getD, hj]
    rfl

/-! ### Decode -/
set_option maxRecDepth 100000 in
set_option maxHeartbeats 1000000 in
theorem r12_dA (W : World) (a0 : Option Addr) (l0 cap0 : Nat) (size : Int) (er : Int) (he : (er == 0) = false)
    (n1 : Calls Tryz.prog 50 #[.slice a0 l0 cap0] W fun e W1 => ∃ v, e = .returned (.tuple #[v, .int .i64 size, .int .i64 er]) ∧ Below W.heap.size W W1) :
    Calls Tryz.prog 16 #[.slice a0 l0 cap0] W fun e W' => ∃ v, e = .returned (.tuple #[.int .i64 0, v, .int .i64 er]) ∧ RdB W' W'.heap.size v [] ∧ Below W.heap.size W W' := by
  go_enter Tryz.func16, Tryz.ntmps16
  go_wp2_with fail
  refine n1.mono ?_
  rintro e W1 ⟨v1, rfl, b1⟩
  clear n1
  go_wp2_with fail
  go_ret3
  exact ⟨_, rfl, .inl ⟨rfl, _, _, rfl⟩, b1⟩

set_option maxRecDepth 100000 in
set_option maxHeartbeats 1000000 in
theorem r12_dB (W : World) (a0 : Option Addr) (l0 cap0 : Nat) (size : Int) (hs : size < (l0 : Int))
    (n1 : Calls Tryz.prog 50 #[.slice a0 l0 cap0] W fun e W1 => ∃ v, e = .returned (.tuple #[v, .int .i64 size, .int .i64 0]) ∧ Below W.heap.size W W1) :
    Calls Tryz.prog 16 #[.slice a0 l0 cap0] W fun e W' => ∃ v, e = .returned (.tuple #[.int .i64 0, v, .int .i64 5]) ∧ RdB W' W'.heap.size v [] ∧ Below W.heap.size W W' := by
  go_enter Tryz.func16, Tryz.ntmps16
  go_wp2_with fail
  refine n1.mono ?_
  rintro e W1 ⟨v1, rfl, b1⟩
  clear n1
  go_wp2_with fail
  go_ret3
  exact ⟨_, rfl, .inl ⟨rfl, _, _, rfl⟩, b1⟩

set_option maxRecDepth 100000 in
set_option maxHeartbeats 1000000 in
theorem r12_dC (W : World) (a0 : Option Addr) (l0 cap0 : Nat) (size : Int) (T : Value → World → Prop) (n : Nat) (k : Nat) (eu : Int) (he : (eu == 0) = false) (hs : ¬ size < (l0 : Int))
    (n1 : Calls Tryz.prog 50 #[.slice a0 l0 cap0] W fun e W1 => ∃ v, e = .returned (.tuple #[v, .int .i64 size, .int .i64 0]) ∧ Hid (T v W1 ∧ Below W.heap.size W W1))
    (n2 : Hid (∀ v W1, T v W1 → Calls Tryz.prog 51 #[v] W1 fun e W' => e = .returned (.tuple #[.int .u64 n, .int .i64 k, .int .i64 eu]) ∧ W1 = W')) :
    Calls Tryz.prog 16 #[.slice a0 l0 cap0] W fun e W' => ∃ v, e = .returned (.tuple #[.int .i64 0, v, .int .i64 eu]) ∧ RdB W' W'.heap.size v [] ∧ Below W.heap.size W W' := by
  go_enter Tryz.func16, Tryz.ntmps16
  go_wp2_with fail
  refine n1.mono ?_
  rintro e W1 ⟨v, rfl, HT⟩
  have m2 := n2.out v W1 HT.out.1
  clear n1 n2
  go_wp2_with fail
  refine m2.mono ?_
  rintro e w2 ⟨rfl, rfl⟩
  clear m2
  go_wp2_with fail
  go_ret3
  exact ⟨_, rfl, .inl ⟨rfl, _, _, rfl⟩, HT.out.2⟩

set_option maxRecDepth 100000 in
set_option maxHeartbeats 1000000 in
theorem r12_dD (W : World) (a0 : Option Addr) (l0 cap0 : Nat) (size : Int) (T : Nat → Nat → Nat → World → Prop) (L k : Nat) (n m : Nat) (q : Ck.Bs) (j1 : (k : Int) ≤ (L : Int)) (eb : Int) (he : (eb == 0) = false) (hs : ¬ size < (l0 : Int))
    (n1 : Calls Tryz.prog 50 #[.slice a0 l0 cap0] W fun e W1 => ∃ g off c1, e = .returned (.tuple #[.slice (some ⟨g, off, none⟩) L c1, .int .i64 size, .int .i64 0]) ∧ (L : Int) ≤ (c1 : Int) ∧ (k : Int) ≤ (c1 : Int) ∧ ¬ c1 = k ∧ Hid (T g off c1 W1 ∧ Below W.heap.size W W1))
    (n2 : Hid (∀ g off c1 W1, T g off c1 W1 → Calls Tryz.prog 51 #[.slice (some ⟨g, off, none⟩) L c1] W1 fun e W' => e = .returned (.tuple #[.int .u64 n, .int .i64 (k : Nat), .int .i64 0]) ∧ W1 = W'))
    (n3 : Hid (∀ g off c1 W1, T g off c1 W1 → Calls Tryz.prog 52 #[.int .i64 3, .slice (some ⟨g, off + k, none⟩) (L - k) (c1 - k), .int .i64 0] W1 fun e W' => e = .returned (.tuple #[.agg #[.int .i64 3, .int .u64 0, .int .i64 0, .bool false, .string ⟨q.toArray⟩, .slice none 0 0], .int .i64 (m : Nat), .int .i64 eb]) ∧ Below W1.heap.size W1 W')) :
    Calls Tryz.prog 16 #[.slice a0 l0 cap0] W fun e W' => ∃ v, e = .returned (.tuple #[.int .i64 0, v, .int .i64 eb]) ∧ RdB W' W'.heap.size v [] ∧ Below W.heap.size W W' := by
  go_enter Tryz.func16, Tryz.ntmps16
  go_wp2_with fail
  refine n1.mono ?_
  rintro e W1 ⟨g, off, c1, rfl, h1, h2, h3, HT⟩
  have m2 := n2.out g off c1 W1 HT.out.1
  clear n1 n2
  go_wp2_with fail
  refine m2.mono ?_
  rintro e w2 ⟨rfl, rfl⟩
  clear m2
  have m3 := n3.out g off c1 W1 HT.out.1
  clear n3
  go_wp2_with fail
  refine m3.mono ?_
  rintro e w3 ⟨rfl, b3⟩
  have HB3 : Hid (Below W.heap.size W w3) := Lib.hid (HT.out.2.trans (b3.mono HT.out.2.size))
  clear m3 b3
  go_wp2_with fail
  go_ret3
  exact ⟨_, rfl, .inl ⟨rfl, _, _, rfl⟩, HB3.out.alloc HB3.out.size _⟩

set_option maxRecDepth 100000 in
set_option maxHeartbeats 1000000 in
theorem r12_dD0 (W : World) (a0 : Option Addr) (l0 cap0 : Nat) (size : Int) (T : Nat → Nat → Nat → World → Prop) (L k : Nat) (n m : Nat) (q : Ck.Bs) (j1 : (k : Int) ≤ (L : Int)) (eb : Int) (he : (eb == 0) = false) (hs : ¬ size < (l0 : Int))
    (n1 : Calls Tryz.prog 50 #[.slice a0 l0 cap0] W fun e W1 => ∃ g off c1, e = .returned (.tuple #[.slice (some ⟨g, off, none⟩) L c1, .int .i64 size, .int .i64 0]) ∧ (L : Int) ≤ (c1 : Int) ∧ (k : Int) ≤ (c1 : Int) ∧ L - k = 0 ∧ Hid (T g off c1 W1 ∧ Below W.heap.size W W1))
    (n2 : Hid (∀ g off c1 W1, T g off c1 W1 → Calls Tryz.prog 51 #[.slice (some ⟨g, off, none⟩) L c1] W1 fun e W' => e = .returned (.tuple #[.int .u64 n, .int .i64 (k : Nat), .int .i64 0]) ∧ W1 = W'))
    (n3 : Hid (∀ g off c1 W1, T g off c1 W1 → Calls Tryz.prog 52 #[.int .i64 3, .slice (some ⟨g, off, none⟩) 0 0, .int .i64 0] W1 fun e W' => e = .returned (.tuple #[.agg #[.int .i64 3, .int .u64 0, .int .i64 0, .bool false, .string ⟨q.toArray⟩, .slice none 0 0], .int .i64 (m : Nat), .int .i64 eb]) ∧ Below W1.heap.size W1 W'))
    (n4 : Hid (∀ g off c1 W1, T g off c1 W1 → Calls Tryz.prog 52 #[.int .i64 3, .slice (some ⟨g, off + k, none⟩) 0 (c1 - k), .int .i64 0] W1 fun e W' => e = .returned (.tuple #[.agg #[.int .i64 3, .int .u64 0, .int .i64 0, .bool false, .string ⟨q.toArray⟩, .slice none 0 0], .int .i64 (m : Nat), .int .i64 eb]) ∧ Below W1.heap.size W1 W')) :
    Calls Tryz.prog 16 #[.slice a0 l0 cap0] W fun e W' => ∃ v, e = .returned (.tuple #[.int .i64 0, v, .int .i64 eb]) ∧ RdB W' W'.heap.size v [] ∧ Below W.heap.size W W' := by
  go_enter Tryz.func16, Tryz.ntmps16
  go_wp2_with fail
  refine n1.mono ?_
  rintro e W1 ⟨g, off, c1, rfl, h1, h2, h4, HT⟩
  have m2 := n2.out g off c1 W1 HT.out.1
  clear n1 n2
  go_wp2_with fail
  refine m2.mono ?_
  rintro e w2 ⟨rfl, rfl⟩
  clear m2
  have m3 := n3.out g off c1 W1 HT.out.1
  have m4 := n4.out g off c1 W1 HT.out.1
  clear n3 n4
  by_cases hc : c1 = k
  · subst hc
    clear m4
    go_wp2_with fail
    refine m3.mono ?_
    rintro e w3 ⟨rfl, b3⟩
    have HB3 : Hid (Below W.heap.size W w3) := Lib.hid (HT.out.2.trans (b3.mono HT.out.2.size))
    clear m3 b3
    go_wp2_with fail
    go_ret3
    exact ⟨_, rfl, .inl ⟨rfl, _, _, rfl⟩, HB3.out.alloc HB3.out.size _⟩
  · clear m3
    go_wp2_with fail
    refine m4.mono ?_
    rintro e w3 ⟨rfl, b3⟩
    have HB3 : Hid (Below W.heap.size W w3) := Lib.hid (HT.out.2.trans (b3.mono HT.out.2.size))
    clear m4 b3
    go_wp2_with fail
    go_ret3
    exact ⟨_, rfl, .inl ⟨rfl, _, _, rfl⟩, HB3.out.alloc HB3.out.size _⟩

set_option maxRecDepth 100000 in
set_option maxHeartbeats 1000000 in
theorem r12_dE (W : World) (a0 : Option Addr) (l0 cap0 : Nat) (size : Int) (T : Nat → Nat → Nat → World → Prop) (L k : Nat) (n m : Nat) (q : Ck.Bs) (j1 : (k : Int) ≤ (L : Int)) (i1 : wrap64 ((k : Int) + (m : Int)) = (k : Int) + (m : Int)) (i2 : (k : Int) + (m : Int) < (L : Int)) (hs : ¬ size < (l0 : Int))
    (n1 : Calls Tryz.prog 50 #[.slice a0 l0 cap0] W fun e W1 => ∃ g off c1, e = .returned (.tuple #[.slice (some ⟨g, off, none⟩) L c1, .int .i64 size, .int .i64 0]) ∧ (L : Int) ≤ (c1 : Int) ∧ (k : Int) ≤ (c1 : Int) ∧ ¬ c1 = k ∧ Hid (T g off c1 W1 ∧ Below W.heap.size W W1))
    (n2 : Hid (∀ g off c1 W1, T g off c1 W1 → Calls Tryz.prog 51 #[.slice (some ⟨g, off, none⟩) L c1] W1 fun e W' => e = .returned (.tuple #[.int .u64 n, .int .i64 (k : Nat), .int .i64 0]) ∧ W1 = W'))
    (n3 : Hid (∀ g off c1 W1, T g off c1 W1 → Calls Tryz.prog 52 #[.int .i64 3, .slice (some ⟨g, off + k, none⟩) (L - k) (c1 - k), .int .i64 0] W1 fun e W' => e = .returned (.tuple #[.agg #[.int .i64 3, .int .u64 0, .int .i64 0, .bool false, .string ⟨q.toArray⟩, .slice none 0 0], .int .i64 (m : Nat), .int .i64 0]) ∧ Below W1.heap.size W1 W')) :
    Calls Tryz.prog 16 #[.slice a0 l0 cap0] W fun e W' => ∃ v, e = .returned (.tuple #[.int .i64 0, v, .int .i64 5]) ∧ RdB W' W'.heap.size v [] ∧ Below W.heap.size W W' := by
  go_enter Tryz.func16, Tryz.ntmps16
  go_wp2_with fail
  refine n1.mono ?_
  rintro e W1 ⟨g, off, c1, rfl, h1, h2, h3, HT⟩
  have m2 := n2.out g off c1 W1 HT.out.1
  clear n1 n2
  go_wp2_with fail
  refine m2.mono ?_
  rintro e w2 ⟨rfl, rfl⟩
  clear m2
  have m3 := n3.out g off c1 W1 HT.out.1
  clear n3
  go_wp2_with fail
  refine m3.mono ?_
  rintro e w3 ⟨rfl, b3⟩
  have HB3 : Hid (Below W.heap.size W w3) := Lib.hid (HT.out.2.trans (b3.mono HT.out.2.size))
  clear m3 b3
  go_wp2_with fail
  go_ret3
  exact ⟨_, rfl, .inl ⟨rfl, _, _, rfl⟩, HB3.out.alloc HB3.out.size _⟩

set_option maxRecDepth 100000 in
set_option maxHeartbeats 1000000 in
theorem r12_dF (W : World) (a0 : Option Addr) (l0 cap0 : Nat) (size : Int) (T : Nat → Nat → Nat → World → Prop) (L k : Nat) (n m : Nat) (q : Ck.Bs) (j1 : (k : Int) ≤ (L : Int)) (i1 : wrap64 ((k : Int) + (m : Int)) = (k : Int) + (m : Int)) (i2 : ¬ (k : Int) + (m : Int) < (L : Int)) (i3 : (1000000000 : Int) < (n : Int)) (hs : ¬ size < (l0 : Int))
    (n1 : Calls Tryz.prog 50 #[.slice a0 l0 cap0] W fun e W1 => ∃ g off c1, e = .returned (.tuple #[.slice (some ⟨g, off, none⟩) L c1, .int .i64 size, .int .i64 0]) ∧ (L : Int) ≤ (c1 : Int) ∧ (k : Int) ≤ (c1 : Int) ∧ ¬ c1 = k ∧ Hid (T g off c1 W1 ∧ Below W.heap.size W W1))
    (n2 : Hid (∀ g off c1 W1, T g off c1 W1 → Calls Tryz.prog 51 #[.slice (some ⟨g, off, none⟩) L c1] W1 fun e W' => e = .returned (.tuple #[.int .u64 n, .int .i64 (k : Nat), .int .i64 0]) ∧ W1 = W'))
    (n3 : Hid (∀ g off c1 W1, T g off c1 W1 → Calls Tryz.prog 52 #[.int .i64 3, .slice (some ⟨g, off + k, none⟩) (L - k) (c1 - k), .int .i64 0] W1 fun e W' => e = .returned (.tuple #[.agg #[.int .i64 3, .int .u64 0, .int .i64 0, .bool false, .string ⟨q.toArray⟩, .slice none 0 0], .int .i64 (m : Nat), .int .i64 0]) ∧ Below W1.heap.size W1 W')) :
    Calls Tryz.prog 16 #[.slice a0 l0 cap0] W fun e W' => ∃ v, e = .returned (.tuple #[.int .i64 0, v, .int .i64 2]) ∧ RdB W' W'.heap.size v [] ∧ Below W.heap.size W W' := by
  go_enter Tryz.func16, Tryz.ntmps16
  go_wp2_with fail
  refine n1.mono ?_
  rintro e W1 ⟨g, off, c1, rfl, h1, h2, h3, HT⟩
  have m2 := n2.out g off c1 W1 HT.out.1
  clear n1 n2
  go_wp2_with fail
  refine m2.mono ?_
  rintro e w2 ⟨rfl, rfl⟩
  clear m2
  have m3 := n3.out g off c1 W1 HT.out.1
  clear n3
  go_wp2_with fail
  refine m3.mono ?_
  rintro e w3 ⟨rfl, b3⟩
  have HB3 : Hid (Below W.heap.size W w3) := Lib.hid (HT.out.2.trans (b3.mono HT.out.2.size))
  clear m3 b3
  go_wp2_with fail
  go_ret3
  exact ⟨_, rfl, .inl ⟨rfl, _, _, rfl⟩, HB3.out.alloc HB3.out.size _⟩

set_option maxRecDepth 100000 in
set_option maxHeartbeats 1000000 in
theorem r12_dG (W : World) (a0 : Option Addr) (l0 cap0 : Nat) (size : Int) (T : Nat → Nat → Nat → World → Prop) (L k : Nat) (n m : Nat) (q : Ck.Bs) (j1 : (k : Int) ≤ (L : Int)) (i1 : wrap64 ((k : Int) + (m : Int)) = (k : Int) + (m : Int)) (i2 : ¬ (k : Int) + (m : Int) < (L : Int)) (i3 : ¬ (1000000000 : Int) < (n : Int)) (i4 : (1000000 : Int) < (q.length : Int)) (hs : ¬ size < (l0 : Int))
    (n1 : Calls Tryz.prog 50 #[.slice a0 l0 cap0] W fun e W1 => ∃ g off c1, e = .returned (.tuple #[.slice (some ⟨g, off, none⟩) L c1, .int .i64 size, .int .i64 0]) ∧ (L : Int) ≤ (c1 : Int) ∧ (k : Int) ≤ (c1 : Int) ∧ ¬ c1 = k ∧ Hid (T g off c1 W1 ∧ Below W.heap.size W W1))
    (n2 : Hid (∀ g off c1 W1, T g off c1 W1 → Calls Tryz.prog 51 #[.slice (some ⟨g, off, none⟩) L c1] W1 fun e W' => e = .returned (.tuple #[.int .u64 n, .int .i64 (k : Nat), .int .i64 0]) ∧ W1 = W'))
    (n3 : Hid (∀ g off c1 W1, T g off c1 W1 → Calls Tryz.prog 52 #[.int .i64 3, .slice (some ⟨g, off + k, none⟩) (L - k) (c1 - k), .int .i64 0] W1 fun e W' => e = .returned (.tuple #[.agg #[.int .i64 3, .int .u64 0, .int .i64 0, .bool false, .string ⟨q.toArray⟩, .slice none 0 0], .int .i64 (m : Nat), .int .i64 0]) ∧ Below W1.heap.size W1 W')) :
    Calls Tryz.prog 16 #[.slice a0 l0 cap0] W fun e W' => ∃ v, e = .returned (.tuple #[.int .i64 0, v, .int .i64 5]) ∧ RdB W' W'.heap.size v [] ∧ Below W.heap.size W W' := by
  go_enter Tryz.func16, Tryz.ntmps16
  go_wp2_with fail
  refine n1.mono ?_
  rintro e W1 ⟨g, off, c1, rfl, h1, h2, h3, HT⟩
  have m2 := n2.out g off c1 W1 HT.out.1
  clear n1 n2
  go_wp2_with fail
  refine m2.mono ?_
  rintro e w2 ⟨rfl, rfl⟩
  clear m2
  have m3 := n3.out g off c1 W1 HT.out.1
  clear n3
  go_wp2_with fail
  refine m3.mono ?_
  rintro e w3 ⟨rfl, b3⟩
  have HB3 : Hid (Below W.heap.size W w3) := Lib.hid (HT.out.2.trans (b3.mono HT.out.2.size))
  clear m3 b3
  go_wp2_with fail
  go_ret3
  exact ⟨_, rfl, .inl ⟨rfl, _, _, rfl⟩, HB3.out.alloc HB3.out.size _⟩

set_option maxRecDepth 100000 in
set_option maxHeartbeats 1000000 in
theorem r12_dH (W : World) (a0 : Option Addr) (l0 cap0 : Nat) (size : Int) (T : Nat → Nat → Nat → World → Prop) (L k : Nat) (n m : Nat) (q : Ck.Bs) (j1 : (k : Int) ≤ (L : Int)) (i1 : wrap64 ((k : Int) + (m : Int)) = (k : Int) + (m : Int)) (i2 : ¬ (k : Int) + (m : Int) < (L : Int)) (i3 : ¬ (1000000000 : Int) < (n : Int)) (i4 : ¬ (1000000 : Int) < (q.length : Int)) (i5 : IntKind.i64.wrap (n : Int) = (n : Int)) (hs : ¬ size < (l0 : Int))
    (n1 : Calls Tryz.prog 50 #[.slice a0 l0 cap0] W fun e W1 => ∃ g off c1, e = .returned (.tuple #[.slice (some ⟨g, off, none⟩) L c1, .int .i64 size, .int .i64 0]) ∧ (L : Int) ≤ (c1 : Int) ∧ (k : Int) ≤ (c1 : Int) ∧ ¬ c1 = k ∧ Hid (T g off c1 W1 ∧ Below W.heap.size W W1))
    (n2 : Hid (∀ g off c1 W1, T g off c1 W1 → Calls Tryz.prog 51 #[.slice (some ⟨g, off, none⟩) L c1] W1 fun e W' => e = .returned (.tuple #[.int .u64 n, .int .i64 (k : Nat), .int .i64 0]) ∧ W1 = W'))
    (n3 : Hid (∀ g off c1 W1, T g off c1 W1 → Calls Tryz.prog 52 #[.int .i64 3, .slice (some ⟨g, off + k, none⟩) (L - k) (c1 - k), .int .i64 0] W1 fun e W' => e = .returned (.tuple #[.agg #[.int .i64 3, .int .u64 0, .int .i64 0, .bool false, .string ⟨q.toArray⟩, .slice none 0 0], .int .i64 (m : Nat), .int .i64 0]) ∧ Below W1.heap.size W1 W')) :
    Calls Tryz.prog 16 #[.slice a0 l0 cap0] W fun e W' => ∃ v, e = .returned (.tuple #[.int .i64 n, v, .int .i64 0]) ∧ RdB W' W'.heap.size v q ∧ Below W.heap.size W W' := by
  go_enter Tryz.func16, Tryz.ntmps16
  go_wp2_with fail
  refine n1.mono ?_
  rintro e W1 ⟨g, off, c1, rfl, h1, h2, h3, HT⟩
  have m2 := n2.out g off c1 W1 HT.out.1
  clear n1 n2
  go_wp2_with fail
  refine m2.mono ?_
  rintro e w2 ⟨rfl, rfl⟩
  clear m2
  have m3 := n3.out g off c1 W1 HT.out.1
  clear n3
  go_wp2_with fail
  refine m3.mono ?_
  rintro e w3 ⟨rfl, b3⟩
  have HB3 : Hid (Below W.heap.size W w3) := Lib.hid (HT.out.2.trans (b3.mono HT.out.2.size))
  clear m3 b3
  go_wp2_with fail
  obtain ⟨w4, hw4⟩ : ∃ w4, w4 = w3.alloc (.cells #[.int .i64 3, .int .u64 0, .int .i64 0, .bool false, .string ⟨q.toArray⟩, .slice none 0 0] 85) := ⟨_, rfl⟩
  have HB4 : Hid (Below W.heap.size W w4) := Lib.hid (by rw [hw4]; exact HB3.out.alloc HB3.out.size _)
  have hS0 : w4.cell? ⟨w3.heap.size, 4, none⟩ = some (.string ⟨q.toArray⟩) := by rw [hw4, cell_of_row _ _ _ _ _ _ (World.alloc_heap_new w3 _)]; rfl
  have HS0 := Lib.hid (World.block_lt_of_cell? w4 _ hS0)
  rw [← hw4]
  clear hw4
  have hb0 : Below w4.heap.size w4 w4 := Below.refl _ _
  have hcv := fun (w : World) (s : ByteArray) => Lib.run_convert_string_bytes (P := Tryz.prog) w 9 22 5 s Tryz.underlying9 Tryz.underlying22 Tryz.underlying5
  go_region_law (fail)
  all_goals clear hcv
  go_wp2_with fail
  go_ret3
  have h := r8_bytesRd w4.drew ⟨q.toArray⟩
  have hz : (⟨q.toArray⟩ : ByteArray).size = q.length := by show q.toArray.size = _; simp
  rw [hz] at h
  exact ⟨_, rfl, h, HB4.out.trans ((r8_bytesBelow (Below.drew (Below.refl w4.heap.size w4)) _ _).mono HB4.out.size)⟩

/-! ### Decode, all -/
theorem r8_wrap_two' {k m : Nat} (hk : k ≤ 1000000000) (hm : m ≤ 1000000000) : wrap64 ((k : Int) + (m : Int)) = (k : Int) + (m : Int) := by unfold wrap64; omega
/-- what Next leaves: the payload, a row of the call's own -/
def DcT (W : World) (p : Ck.Bs) (g off c1 : Nat) (W1 : World) : Prop := RdB W1 W1.heap.size (.slice (some ⟨g, off, none⟩) p.length c1) p ∧ Below W.heap.size W W1

set_option maxRecDepth 100000 in
theorem r12_Decode (W : World) (bv : Value) (b : Ck.Bs) (hb : RdB W W.heap.size bv b) (hl : b.length ≤ 90000000) :
    Calls Tryz.prog 16 #[bv] W fun e W' => ∃ v, e = .returned (.tuple #[.int .i64 (Ck.decode b).1, v, .int .i64 (Ck.decode b).2.2]) ∧ RdB W' W'.heap.size v (Ck.decode b).2.1 ∧ Below W.heap.size W W' := by
  have n1 := r9_Next W bv b hb (by omega)
  have hpl := nextR_len b
  obtain ⟨a0, cap0, rfl⟩ := hb.form
  have HD : Ck.decode b = if (Wl.nextR b).2.2 ≠ 0 then (0, [], (Wl.nextR b).2.2) else if (Wl.nextR b).2.1 < b.length then (0, [], 5) else Ck.decodeP (Wl.nextR b).1 := rfl
  obtain ⟨x, hx⟩ : ∃ x, x = Wl.nextR b := ⟨_, rfl⟩
  rw [← hx] at n1 hpl HD
  obtain ⟨p, sz, er⟩ := x
  simp only [] at n1 hpl HD
  clear hb hx
  by_cases he : er = 0
  · subst he
    rw [if_neg (by simp)] at HD
    by_cases hsz : sz < b.length
    · rw [HD, if_pos hsz]
      exact r12_dB W a0 b.length cap0 sz (by omega) (n1.mono fun e W1 ⟨v1, h1, _, h3⟩ => ⟨v1, h1, h3⟩)
    · rw [if_neg hsz] at HD
      rw [HD]
      have hle := readU_le p
      have HDP : Ck.decodeP p = if (Ck.readU p).2.2 ≠ 0 then (0, [], (Ck.readU p).2.2)
        else if (Ck.readB (p.drop (Ck.readU p).2.1)).2.2 ≠ 0 then (0, [], (Ck.readB (p.drop (Ck.readU p).2.1)).2.2)
        else if (Ck.readU p).2.1 + (Ck.readB (p.drop (Ck.readU p).2.1)).2.1 < p.length then (0, [], 5)
        else if 1000000000 < (Ck.readU p).1 then (0, [], 2)
        else if 1000000 < (Ck.readB (p.drop (Ck.readU p).2.1)).1.length then (0, [], 5)
        else ((Ck.readU p).1, (Ck.readB (p.drop (Ck.readU p).2.1)).1, 0) := rfl
      have hru : ∀ v W1, RdB W1 W1.heap.size v p → Calls Tryz.prog 51 #[v] W1 fun e W' => e = .returned (.tuple #[.int .u64 (Ck.readU p).1, .int .i64 (Ck.readU p).2.1, .int .i64 (Ck.readU p).2.2]) ∧ W1 = W' := fun v W1 h => r8_ReadUint W1 v p h (by omega)
      obtain ⟨u, hu⟩ : ∃ u, u = Ck.readU p := ⟨_, rfl⟩
      rw [← hu] at HDP hle hru
      obtain ⟨n, k, eu⟩ := u
      simp only [] at HDP hle hru
      by_cases heu : eu = 0
      · subst heu
        rw [if_neg (by simp)] at HDP
        obtain ⟨-, hk0, hkl, -⟩ := Ck.readU_sound hu.symm
        have m1 : Calls Tryz.prog 50 #[.slice a0 b.length cap0] W fun e W1 => ∃ g off c1, e = .returned (.tuple #[.slice (some ⟨g, off, none⟩) p.length c1, .int .i64 sz, .int .i64 0]) ∧ p.length ≤ c1 ∧ DcT W p g off c1 W1 :=
          n1.mono fun e W1 ⟨v1, h1, h2, h3⟩ => by
            obtain ⟨a1, c1, rfl⟩ := own_slice h2
            have hr := RdB.of_own h2
            obtain ⟨g, off, rfl, -⟩ := hr.at 0 (by omega)
            exact ⟨g, off, c1, h1, (hr.part k (p.length - k) (by omega) (by omega)).2, hr, h3⟩
        have hlb := readB_le (p.drop k)
        rw [List.length_drop] at hlb
        have hrr : ∀ v W1, RdB W1 W1.heap.size v (p.drop k) → Calls Tryz.prog 52 #[.int .i64 3, v, .int .i64 0] W1 fun e W' => e = .returned (.tuple #[.agg #[.int .i64 3, .int .u64 0, .int .i64 0, .bool false, .string ⟨(Ck.readB (p.drop k)).1.toArray⟩, .slice none 0 0], .int .i64 (Ck.readB (p.drop k)).2.1, .int .i64 (Ck.readB (p.drop k)).2.2]) ∧ Below W1.heap.size W1 W' :=
          fun v W1 h => r8_Read3 W1 v (p.drop k) h (by rw [List.length_drop]; omega)
        have hru2 : ∀ g off c1 W1, DcT W p g off c1 W1 → Calls Tryz.prog 51 #[.slice (some ⟨g, off, none⟩) p.length c1] W1 fun e W' => e = .returned (.tuple #[.int .u64 n, .int .i64 k, .int .i64 0]) ∧ W1 = W' := fun g off c1 W1 h => hru _ W1 h.1
        have hrr2 : ∀ g off c1 W1, DcT W p g off c1 W1 → Calls Tryz.prog 52 #[.int .i64 3, .slice (some ⟨g, off + k, none⟩) (p.length - k) (c1 - k), .int .i64 0] W1 fun e W' => e = .returned (.tuple #[.agg #[.int .i64 3, .int .u64 0, .int .i64 0, .bool false, .string ⟨(Ck.readB (p.drop k)).1.toArray⟩, .slice none 0 0], .int .i64 (Ck.readB (p.drop k)).2.1, .int .i64 (Ck.readB (p.drop k)).2.2]) ∧ Below W1.heap.size W1 W' :=
          fun g off c1 W1 h => hrr _ W1 (by
            have := (h.1.part k (p.length - k) (by omega) (by omega)).1
            rwa [List.take_of_length_le (by rw [List.length_drop]; exact Nat.le_refl _)] at this)
        have hend : p.length = k → Ck.readB (p.drop k) = ([], 0, 19) := fun h => by rw [List.drop_of_length_le (by omega)]; rfl
        obtain ⟨y, hy⟩ : ∃ y, y = Ck.readB (p.drop k) := ⟨_, rfl⟩
        rw [← hy] at HDP hlb hrr2 hend hrr
        obtain ⟨q, m, eb⟩ := y
        simp only [] at HDP hlb hrr2 hrr
        by_cases heb : eb = 0
        · subst heb
          rw [if_neg (by simp)] at HDP
          have hlt : k < p.length := by
            rcases Nat.lt_or_ge k p.length with h | h
            · exact h
            · have := hend (by omega)
              simp at this
          have m2 : Calls Tryz.prog 50 #[.slice a0 b.length cap0] W fun e W1 => ∃ g off c1, e = .returned (.tuple #[.slice (some ⟨g, off, none⟩) p.length c1, .int .i64 sz, .int .i64 0]) ∧ (p.length : Int) ≤ (c1 : Int) ∧ (k : Int) ≤ (c1 : Int) ∧ ¬ c1 = k ∧ Hid (DcT W p g off c1 W1 ∧ Below W.heap.size W W1) := m1.mono fun e W1 ⟨g, off, c1, h1, h2, h3⟩ => ⟨g, off, c1, h1, by omega, by omega, by omega, Lib.hid ⟨h3, h3.2⟩⟩
          have i1 := (r8_wrap_two' (k := k) (m := m) (by omega) (by omega))
          by_cases hs2 : k + m < p.length
          · rw [HDP, if_pos hs2]
            exact r12_dE W a0 b.length cap0 sz (DcT W p) p.length k n m q (by omega) i1 (by omega) (by omega) m2 (Lib.hid hru2) (Lib.hid hrr2)
          · rw [if_neg hs2] at HDP
            by_cases hbig : 1000000000 < n
            · rw [HDP, if_pos hbig]
              exact r12_dF W a0 b.length cap0 sz (DcT W p) p.length k n m q (by omega) i1 (by omega) (by omega) (by omega) m2 (Lib.hid hru2) (Lib.hid hrr2)
            · rw [if_neg hbig] at HDP
              by_cases hlong : 1000000 < q.length
              · rw [HDP, if_pos hlong]
                exact r12_dG W a0 b.length cap0 sz (DcT W p) p.length k n m q (by omega) i1 (by omega) (by omega) (by omega) (by omega) m2 (Lib.hid hru2) (Lib.hid hrr2)
              · rw [HDP, if_neg hlong]
                exact r12_dH W a0 b.length cap0 sz (DcT W p) p.length k n m q (by omega) i1 (by omega) (by omega) (by omega) (IntWalk.i64_in _ (by omega)) (by omega) m2 (Lib.hid hru2) (Lib.hid hrr2)
        · have hbe : (eb == 0) = false := by rw [beq_eq_false_iff_ne]; exact heb
          rw [HDP, if_pos heb]
          rcases Nat.lt_or_ge k p.length with hlt | hge
          · have m2 : Calls Tryz.prog 50 #[.slice a0 b.length cap0] W fun e W1 => ∃ g off c1, e = .returned (.tuple #[.slice (some ⟨g, off, none⟩) p.length c1, .int .i64 sz, .int .i64 0]) ∧ (p.length : Int) ≤ (c1 : Int) ∧ (k : Int) ≤ (c1 : Int) ∧ ¬ c1 = k ∧ Hid (DcT W p g off c1 W1 ∧ Below W.heap.size W W1) := m1.mono fun e W1 ⟨g, off, c1, h1, h2, h3⟩ => ⟨g, off, c1, h1, by omega, by omega, by omega, Lib.hid ⟨h3, h3.2⟩⟩
            exact r12_dD W a0 b.length cap0 sz (DcT W p) p.length k n m q (by omega) eb hbe (by omega) m2 (Lib.hid hru2) (Lib.hid hrr2)
          · have m2 : Calls Tryz.prog 50 #[.slice a0 b.length cap0] W fun e W1 => ∃ g off c1, e = .returned (.tuple #[.slice (some ⟨g, off, none⟩) p.length c1, .int .i64 sz, .int .i64 0]) ∧ (p.length : Int) ≤ (c1 : Int) ∧ (k : Int) ≤ (c1 : Int) ∧ p.length - k = 0 ∧ Hid (DcT W p g off c1 W1 ∧ Below W.heap.size W W1) := m1.mono fun e W1 ⟨g, off, c1, h1, h2, h3⟩ => ⟨g, off, c1, h1, by omega, by omega, by omega, Lib.hid ⟨h3, h3.2⟩⟩
            have hd0 : p.drop k = [] := List.drop_of_length_le (by omega)
            exact r12_dD0 W a0 b.length cap0 sz (DcT W p) p.length k n m q (by omega) eb hbe (by omega) m2 (Lib.hid hru2) (Lib.hid fun g off c1 W1 h => hrr _ W1 (.inl ⟨hd0, _, _, rfl⟩)) (Lib.hid fun g off c1 W1 h => hrr _ W1 (.inl ⟨hd0, _, _, rfl⟩))
      · rw [HDP, if_pos heu]
        exact r12_dC W a0 b.length cap0 sz (fun v W1 => RdB W1 W1.heap.size v p ∧ Below W.heap.size W W1) n k eu (by rw [beq_eq_false_iff_ne]; exact heu) (by omega) (n1.mono fun e W1 ⟨v1, h1, h2, h3⟩ => ⟨v1, h1, Lib.hid ⟨⟨RdB.of_own h2, h3⟩, h3⟩⟩) (Lib.hid fun v W1 h => hru v W1 h.1)
  · rw [if_pos he] at HD
    rw [HD]
    exact r12_dA W a0 b.length cap0 sz er (by rw [beq_eq_false_iff_ne]; exact he) (n1.mono fun e W1 ⟨v1, h1, _, h3⟩ => ⟨v1, h1, h3⟩)

end Go.Proofs.YtamencnachmhoaaGreatDoor
