/-
  codec.Reader, as checkpoints use it.
-/
import Derived.Test.YtamencnachmhoaaGreatDoorCkWriter
import Derived.Test.YtamencnachmhoaaGreatDoorWlNext
namespace Go.Proofs.YtamencnachmhoaaGreatDoor
open Go.RowKit

theorem or_join (i x m : Nat) (hx : x < 128 ^ i) : x ||| m * 128 ^ i = x + m * 128 ^ i := by
  have e : 128 ^ i = 2 ^ (7 * i) := by rw [Nat.pow_mul]
  rw [e] at hx ⊢
  rw [Nat.or_comm, nat_join (7 * i) (m * 2 ^ (7 * i)) x (Nat.mul_mod_left _ _) hx, Nat.add_comm]
theorem pow8 : 127 * (128 : Nat) ^ 8 < 18446744073709551616 := by decide +kernel
theorem pow9 : (128 : Nat) ^ 9 < 18446744073709551616 := by decide +kernel
theorem sh_lt {i m : Nat} (hi : i ≤ 9) (hm : m < 128) (h9 : i = 9 → m ≤ 1) : m * 128 ^ i < 18446744073709551616 := by
  rcases Nat.lt_or_ge i 9 with h | h
  · have h2 : (128 : Nat) ^ i ≤ 128 ^ 8 := Nat.pow_le_pow_right (by decide) (by omega)
    exact Nat.lt_of_le_of_lt (Nat.mul_le_mul (by omega : m ≤ 127) h2) pow8
  · obtain rfl : i = 9 := by omega
    have h1 := h9 rfl
    rcases Nat.eq_zero_or_pos m with h0 | h0
    · rw [h0, Nat.zero_mul]; decide
    · obtain rfl : m = 1 := by omega
      rw [Nat.one_mul]; exact pow9
set_option maxRecDepth 100000 in
/-- one byte joins the number -/
theorem int_step {i x m : Nat} (hi : i ≤ 9) (hx : x < 128 ^ i) (hm : m < 128) (h9 : i = 9 → m ≤ 1) : bits .or .u64 (x : Int) ((m * 128 ^ i : Nat) : Int) = ((x + m * 128 ^ i : Nat) : Int) := by
  have h1 := sh_lt hi hm h9
  have h2 : (128 : Nat) ^ i ≤ 128 ^ 9 := Nat.pow_le_pow_right (by decide) hi
  rw [u64_or_nat _ _ (Nat.lt_trans (Nat.lt_of_lt_of_le hx h2) pow9) h1, or_join i x m hx]

theorem int_stepI {i x : Nat} {c : UInt8} (hi : i ≤ 9) (hx : x < 128 ^ i) (h9 : i = 9 → c.toNat ≤ 1) :
    bits .or .u64 (x : Int) (IntKind.u64.wrap ((c.toNat : Int) % 128 * 2 ^ (7 * i))) = ((x + c.toNat % 128 * 128 ^ i : Nat) : Int) := by
  have hm : c.toNat % 128 < 128 := Nat.mod_lt _ (by decide)
  have h9' : i = 9 → c.toNat % 128 ≤ 1 := fun h => by have := h9 h; omega
  have e : (c.toNat : Int) % 128 * 2 ^ (7 * i) = ((c.toNat % 128 * 128 ^ i : Nat) : Int) := by
    rw [Int.natCast_mul, Int.natCast_pow, Int.natCast_emod, Int.pow_mul]
    rfl
  rw [e, wrapU64 (sh_lt hi hm h9'), int_step hi hx hm h9']
theorem int_lt {i x m : Nat} (hx : x < 128 ^ i) (hm : m < 128) : x + m * 128 ^ i < 128 ^ (i + 1) := by
  rw [Nat.pow_succ, Nat.mul_comm (128 ^ i) 128]
  have : m * 128 ^ i ≤ 127 * 128 ^ i := Nat.mul_le_mul (by omega) (Nat.le_refl _)
  generalize 128 ^ i = z at *
  omega
theorem RdB.cellAt {W : World} {B : Nat} {a : Option Addr} {n cap : Nat} {l : Dk.Bs} (h : RdB W B (.slice a n cap) l) {i : Nat} {c : UInt8} (hc : l[i]? = some c) : ∃ g off, a = some ⟨g, off, none⟩ ∧ W.cell? ⟨g, off + i, none⟩ = some (.int .u8 c.toNat) := by
  rcases h with ⟨rfl, _⟩ | ⟨g, off, cap', hv, _, _, _, hx⟩
  · simp at hc
  · cases hv
    exact ⟨g, off, rfl, hx i c hc⟩

set_option maxRecDepth 100000 in
set_option maxHeartbeats 1000000 in
theorem cd_integer (W : World) (bv : Value) (b : Ck.Bs) (hb : RdB W W.heap.size bv b) (hl : b.length ≤ 1000000000) :
    Calls Tryz.prog 102 #[bv] W fun e W' => e = .returned (.tuple #[.int .u64 (Ck.readU b).1, .int .i64 (Ck.readU b).2.1, .int .i64 (Ck.readU b).2.2]) ∧ W = W' := by
  obtain ⟨a0, cap0, rfl⟩ := hb.form
  have HB := Lib.hid hb
  clear hb
  go_enter Tryz.func102, Tryz.ntmps102
  go_wp2_with fail
  go_loopw [5, 10] (fun xv iv wr => ∃ i x : Nat, iv = .int .i64 i ∧ xv = .int .u64 x ∧ i ≤ b.length ∧ i ≤ 9 ∧ Hid (x < 128 ^ i) ∧ Hid (Ck.readU b = Ck.readF i x (b.drop i)) ∧ wr = W) (fun _ iv _ => b.length - (RowKit.intOf iv).toNat)
  case atStart => exact ⟨0, 0, rfl, rfl, Nat.zero_le _, Nat.zero_le _, Lib.hid (by decide), Lib.hid (by rw [List.drop_zero]; rfl), rfl⟩
  case round =>
    obtain ⟨i, x, rfl, rfl, hi, hi9, HX, HR, rfl⟩ := hrel
    by_cases hlt : i < b.length
    · obtain ⟨c, hcd⟩ : ∃ c, b[i]? = some c := ⟨_, List.getElem?_eq_getElem hlt⟩
      obtain ⟨bg, boff, rfl, y0⟩ := HB.out.cellAt hcd
      have hc8 := c.toNat_lt
      have hdrop : b.drop i = c :: b.drop (i + 1) := by
        rw [List.drop_eq_getElem_cons hlt]
        congr 1
        exact Option.some.inj ((List.getElem?_eq_getElem hlt).symm.trans hcd)
      have hrd := HR.out
      rw [hdrop, Ck.readF] at hrd
      have HRD := Lib.hid hrd
      have hm128 : c.toNat % 128 < 128 := Nat.mod_lt _ (by decide)
      have ha127 : bits .and .u8 (c.toNat : Int) 127 = ((c.toNat % 128 : Nat) : Int) := and127 ⟨c.toNat, hc8⟩
      have ha128 : bits .and .u8 (c.toNat : Int) 128 = ((if c.toNat < 128 then 0 else 128 : Nat) : Int) := and128 ⟨c.toNat, hc8⟩
      clear hcd hdrop hrd
      by_cases h9 : i = 9 ∧ 1 < c.toNat
      · obtain ⟨h9e, hc1⟩ := h9
        have hb9 : ((i : Int) == 9) = true := by rw [h9e]; rfl
        have hc1I : (1 : Int) < (c.toNat : Int) := by omega
        have HQ : Hid (Ck.readU b = (0, 0, 2)) := Lib.hid (by rw [HRD.out, if_pos ⟨h9e, hc1⟩])
        clear ha127 ha128 h9e
        go_wp2_with fail
        go_ret3
        rw [HQ.out]
        exact ⟨rfl, rfl⟩
      · have h9' : i = 9 → c.toNat ≤ 1 := fun h => by
          rcases Nat.lt_or_ge 1 c.toNat with h1 | h1
          · exact absurd ⟨h, h1⟩ h9
          · exact h1
        obtain ⟨x2, hx2⟩ : ∃ x2, x2 = x + c.toNat % 128 * 128 ^ i := ⟨_, rfl⟩
        have hst := int_stepI hi9 HX.out h9'
        rw [← hx2] at hst
        have hlt2 : x2 < 128 ^ (i + 1) := by rw [hx2]; exact int_lt HX.out hm128
        obtain ⟨b9, hb9⟩ : ∃ b9, ((i : Int) == 9) = b9 := ⟨_, rfl⟩
        have hgd : b9 = true → ¬ (1 : Int) < (c.toNat : Int) := fun h => by
          rw [h] at hb9
          have : (i : Int) = 9 := by simpa using hb9
          have := h9' (by omega)
          omega
        have HX2 := Lib.hid hx2
        have HLT2 := Lib.hid hlt2
        have H9 := Lib.hid h9
        have H9' := Lib.hid h9'
        clear hx2 hlt2 h9 h9' hm128
        by_cases hcb : 128 ≤ c.toNat
        · have hc2 : ¬ c.toNat < 128 := by omega
          rw [if_neg hc2] at ha128
          have hr1 : Ck.readU b = Ck.readF (i + 1) x2 (b.drop (i + 1)) := by
            rw [HRD.out, if_neg H9.out, if_pos hcb, HX2.out]
            congr 3
            omega
          have HR1 := Lib.hid hr1
          have hi8 : i ≤ 8 := by
            have := H9'.out
            omega
          clear hr1 hc2 hcb
          cases b9 with
          | true =>
            have hc1 := hgd rfl
            clear hgd
            go_wp2_with fail
            refine ⟨⟨i + 1, x2, by go_num, rfl, by omega, by omega, HLT2, HR1, trivial⟩, by simp [RowKit.intOf] <;> omega⟩
          | false =>
            clear hgd
            go_wp2_with fail
            refine ⟨⟨i + 1, x2, by go_num, rfl, by omega, by omega, HLT2, HR1, trivial⟩, by simp [RowKit.intOf] <;> omega⟩
        · have hc2 : c.toNat < 128 := by omega
          rw [if_pos hc2] at ha128
          have hxx : x2 = x + c.toNat * 128 ^ i := by rw [HX2.out, Nat.mod_eq_of_lt hc2]
          have hr1 : Ck.readU b = if c.toNat = 0 ∧ 0 < i then (0, 0, 3) else (x2, i + 1, 0) := by
            rw [HRD.out, if_neg H9.out, if_neg hcb, hxx]
          have HR1 := Lib.hid hr1
          clear hr1 hcb hxx hc2
          by_cases h0 : c.toNat = 0
          · have h0I : ((c.toNat : Int) == 0) = true := by rw [h0]; rfl
            by_cases hp : 0 < i
            · have hpI : (0 : Int) < (i : Int) := by omega
              have HQ : Hid (Ck.readU b = (0, 0, 3)) := Lib.hid (by rw [HR1.out, if_pos ⟨h0, hp⟩])
              clear h0
              cases b9 with
              | true =>
                have hc1 := hgd rfl
                clear hgd
                go_wp2_with fail
                go_ret3
                rw [HQ.out]
                exact ⟨rfl, rfl⟩
              | false =>
                clear hgd
                go_wp2_with fail
                go_ret3
                rw [HQ.out]
                exact ⟨rfl, rfl⟩
            · have hpI : ¬ (0 : Int) < (i : Int) := by omega
              have HQ : Hid (Ck.readU b = (x2, i + 1, 0)) := Lib.hid (by rw [HR1.out, if_neg (fun h => hp h.2)])
              clear h0
              cases b9 with
              | true =>
                have hc1 := hgd rfl
                clear hgd
                go_wp2_with fail
                go_ret3
                rw [HQ.out]
                exact ⟨rfl, rfl⟩
              | false =>
                clear hgd
                go_wp2_with fail
                go_ret3
                rw [HQ.out]
                exact ⟨rfl, rfl⟩
          · have h0I : ((c.toNat : Int) == 0) = false := by simpa using h0
            have HQ : Hid (Ck.readU b = (x2, i + 1, 0)) := Lib.hid (by rw [HR1.out, if_neg (fun h => h0 h.1)])
            clear h0
            cases b9 with
            | true =>
              have hc1 := hgd rfl
              clear hgd
              go_wp2_with fail
              go_ret3
              rw [HQ.out]
              exact ⟨rfl, rfl⟩
            | false =>
              clear hgd
              go_wp2_with fail
              go_ret3
              rw [HQ.out]
              exact ⟨rfl, rfl⟩
    · have hie : i = b.length := by omega
      have HQ : Hid (Ck.readU b = (0, 0, 19)) := Lib.hid (by rw [HR.out, List.drop_of_length_le (by omega)]; rfl)
      have hltI : ¬ (i : Int) < (b.length : Int) := by omega
      go_wp2_with fail
      go_ret3
      rw [HQ.out]
      exact ⟨rfl, rfl⟩

end Go.Proofs.YtamencnachmhoaaGreatDoor
