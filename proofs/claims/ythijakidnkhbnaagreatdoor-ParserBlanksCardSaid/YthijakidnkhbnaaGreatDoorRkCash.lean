/-
  The reference's Number, Cash and Parse of amounts: the walks.
-/
import Derived.Test.YthijakidnkhbnaaGreatDoorRkKinds
import Derived.Deep.DeepCutAuto
import Derived.Test.YthijakidnkhbnaaGreatDoorPlCash
namespace Go.Proofs.YthijakidnkhbnaaGreatDoor
open Go.RowKit

theorem wr64 {x : Int} (h : -1000000000000000000 ≤ x ∧ x ≤ 1000000000000000000) : wrap64 x = x := by unfold wrap64; omega
theorem wrI64 {x : Int} (h : -1000000000000000000 ≤ x ∧ x ≤ 1000000000000000000) : IntKind.i64.wrap x = x := IntWalk.i64_in _ (by omega)

set_option maxRecDepth 100000 in
set_option maxHeartbeats 400000 in
theorem rk_numberBad (s : ByteArray) (w : World) (k e : Int) (hke : (e != 0) = true ∨ ((e != 0) = false ∧ (k != 2) = true))
    (m1 : Calls Tryz.prog 44 #[.string s] w fun x w' => x = .returned (.tuple #[.int .i64 k, .int .i64 e]) ∧ w = w') :
    Calls Tryz.prog 111 #[.string s] w fun x w' => x = .returned (.tuple #[.int .i64 0, .int .i64 30]) ∧ w = w' := by
  rcases hke with h | ⟨h, h2⟩
  all_goals
    go_enter Tryz.func111, Tryz.ntmps111
    go_wp2_with (go_at_call 44; refine m1.mono ?_; rintro x w1 ⟨rfl, rfl⟩)
    go_ret2
    exact ⟨rfl, rfl⟩

/-- the first bytes -/
def tk (s : ByteArray) (i : Nat) : List UInt8 := s.data.toList.take i
theorem tk_succ (s : ByteArray) (i : Nat) (hi : i < s.size) : ∃ c : UInt8, tk s (i + 1) = tk s i ++ [c] ∧ PlainAid.bt s i = (c.toNat : Int) ∧ c ∈ s.data.toList := by
  obtain ⟨⟨l⟩⟩ := s
  have hl : i < l.length := hi
  refine ⟨l[i], ?_, ?_, List.getElem_mem hl⟩
  · unfold tk
    exact List.take_succ_eq_append_getElem hl
  · unfold PlainAid.bt
    rw [dif_pos hi]
    rfl
theorem tk_all (s : ByteArray) : tk s s.size = s.data.toList := by
  obtain ⟨⟨l⟩⟩ := s
  exact List.take_length

set_option maxRecDepth 100000 in
set_option maxHeartbeats 1000000 in
theorem rk_numberL (s : ByteArray) (w : World) (hs : s.size ≤ 16) (hd : Hid (Ps.digs s.data.toList)) (R : Int × Int) (hR : Hid (R = Ps.canon (Ps.numA 0 s.data.toList)))
    (m1 : Calls Tryz.prog 44 #[.string s] w fun x w' => x = .returned (.tuple #[.int .i64 2, .int .i64 0]) ∧ w = w') :
    Calls Tryz.prog 111 #[.string s] w fun x w' => x = .returned (.tuple #[.int .i64 R.1, .int .i64 R.2]) ∧ w = w' := by
  have hub := PlainAid.get_bt s
  go_enter Tryz.func111, Tryz.ntmps111
  go_wp2_with (go_at_call 44; refine m1.mono ?_; rintro x w1 ⟨rfl, rfl⟩)
  clear m1
  go_loopw [6, 7] (fun nv iv wr => ∃ i N : Nat, iv = .int .i64 i ∧ nv = .int .i64 N ∧ i ≤ s.size ∧ Hid (N = Ps.numA 0 (tk s i)) ∧ wr = w) (fun _ iv _ => 2000 - (RowKit.intOf iv).toNat)
  case atStart => exact ⟨0, 0, rfl, rfl, Nat.zero_le _, Lib.hid rfl, rfl⟩
  case round =>
    obtain ⟨i, N, rfl, rfl, hi, HN, rfl⟩ := hrel
    have hN : N < 10000000000000000 := by
      have h1 := Ps.numA_lt (tk s i) 0 (fun c hc => hd.out c (List.mem_of_mem_take hc))
      have h2 : (tk s i).length ≤ 16 := by unfold tk; rw [List.length_take]; omega
      have h3 : 10 ^ (tk s i).length ≤ 10 ^ 16 := Nat.pow_le_pow_right (by omega) h2
      have h4 : (10 : Nat) ^ 16 = 10000000000000000 := by decide
      rw [HN.out]
      omega
    by_cases hlt : i < s.size
    · obtain ⟨c, e1, e2, e3⟩ := tk_succ s i hlt
      have hc := hd.out c e3
      have hltI : (i : Int) < (s.size : Int) := by omega
      have HN2 : Hid (10 * N + (c.toNat - 48) = Ps.numA 0 (tk s (i + 1))) := Lib.hid (by rw [e1, Ps.numA_snoc, ← HN.out]; omega)
      obtain ⟨d, hd'⟩ : ∃ d : Int, d = (c.toNat : Int) := ⟨_, rfl⟩
      rw [← hd'] at e2
      have hd1 : 48 ≤ d ∧ d ≤ 57 := by omega
      have q1 : IntKind.u8.wrap (d - 48) = d - 48 := IntWalk.u8_in _ (by omega)
      have q5 : IntKind.i64.wrap (d - 48) = d - 48 := wrI64 (by omega)
      obtain ⟨x, hx⟩ : ∃ x : Int, x = (N : Int) := ⟨_, rfl⟩
      rw [← hx]
      have q6 : IntKind.i64.wrap (10 * x) = 10 * x := wrI64 (by omega)
      have q7 : IntKind.i64.wrap (10 * x + (d - 48)) = 10 * x + (d - 48) := wrI64 (by omega)
      have hw1 : wrap64 ((i : Int) + 1) = ((i + 1 : Nat) : Int) := by unfold wrap64; omega
      have HE : Hid (10 * x + (d - 48) = ((10 * N + (c.toNat - 48) : Nat) : Int)) := Lib.hid (by omega)
      clear hx e1 e3 hc HN hN hd1 hd' hd hR
      go_wp2_with fail
      refine ⟨⟨i + 1, 10 * N + (c.toNat - 48), by first | rfl | go_num, by first | exact congrArg (Value.int .i64) HE.out | (rw [HE.out]), hlt, HN2, trivial⟩, by simp [RowKit.intOf] <;> omega⟩
    · obtain rfl : i = s.size := by omega
      have hltI : ¬ (s.size : Int) < (s.size : Int) := by omega
      rw [tk_all] at HN
      have hR2 := hR.out
      rw [← HN.out] at hR2
      unfold Ps.canon at hR2
      clear hR HN hd
      by_cases h1 : 1 ≤ N
      · have f1 : decide ((N : Int) < 1) = false := decide_eq_false (by omega)
        by_cases h2 : N ≤ 1000000000000000
        · have f2 : decide (1000000000000000 < (N : Int)) = false := decide_eq_false (by omega)
          rw [if_pos ⟨h1, h2⟩] at hR2
          subst hR2
          clear h1 h2
          go_wp2_with fail
          go_ret2
          exact ⟨rfl, rfl⟩
        · have f2 : decide (1000000000000000 < (N : Int)) = true := decide_eq_true (by omega)
          rw [if_neg (by omega)] at hR2
          subst hR2
          clear h1 h2
          go_wp2_with fail
          go_ret2
          exact ⟨rfl, rfl⟩
      · have f1 : decide ((N : Int) < 1) = true := decide_eq_true (by omega)
        rw [if_neg (by omega)] at hR2
        subst hR2
        clear h1
        go_wp2_with fail
        go_ret2
        exact ⟨rfl, rfl⟩

set_option maxRecDepth 100000 in
set_option maxHeartbeats 400000 in
theorem rk_validL (x : Int) (w : World) (b1 b2 : Bool) (h1 : decide (-1000000000000000 ≤ x) = b1) (h2 : decide (x ≤ 1000000000000000) = b2) :
    Calls Tryz.prog 185 #[.int .i64 x] w fun e w' => e = .returned (.bool (b1 && b2)) ∧ w = w' := by
  cases b1
  all_goals cases b2
  all_goals
    go_enter Tryz.func185, Tryz.ntmps185
    go_wp2_with fail
    go_ret
    exact ⟨rfl, rfl⟩
/-- an amount in its bounds, or the error -/
def chkA (y : Int) : Int × Int := if -1000000000000000 ≤ y ∧ y ≤ 1000000000000000 then (y, 0) else (0, 12)
set_option maxRecDepth 100000 in
set_option maxHeartbeats 400000 in
theorem rk_checkedL (x : Int) (w : World) (b : Bool) (m1 : Calls Tryz.prog 185 #[.int .i64 x] w fun e w' => e = .returned (.bool b) ∧ w = w') :
    Calls Tryz.prog 169 #[.int .i64 x] w fun e w' => e = .returned (.tuple #[.int .i64 (if b = true then x else 0), .int .i64 (if b = true then 0 else 12)]) ∧ w = w' := by
  cases b
  all_goals
    go_enter Tryz.func169, Tryz.ntmps169
    go_wp2_with (go_at_call 185; refine m1.mono ?_; rintro e w1 ⟨rfl, rfl⟩)
    go_ret2
    exact ⟨rfl, rfl⟩
theorem rk_checked (x : Int) (w : World) : Calls Tryz.prog 169 #[.int .i64 x] w fun e w' => e = .returned (.tuple #[.int .i64 (chkA x).1, .int .i64 (chkA x).2]) ∧ w = w' := by
  have h := rk_checkedL x w _ (rk_validL x w _ _ rfl rfl)
  have e : (((decide (-1000000000000000 ≤ x)) && (decide (x ≤ 1000000000000000))) = true) ↔ (-1000000000000000 ≤ x ∧ x ≤ 1000000000000000) := by simp
  unfold chkA
  by_cases hb : -1000000000000000 ≤ x ∧ x ≤ 1000000000000000
  · rw [if_pos hb]
    simp only [hb] at h
    exact h
  · rw [if_neg hb]
    simp only [e, hb, if_false] at h
    exact h

set_option maxRecDepth 100000 in
set_option maxHeartbeats 4000000 in
theorem rk_amL (s t : ByteArray) (w : World) (h1 : s.size ≤ 1000) (m : Nat) (hm : (t.size : Int) - 3 = (m : Int)) (HTS : Hid (t.size = m + 3)) (hm1 : 1 ≤ m) (htl : t.size ≤ 1000) (ng : Bool)
    (hg : (ng = true ∧ decide (0 < s.size) = true ∧ 0 < s.size ∧ (PlainAid.bt s 0 == 45) = true) ∨ (ng = false ∧ (decide (0 < s.size) = false ∨ decide (0 < s.size) = true ∧ 0 < s.size ∧ (PlainAid.bt s 0 == 45) = false)))
    (hst : Hid ((ng = true → 0 < s.size ∧ s.extract 1 s.size = t) ∧ (ng = false → t = s))) (hdot : (PlainAid.bt t m != 46) = false) (hz0 : (PlainAid.bt t 0 == 48) = false ∨ ((PlainAid.bt t 0 == 48) = true ∧ decide ((4 : Int) < (t.size : Int)) = false))
    (X : Nat → Int) (Z : Nat → Bool) (hX0 : X 0 = 0) (hZ0 : Z 0 = true) (hXm : Hid (X (m + 1) = X m ∧ Z (m + 1) = Z m))
    (hX : Hid (∀ i, i < t.size → i ≠ m → 48 ≤ PlainAid.bt t i ∧ PlainAid.bt t i ≤ 57 ∧ X (i + 1) = (if X i ≤ 1000000000000000 then 10 * X i + (PlainAid.bt t i - 48) else X i) ∧ Z (i + 1) = (Z i && (PlainAid.bt t i == 48))))
    (hXb : Hid (∀ i, i ≤ t.size → 0 ≤ X i ∧ X i ≤ 10000000000000009)) (hzn : Hid (Z t.size = true → ng = false)) (R : Int × Int) (hR : Hid (R = chkA (if ng = true then 0 - X t.size else X t.size))) :
    Calls Tryz.prog 143 #[.string s] w fun x w' => x = .returned (.tuple #[.int .i64 R.1, .int .i64 R.2]) ∧ w = w' := by
  have hub := PlainAid.get_bt s
  go_enter Tryz.func143, Tryz.ntmps143
  go_upto_region 2 with fail
  go_cut [5] (fun v wx => v = .bool ng ∧ w = wx)
  case first =>
    rcases hg with ⟨rfl, n0, n1, n2⟩ | ⟨rfl, n0 | ⟨n0, n1, n2⟩⟩
    all_goals
      go_wp2_with fail
      go_meet
      case rel => exact ⟨rfl, rfl⟩
  case rest =>
    obtain ⟨rfl, rfl⟩ := hcut
    clear hg hub
    go_upto_if 19 with fail
    go_cut [4] (fun v wx => v = .string t ∧ w = wx)
    case first =>
      cases ng with
      | true =>
        obtain ⟨n1, n2⟩ := hst.out.1 rfl
        have n3 : (1 : Int) ≤ (s.size : Int) := by omega
        clear hst
        go_wp2_with fail
        go_meet
        case rel => exact ⟨rfl, rfl⟩
      | false =>
        have n2 := hst.out.2 rfl
        subst n2
        clear hst
        go_wp2_with fail
        go_meet
        case rel => exact ⟨rfl, rfl⟩
    case rest =>
      obtain ⟨rfl, rfl⟩ := hcut
      clear hst h1
      have hubt := PlainAid.get_bt t
      have hts := HTS.out
      have hml : m < t.size := by omega
      have h0l : 0 < t.size := by omega
      have h0I : (0 : Int) < (t.size : Int) := by omega
      have h4 : decide ((t.size : Int) < 4) = false := decide_eq_false (by omega)
      clear hts
      go_upto_region 6 with fail
      go_cut [41] (fun v wx => v = .bool false ∧ w = wx)
      case first =>
        rcases hz0 with z0 | ⟨z0, z1⟩
        all_goals
          go_wp2_with fail
          go_meet
          case rel => exact ⟨rfl, rfl⟩
      case rest =>
        obtain ⟨rfl, rfl⟩ := hcut
        clear hz0 hdot h0l h0I h4
        go_wp2_with fail
        go_loopw [7, 8, 9] (fun xv zv iv wr => ∃ i : Nat, iv = .int .i64 i ∧ xv = .int .i64 (X i) ∧ zv = .bool (Z i) ∧ i ≤ t.size ∧ wr = w) (fun _ _ iv _ => 2000 - (RowKit.intOf iv).toNat)
        case atStart => exact ⟨0, rfl, by rw [hX0], by rw [hZ0], Nat.zero_le _, rfl⟩
        case round =>
          obtain ⟨i, rfl, rfl, rfl, hi, rfl⟩ := hrel
          clear hX0 hZ0
          by_cases hlt : i < t.size
          · have hltI : (i : Int) < (t.size : Int) := by omega
            have hw1 : wrap64 ((i : Int) + 1) = ((i + 1 : Nat) : Int) := by unfold wrap64; omega
            by_cases him : i = m
            · subst him
              obtain ⟨e1, e2⟩ := hXm.out
              have HE1 := Lib.hid e1
              have HE2 := Lib.hid e2
              clear e1 e2 hX hXb hXm hzn hR HTS
              go_wp2_with fail
              refine ⟨⟨i + 1, by first | rfl | go_num, by rw [HE1.out], by rw [HE2.out], hlt, trivial⟩, by simp [RowKit.intOf] <;> omega⟩
            · have himI : ((i : Int) == (m : Int)) = false := by rw [beq_eq_false_iff_ne]; omega
              have himI2 : ¬ (i : Int) = (m : Int) := by omega
              obtain ⟨d1, d2, e1, e2⟩ := hX.out i hlt him
              obtain ⟨b1, b2⟩ := hXb.out i (by omega)
              obtain ⟨c, hc⟩ : ∃ c, PlainAid.bt t i = c := ⟨_, rfl⟩
              rw [hc] at d1 d2 e1 e2
              obtain ⟨x, hx⟩ : ∃ x, X i = x := ⟨_, rfl⟩
              rw [hx] at e1 b1 b2 ⊢
              obtain ⟨z, hz⟩ : ∃ z, Z i = z := ⟨_, rfl⟩
              rw [hz] at e2 ⊢
              have g1 : decide (c < 48) = false := decide_eq_false (by omega)
              have g2 : decide (57 < c) = false := decide_eq_false (by omega)
              have q1 : IntKind.u8.wrap (c - 48) = c - 48 := IntWalk.u8_in _ (by omega)
              have q5 : IntKind.i64.wrap (c - 48) = c - 48 := wrI64 (by omega)
              have q6 : IntKind.i64.wrap (10 * x) = 10 * x := wrI64 (by omega)
              have q7 : IntKind.i64.wrap (10 * x + (c - 48)) = 10 * x + (c - 48) := wrI64 (by omega)
              have HX1 := Lib.hid e1
              have HZ1 := Lib.hid e2
              clear e1 e2 d1 d2 b1 b2 hx hz hX hXb hXm hzn hR HTS him
              by_cases hmo : x ≤ 1000000000000000
              · have g3 : decide (x ≤ 1000000000000000) = true := decide_eq_true hmo
                rw [if_pos hmo] at HX1
                clear hmo
                cases z with
                | false =>
                  go_wp2_with fail
                  refine ⟨⟨i + 1, by first | rfl | go_num, by rw [HX1.out], by rw [HZ1.out]; rfl, hlt, trivial⟩, by simp [RowKit.intOf] <;> omega⟩
                | true =>
                  by_cases h48 : c = 48
                  · have g4 : (c == 48) = true := by simp [h48]
                    rw [g4] at HZ1
                    clear h48
                    go_wp2_with fail
                    refine ⟨⟨i + 1, by first | rfl | go_num, by rw [HX1.out], by rw [HZ1.out]; rfl, hlt, trivial⟩, by simp [RowKit.intOf] <;> omega⟩
                  · have g4 : (c == 48) = false := by simp [h48]
                    rw [g4] at HZ1
                    clear h48
                    go_wp2_with fail
                    refine ⟨⟨i + 1, by first | rfl | go_num, by rw [HX1.out], by rw [HZ1.out]; rfl, hlt, trivial⟩, by simp [RowKit.intOf] <;> omega⟩
              · have g3 : decide (x ≤ 1000000000000000) = false := decide_eq_false hmo
                rw [if_neg hmo] at HX1
                clear hmo
                cases z with
                | false =>
                  go_wp2_with fail
                  refine ⟨⟨i + 1, by first | rfl | go_num, by rw [HX1.out], by rw [HZ1.out]; rfl, hlt, trivial⟩, by simp [RowKit.intOf] <;> omega⟩
                | true =>
                  by_cases h48 : c = 48
                  · have g4 : (c == 48) = true := by simp [h48]
                    rw [g4] at HZ1
                    clear h48
                    go_wp2_with fail
                    refine ⟨⟨i + 1, by first | rfl | go_num, by rw [HX1.out], by rw [HZ1.out]; rfl, hlt, trivial⟩, by simp [RowKit.intOf] <;> omega⟩
                  · have g4 : (c == 48) = false := by simp [h48]
                    rw [g4] at HZ1
                    clear h48
                    go_wp2_with fail
                    refine ⟨⟨i + 1, by first | rfl | go_num, by rw [HX1.out], by rw [HZ1.out]; rfl, hlt, trivial⟩, by simp [RowKit.intOf] <;> omega⟩
          · obtain rfl : i = t.size := by omega
            have hltI : ¬ (t.size : Int) < (t.size : Int) := by omega
            have hzn2 := hzn.out
            have hb := hXb.out t.size (Nat.le_refl _)
            have hR2 := hR.out
            obtain ⟨x, hx⟩ : ∃ x, X t.size = x := ⟨_, rfl⟩
            rw [hx] at hR2 hb ⊢
            obtain ⟨z, hz⟩ : ∃ z, Z t.size = z := ⟨_, rfl⟩
            rw [hz] at hzn2 ⊢
            have q8 : IntKind.i64.wrap (-x) = -x := wrI64 (by omega)
            have q9 : IntKind.i64.wrap (0 - x) = 0 - x := wrI64 (by omega)
            have m1 := rk_checked x wr
            have m2 := rk_checked (-x) wr
            have m3 := rk_checked (0 - x) wr
            clear hX hXb hXm hzn hR HTS hx hz hb
            cases ng with
            | true =>
              have hzf : z = false := by
                cases z with
                | false => rfl
                | true => exact absurd (hzn2 rfl) (by simp)
              subst hzf
              rw [if_pos rfl] at hR2
              subst hR2
              clear hzn2 m1
              go_wp2_with (go_at_call 169; first | (refine m3.mono ?_; rintro e w1 ⟨rfl, rfl⟩) | (refine m2.mono ?_; rintro e w1 ⟨rfl, rfl⟩))
              go_ret2
              first | exact ⟨rfl, rfl⟩ | exact ⟨by simp, rfl⟩
            | false =>
              rw [if_neg (by simp)] at hR2
              subst hR2
              clear hzn2 m2 m3 q8 q9
              cases z
              all_goals
                go_wp2_with (go_at_call 169; refine m1.mono ?_; rintro e w1 ⟨rfl, rfl⟩)
                go_ret2
                exact ⟨rfl, rfl⟩
end Go.Proofs.YthijakidnkhbnaaGreatDoor
