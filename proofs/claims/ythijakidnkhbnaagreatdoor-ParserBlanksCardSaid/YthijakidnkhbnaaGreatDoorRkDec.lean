/-
  The reference's decimals and kinds: the walks.
-/
import Derived.Test.YthijakidnkhbnaaGreatDoorRkKind
import Derived.Deep.DeepCutAuto
namespace Go.Proofs.YthijakidnkhbnaaGreatDoor
open Go.RowKit

set_option maxRecDepth 100000 in
set_option maxHeartbeats 1000000 in
theorem rk_decZ (s : ByteArray) (w : World) (h0 : (s.toList == [45, 48, 46, 48, 48]) = true) :
    Calls Tryz.prog 80 #[.string s] w fun e w' => e = .returned (.bool false) ∧ w = w' := by
  go_enter Tryz.func80, Tryz.ntmps80
  go_wp2_with fail
  go_ret
  exact ⟨rfl, rfl⟩

/-- how far the tests of a decimal come -/
inductive DecWay (t : ByteArray) : Bool → Prop where
  | short (h : decide (4 ≤ (t.size : Int)) = false) : DecWay t false
  | point (m : Nat) (h : decide (4 ≤ (t.size : Int)) = true) (hm : (t.size : Int) - 3 = (m : Int)) (hml : m < t.size) (b : (PlainAid.bt t m == 46) = false) : DecWay t false
  | last (m : Nat) (h : decide (4 ≤ (t.size : Int)) = true) (hm : (t.size : Int) - 3 = (m : Int)) (hml : m < t.size) (hm1 : (t.size : Int) - 1 = ((m + 2 : Nat) : Int)) (hml1 : m + 2 < t.size) (b : (PlainAid.bt t m == 46) = true) (c : Lx.digit (PlainAid.bt t (m + 2)) = false) : DecWay t false
  | one (m : Nat) (h : decide (4 ≤ (t.size : Int)) = true) (hm : (t.size : Int) - 3 = (m : Int)) (hml : m < t.size) (hm1 : (t.size : Int) - 1 = ((m + 2 : Nat) : Int)) (hml1 : m + 2 < t.size) (hm2 : (t.size : Int) - 2 = ((m + 1 : Nat) : Int)) (hml2 : m + 1 < t.size) (b : (PlainAid.bt t m == 46) = true) (c : Lx.digit (PlainAid.bt t (m + 2)) = true) (d : Lx.digit (PlainAid.bt t (m + 1)) = false) : DecWay t false
  | all (m : Nat) (r : Bool) (h : decide (4 ≤ (t.size : Int)) = true) (hm : (t.size : Int) - 3 = (m : Int)) (hml : m < t.size) (hm1 : (t.size : Int) - 1 = ((m + 2 : Nat) : Int)) (hml1 : m + 2 < t.size) (hm2 : (t.size : Int) - 2 = ((m + 1 : Nat) : Int)) (hml2 : m + 1 < t.size) (b : (PlainAid.bt t m == 46) = true) (c : Lx.digit (PlainAid.bt t (m + 2)) = true) (d : Lx.digit (PlainAid.bt t (m + 1)) = true) (e : Hid (Lx.whole (t.extract 0 m).data.toList = r)) : DecWay t r

set_option maxRecDepth 100000 in
set_option maxHeartbeats 2000000 in
theorem rk_decL (s t : ByteArray) (w : World) (h1 : s.size ≤ 1000) (ht : t.size ≤ 1000) (h0 : (s.toList == [45, 48, 46, 48, 48]) = false) (r ng : Bool) (hg : (ng = true ∧ decide (0 < s.size) = true ∧ 0 < s.size ∧ (PlainAid.bt s 0 == 45) = true) ∨ (ng = false ∧ (decide (0 < s.size) = false ∨ decide (0 < s.size) = true ∧ 0 < s.size ∧ (PlainAid.bt s 0 == 45) = false)))
    (hst : Hid ((ng = true → 0 < s.size ∧ s.extract 1 s.size = t) ∧ (ng = false → t = s))) (hway : DecWay t r) : Calls Tryz.prog 80 #[.string s] w fun e w' => e = .returned (.bool r) ∧ w = w' := by
  have hub := PlainAid.get_bt s
  go_enter Tryz.func80, Tryz.ntmps80
  go_upto_region 3 with fail
  go_cut [13] (fun v wx => v = .bool ng ∧ w = wx)
  case first =>
    rcases hg with ⟨rfl, n0, n1, n2⟩ | ⟨rfl, n0 | ⟨n0, n1, n2⟩⟩
    all_goals
      go_wp2_with fail
      go_meet
      case rel => exact ⟨rfl, rfl⟩
  case rest =>
    obtain ⟨rfl, rfl⟩ := hcut
    clear hg hub h0
    go_upto_if 13 with fail
    go_cut [0] (fun v wx => v = .string t ∧ w = wx)
    case first =>
      cases ng with
      | true =>
        obtain ⟨n1, n2⟩ := hst.out.1 rfl
        have n3 : (1 : Int) ≤ (s.size : Int) := by omega
        clear hst
        go_wp2_with fail
        go_meet
        case rel => exact ⟨rfl, rfl⟩
      | false =>
        have n2 := hst.out.2 rfl
        subst n2
        clear hst
        go_wp2_with fail
        go_meet
        case rel => exact ⟨rfl, rfl⟩
    case rest =>
      obtain ⟨rfl, rfl⟩ := hcut
      clear hst h1
      have hubt := PlainAid.get_bt t
      have hd := fun (c : Int) => rk_digit c w
      go_upto_region 6 with fail
      cases hway with
      | short h =>
        go_wp2_with fail
        go_ret
        exact ⟨rfl, rfl⟩
      | point m h hm hml b =>
        go_wp2_with fail
        go_ret
        exact ⟨rfl, rfl⟩
      | last m h hm hml hm1 hml1 b c =>
        have m1 := hd (PlainAid.bt t (m + 2))
        rw [c] at m1
        clear c
        go_wp2_with (go_at_call 120; refine m1.mono ?_; rintro e w1 ⟨rfl, rfl⟩)
        go_ret
        exact ⟨rfl, rfl⟩
      | one m h hm hml hm1 hml1 hm2 hml2 b c d =>
        obtain ⟨x2, hx2⟩ : ∃ x, PlainAid.bt t (m + 2) = x := ⟨_, rfl⟩
        obtain ⟨x1, hx1⟩ : ∃ x, PlainAid.bt t (m + 1) = x := ⟨_, rfl⟩
        rw [hx2] at c
        rw [hx1] at d
        have m1 := hd x2
        have m2 := hd x1
        rw [c] at m1
        rw [d] at m2
        clear c d
        go_wp2_with (first | (go_at_call 120; refine m1.mono ?_; rintro e w1 ⟨rfl, rfl⟩) | (go_at_call 120; refine m2.mono ?_; rintro e w1 ⟨rfl, rfl⟩))
        go_ret
        exact ⟨rfl, rfl⟩
      | all m r h hm hml hm1 hml1 hm2 hml2 b c d e =>
        obtain ⟨x2, hx2⟩ : ∃ x, PlainAid.bt t (m + 2) = x := ⟨_, rfl⟩
        obtain ⟨x1, hx1⟩ : ∃ x, PlainAid.bt t (m + 1) = x := ⟨_, rfl⟩
        rw [hx2] at c
        rw [hx1] at d
        have m1 := hd x2
        have m2 := hd x1
        obtain ⟨E, hE⟩ : ∃ E, t.extract 0 m = E := ⟨_, rfl⟩
        have m3 := rk_digits E w (by rw [← hE, ByteArray.size_extract]; omega)
        rw [show Lx.whole E.data.toList = r from by rw [← hE]; exact e.out] at m3
        rw [c] at m1
        rw [d] at m2
        clear c d e
        go_wp2_with (first | (go_at_call 120; refine m1.mono ?_; rintro e w1 ⟨rfl, rfl⟩) | (go_at_call 120; refine m2.mono ?_; rintro e w1 ⟨rfl, rfl⟩) | (go_at_call 79; refine m3.mono ?_; rintro e w1 ⟨rfl, rfl⟩))
        go_ret
        exact ⟨rfl, rfl⟩

theorem rk_extract (s : ByteArray) : s.extract 1 s.size = ⟨(s.data.toList.drop 1).toArray⟩ := by
  have hl : s.data.toList.length = s.size := by obtain ⟨⟨l⟩⟩ := s; rfl
  have h2 := Lib.extract_data s 1 s.size
  rw [List.take_of_length_le (by rw [List.length_drop]; omega)] at h2
  generalize s.extract 1 s.size = x at h2 ⊢
  obtain ⟨⟨l⟩⟩ := x
  have h2 : l = _ := h2
  rw [h2]

theorem rk_decimal (s : ByteArray) (w : World) (h1 : s.size ≤ 1000) :
    Calls Tryz.prog 80 #[.string s] w fun e w' => e = .returned (.bool (Lx.rdecimal s.data.toList)) ∧ w = w' := by
  by_cases h0 : (s.toList == [45, 48, 46, 48, 48]) = true
  · have hr : Lx.rdecimal s.data.toList = false := by
      unfold Lx.rdecimal
      rw [← Lib.toList_data, h0]
      rfl
    rw [hr]
    exact rk_decZ s w h0
  · have h0 : (s.toList == [45, 48, 46, 48, 48]) = false := by simpa using h0
    have hr : Lx.rdecimal s.data.toList = Lx.rdec (Lx.unsign s.data.toList) := by
      unfold Lx.rdecimal
      rw [← Lib.toList_data, h0]
      rfl
    rw [hr]
    have hl : s.data.toList.length = s.size := by obtain ⟨⟨l⟩⟩ := s; rfl
    obtain ⟨t, ht⟩ : ∃ t : ByteArray, t = ⟨(Lx.unsign s.data.toList).toArray⟩ := ⟨_, rfl⟩
    have htl : t.data.toList = Lx.unsign s.data.toList := by rw [ht]
    have hts : t.data.toList.length = t.size := by obtain ⟨⟨l⟩⟩ := t; rfl
    rw [← htl]
    have htz : t.size ≤ s.size := by
      rw [← hts, htl, ← hl]
      unfold Lx.unsign
      split
      · rw [List.length_drop]; omega
      · exact Nat.le_refl _
    refine (fun ⟨ng, hg, hst⟩ hway => rk_decL s t w h1 (by omega) h0 _ ng hg (Lib.hid hst) hway : (∃ ng : Bool, ((ng = true ∧ decide (0 < s.size) = true ∧ 0 < s.size ∧ (PlainAid.bt s 0 == 45) = true) ∨ (ng = false ∧ (decide (0 < s.size) = false ∨ decide (0 < s.size) = true ∧ 0 < s.size ∧ (PlainAid.bt s 0 == 45) = false))) ∧ ((ng = true → 0 < s.size ∧ s.extract 1 s.size = t) ∧ (ng = false → t = s))) → _ → _) ?_ ?_
    · by_cases hp : 0 < s.size
      · have hbt : PlainAid.bt s 0 = Lx.at_ s.data.toList 0 := (rk_at s 0).symm
        have hh : ∃ c l, s.data.toList = c :: l := by
          cases hc : s.data.toList with
          | nil => rw [hc] at hl; simp at hl; omega
          | cons c l => exact ⟨c, l, rfl⟩
        obtain ⟨c, l, hc⟩ := hh
        by_cases h45 : c = 45
        · refine ⟨true, .inl ⟨rfl, by simp [hp], hp, ?_⟩, fun _ => ⟨hp, ?_⟩, (fun h => nomatch h)⟩
          · rw [hbt, hc, h45]; rfl
          · rw [rk_extract, ht]
            unfold Lx.unsign
            rw [hc, h45]
            rfl
        · refine ⟨false, .inr ⟨rfl, .inr ⟨by simp [hp], hp, ?_⟩⟩, (fun h => nomatch h), fun _ => ?_⟩
          rotate_left
          · rw [ht]
            unfold Lx.unsign
            rw [if_neg (by rw [hc]; simp [h45])]
          · rw [hbt, hc, beq_eq_false_iff_ne]
            unfold Lx.at_
            intro hx
            apply h45
            apply UInt8.toNat_inj.1
            show c.toNat = 45
            have hx : (c.toNat : Int) = 45 := hx
            omega
      · refine ⟨false, .inr ⟨rfl, .inl (decide_eq_false hp)⟩, (fun h => nomatch h), fun _ => ?_⟩
        rw [ht]
        unfold Lx.unsign
        have : s.data.toList = [] := List.eq_nil_of_length_eq_zero (by omega)
        rw [this]
        obtain ⟨⟨l⟩⟩ := s
        simp at this
        subst this
        rfl
    · by_cases h4 : 4 ≤ t.size
      · obtain ⟨m, hm⟩ : ∃ m, t.size = m + 3 := ⟨t.size - 3, by omega⟩
        have d4 : decide (4 ≤ (t.size : Int)) = true := by simp; omega
        have hrd : Lx.rdec t.data.toList = (decide (PlainAid.bt t m = 46) && Lx.digit (PlainAid.bt t (m + 2)) && Lx.digit (PlainAid.bt t (m + 1)) && Lx.whole (t.extract 0 m).data.toList) := by
          unfold Lx.rdec
          rw [hts, rk_at, rk_at, rk_at, hm, show m + 3 - 3 = m from by omega, show m + 3 - 1 = m + 2 from by omega, show m + 3 - 2 = m + 1 from by omega, Lib.extract_data]
          have : decide (4 ≤ m + 3) = true := by simp; omega
          rw [this]
          rfl
        rw [hrd]
        have q3 : (t.size : Int) - 3 = (m : Int) := by omega
        have q1 : (t.size : Int) - 1 = ((m + 2 : Nat) : Int) := by omega
        have q2 : (t.size : Int) - 2 = ((m + 1 : Nat) : Int) := by omega
        cases hb : decide (PlainAid.bt t m = 46) with
        | false => exact .point m d4 q3 (by omega) (by rw [beq_eq_false_iff_ne]; simpa using hb)
        | true =>
          have hb' : (PlainAid.bt t m == 46) = true := by simpa using hb
          cases hc : Lx.digit (PlainAid.bt t (m + 2)) with
          | false => exact .last m d4 q3 (by omega) q1 (by omega) hb' hc
          | true =>
            cases hd : Lx.digit (PlainAid.bt t (m + 1)) with
            | false => exact .one m d4 q3 (by omega) q1 (by omega) q2 (by omega) hb' hc hd
            | true => exact .all m _ d4 q3 (by omega) q1 (by omega) q2 (by omega) hb' hc hd (Lib.hid rfl)
      · have hrd : Lx.rdec t.data.toList = false := by
          unfold Lx.rdec
          rw [hts]
          simp [h4]
        rw [hrd]
        exact .short (by simp; omega)

end Go.Proofs.YthijakidnkhbnaaGreatDoor
