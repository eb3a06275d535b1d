/-
  The reference's kinds of tokens: the walks.
-/
import Derived.Test.YthijakidnkhbnaaGreatDoorPlKind
import Derived.Test.YthijakidnkhbnaaGreatDoorLexWalk
import Derived.PlainAid
namespace Go.Proofs.YthijakidnkhbnaaGreatDoor
open Go.RowKit

theorem rk_at (s : ByteArray) (i : Nat) : Lx.at_ s.data.toList i = PlainAid.bt s i := by
  obtain ⟨⟨l⟩⟩ := s
  unfold Lx.at_ PlainAid.bt
  rw [List.getD_eq_getElem?_getD]
  by_cases h : i < l.length
  · rw [List.getElem?_eq_getElem h]
    have h2 : i < (⟨⟨l⟩⟩ : ByteArray).size := h
    rw [dif_pos h2]
    rfl
  · rw [List.getElem?_eq_none (Nat.le_of_not_lt h)]
    have h2 : ¬ i < (⟨⟨l⟩⟩ : ByteArray).size := h
    rw [dif_neg h2]
    rfl

set_option maxHeartbeats 400000 in
theorem rk_digit (c : Int) (w : World) :
    Calls Tryz.prog 120 #[.int .u8 c] w fun e w' => e = .returned (.bool (Lx.digit c)) ∧ w = w' := by
  go_enter Tryz.func120, Tryz.ntmps120
  go_wp2
  all_goals go_ret
  all_goals exact ⟨lx_ret (by first | (simp [Lx.digit]; done) | (simp [Lx.digit]; omega)), rfl⟩

set_option maxHeartbeats 400000 in
theorem rk_blank (c : Int) (w : World) :
    Calls Tryz.prog 43 #[.int .u8 c] w fun e w' => e = .returned (.bool (Lx.blank c)) ∧ w = w' := by
  go_enter Tryz.func43, Tryz.ntmps43
  go_wp2
  all_goals go_ret
  all_goals exact ⟨lx_ret (by first | (simp [Lx.blank]; done) | (simp [Lx.blank]; omega)), rfl⟩

set_option maxHeartbeats 400000 in
theorem rk_dateNo (s : ByteArray) (w : World) (_h1 : s.size ≤ 1000000) (hs : ¬ (s.size : Int) = 10) :
    Calls Tryz.prog 78 #[.string s] w fun e w' => e = .returned (.bool false) ∧ w = w' := by
  go_enter Tryz.func78, Tryz.ntmps78
  go_wp2_with fail
  go_ret
  exact ⟨rfl, rfl⟩

set_option maxRecDepth 100000 in
set_option maxHeartbeats 1000000 in
theorem rk_dateL (s : ByteArray) (w : World) (hs : (s.size : Int) = 10) (hs2 : s.size = 10) (j : Nat) (hj : j ≤ 10) (hall : Hid (∀ i, i < j → Lx.dfit i (PlainAid.bt s i) = true)) (hbad : Hid (j < 10 → Lx.dfit j (PlainAid.bt s j) = false)) (r : Bool) (hr : Hid (r = decide (j = 10))) :
    Calls Tryz.prog 78 #[.string s] w fun e w' => e = .returned (.bool r) ∧ w = w' := by
  have hub := PlainAid.get_bt s
  have hd := Lib.hid fun (c : Int) (w : World) => rk_digit c w
  go_enter Tryz.func78, Tryz.ntmps78
  go_wp2_with fail
  go_loopw [3] (fun iv wr => ∃ i : Nat, iv = .int .i64 i ∧ i ≤ j ∧ wr = w) (fun iv _ => 2000 - (RowKit.intOf iv).toNat)
  case atStart => exact ⟨0, rfl, Nat.zero_le _, rfl⟩
  case round =>
    obtain ⟨i, rfl, hi, rfl⟩ := hrel
    by_cases h10 : i < 10
    · have h10I : (i : Int) < 10 := by omega
      have his : i < s.size := by omega
      have hisI : (i : Int) < (s.size : Int) := by omega
      have hw1 : wrap64 ((i : Int) + 1) = ((i + 1 : Nat) : Int) := by unfold wrap64; omega
      obtain ⟨b, hb⟩ : ∃ b, Lx.dfit i (PlainAid.bt s i) = b := ⟨_, rfl⟩
      have hij : b = false → r = false := fun hf => by
        by_cases hlt : i < j
        · rw [hall.out i hlt] at hb; rw [← hb] at hf; cases hf
        · rw [hr.out]; simp; omega
      have hij2 : b = true → i < j := fun ht => by
        by_cases hlt : i < j
        · exact hlt
        · obtain rfl : i = j := by omega
          rw [hbad.out h10] at hb; rw [← hb] at ht; cases ht
      unfold Lx.dfit at hb
      obtain ⟨c, hc⟩ : ∃ c, PlainAid.bt s i = c := ⟨_, rfl⟩
      rw [hc] at hb
      clear hall hbad hr
      by_cases h4 : i = 4 ∨ i = 7
      · rw [if_pos h4] at hb
        clear hd
        cases b with
        | true =>
          have hc45 : c = 45 := by simpa using hb
          have hlt := hij2 rfl
          clear hij hij2 hb
          rcases h4 with h4 | h4
          all_goals
            subst h4
            subst hc45
            go_wp2_with fail
            refine ⟨⟨_, rfl, hlt, trivial⟩, by simp [RowKit.intOf]⟩
        | false =>
          have hc45 : ¬ c = 45 := by simpa using hb
          have hlt := hij rfl
          clear hij hij2 hb
          subst hlt
          rcases h4 with h4 | h4
          all_goals
            subst h4
            go_wp2_with fail
            go_ret
            exact ⟨rfl, rfl⟩
      · rw [if_neg h4] at hb
        have n4 : ((i : Int) == 4) = false := by rw [beq_eq_false_iff_ne]; omega
        have n7 : ((i : Int) == 7) = false := by rw [beq_eq_false_iff_ne]; omega
        have m1 := hd.out c wr
        rw [hb] at m1
        clear hd h4 hb
        cases b with
        | true =>
          have hlt := hij2 rfl
          clear hij hij2
          go_wp2_with (go_at_call 120; refine m1.mono ?_; rintro e w1 ⟨rfl, rfl⟩)
          refine ⟨⟨i + 1, by first | rfl | go_num, hlt, trivial⟩, by simp [RowKit.intOf] <;> omega⟩
        | false =>
          have hlt := hij rfl
          clear hij hij2
          subst hlt
          go_wp2_with (go_at_call 120; refine m1.mono ?_; rintro e w1 ⟨rfl, rfl⟩)
          go_ret
          exact ⟨rfl, rfl⟩
    · have h10I : ¬ (i : Int) < 10 := by omega
      have hres : r = true := by rw [hr.out]; simp; omega
      subst hres
      clear hall hbad hr
      go_wp2_with fail
      go_ret
      exact ⟨rfl, rfl⟩

/-- the first place where a property fails -/
theorem rk_first (p : Nat → Bool) (n : Nat) : ∃ j, j ≤ n ∧ (∀ i, i < j → p i = true) ∧ (j < n → p j = false) := by
  induction n with
  | zero => exact ⟨0, Nat.le_refl _, fun i h => by omega, fun h => by omega⟩
  | succ n ih =>
    obtain ⟨j, h1, h2, h3⟩ := ih
    by_cases h : j < n
    · exact ⟨j, by omega, h2, fun _ => h3 h⟩
    · obtain rfl : j = n := by omega
      cases hp : p j with
      | true => exact ⟨j + 1, Nat.le_refl _, fun i hi => by
          by_cases hij : i < j
          · exact h2 i hij
          · obtain rfl : i = j := by omega
            exact hp, fun h => by omega⟩
      | false => exact ⟨j, by omega, h2, fun _ => hp⟩
theorem rk_date (s : ByteArray) (w : World) (h1 : s.size ≤ 1000000) :
    Calls Tryz.prog 78 #[.string s] w fun e w' => e = .returned (.bool (Lx.rdate s.data.toList)) ∧ w = w' := by
  have hl : s.data.toList.length = s.size := by obtain ⟨⟨l⟩⟩ := s; rfl
  by_cases hs : s.size = 10
  · obtain ⟨j, h2, h3, h4⟩ := rk_first (fun i => Lx.dfit i (PlainAid.bt s i)) 10
    refine rk_dateL s w (by omega) hs j h2 (Lib.hid h3) (Lib.hid h4) _ (Lib.hid ?_)
    unfold Lx.rdate
    rw [hl, hs, Bool.eq_iff_iff]
    simp only [decide_true, Bool.true_and, List.all_eq_true, List.mem_range, decide_eq_true_eq, rk_at]
    constructor
    · intro h
      by_cases hj : j < 10
      · have := h4 hj
        rw [h j hj] at this
        cases this
      · omega
    · rintro rfl i hi
      exact h3 i hi
  · have hr : Lx.rdate s.data.toList = false := by
      unfold Lx.rdate
      rw [hl]
      simp [hs]
    rw [hr]
    exact rk_dateNo s w h1 (by omega)

set_option maxRecDepth 100000 in
set_option maxHeartbeats 1000000 in
theorem rk_digitsL (s : ByteArray) (w : World) (h1 : s.size ≤ 1000000) (j : Nat) (hj : j ≤ s.size) (hall : Hid (∀ i, i < j → Lx.digit (PlainAid.bt s i) = true)) (hbad : Hid (j < s.size → Lx.digit (PlainAid.bt s j) = false)) (r : Bool) (hr : Hid ((j < s.size → r = false) ∧ (j = s.size → r = (decide (s.size = 1) || (decide (1 < s.size) && !decide (PlainAid.bt s 0 = 48)))))) :
    Calls Tryz.prog 79 #[.string s] w fun e w' => e = .returned (.bool r) ∧ w = w' := by
  have hub := PlainAid.get_bt s
  have hd := Lib.hid fun (c : Int) (w : World) => rk_digit c w
  go_enter Tryz.func79, Tryz.ntmps79
  go_wp2_with fail
  go_loopw [3] (fun iv wr => ∃ i : Nat, iv = .int .i64 i ∧ i ≤ j ∧ wr = w) (fun iv _ => 2000000 - (RowKit.intOf iv).toNat)
  case atStart => exact ⟨0, rfl, Nat.zero_le _, rfl⟩
  case round =>
    obtain ⟨i, rfl, hi, rfl⟩ := hrel
    by_cases his : i < s.size
    · have hisI : (i : Int) < (s.size : Int) := by omega
      have hw1 : wrap64 ((i : Int) + 1) = ((i + 1 : Nat) : Int) := by unfold wrap64; omega
      obtain ⟨b, hb⟩ : ∃ b, Lx.digit (PlainAid.bt s i) = b := ⟨_, rfl⟩
      have hij : b = false → r = false := fun hf => by
        by_cases hlt : i < j
        · rw [hall.out i hlt] at hb; rw [← hb] at hf; cases hf
        · exact hr.out.1 (by omega)
      have hij2 : b = true → i < j := fun ht => by
        by_cases hlt : i < j
        · exact hlt
        · obtain rfl : i = j := by omega
          rw [hbad.out his] at hb; rw [← hb] at ht; cases ht
      obtain ⟨c, hc⟩ : ∃ c, PlainAid.bt s i = c := ⟨_, rfl⟩
      rw [hc] at hb
      clear hall hbad hr
      cases b with
      | true =>
        have hlt := hij2 rfl
        clear hij hij2
        have m1 := hd.out c wr
        rw [hb] at m1
        clear hd hb
        go_wp2_with (go_at_call 120; refine m1.mono ?_; rintro e w1 ⟨rfl, rfl⟩)
        refine ⟨⟨i + 1, by first | rfl | go_num, hlt, trivial⟩, by simp [RowKit.intOf] <;> omega⟩
      | false =>
        have hlt := hij rfl
        clear hij hij2
        subst hlt
        have m1 := hd.out c wr
        rw [hb] at m1
        clear hd hb
        go_wp2_with (go_at_call 120; refine m1.mono ?_; rintro e w1 ⟨rfl, rfl⟩)
        go_ret
        exact ⟨rfl, rfl⟩
    · have hisI : ¬ (i : Int) < (s.size : Int) := by omega
      have hre := hr.out.2 (by omega)
      clear hall hbad hr hd
      by_cases e1 : s.size = 1
      · have e2 : (s.size : Int) = 1 := by omega
        have hrv : r = true := by rw [hre]; simp [e1]
        subst hrv
        clear hre
        go_wp2_with fail
        go_ret
        exact ⟨rfl, rfl⟩
      · have e2 : ((s.size : Int) == 1) = false := by rw [beq_eq_false_iff_ne]; omega
        by_cases e3 : 1 < s.size
        · have e4 : decide (1 < (s.size : Int)) = true := by simp; omega
          have e6 : 0 < s.size := by omega
          have e7 : (0 : Int) < (s.size : Int) := by omega
          obtain ⟨c, hc⟩ : ∃ c, PlainAid.bt s 0 = c := ⟨_, rfl⟩
          rw [hc] at hre
          by_cases e5 : c = 48
          · have hrv : r = false := by rw [hre]; simp [e1, e5]
            have e8 : (c != 48) = false := by simp [e5]
            subst hrv
            clear hre e5
            go_wp2_with fail
            go_ret
            exact ⟨rfl, rfl⟩
          · have hrv : r = true := by rw [hre]; simp [e3, e5]
            have e8 : (c != 48) = true := by simp [e5]
            subst hrv
            clear hre e5
            go_wp2_with fail
            go_ret
            exact ⟨rfl, rfl⟩
        · have e4 : decide (1 < (s.size : Int)) = false := by simp; omega
          have hrv : r = false := by rw [hre]; simp [e1, e3]
          subst hrv
          clear hre
          go_wp2_with fail
          go_ret
          exact ⟨rfl, rfl⟩

set_option maxRecDepth 100000 in
set_option maxHeartbeats 1000000 in
theorem rk_nameL (s : ByteArray) (w : World) (h1 : s.size ≤ 1000000) (j : Nat) (hj : j ≤ s.size) (hall : Hid (∀ i, i < j → Lx.named (PlainAid.bt s i) = true)) (hbad : Hid (j < s.size → Lx.named (PlainAid.bt s j) = false)) (r : Bool) (hr : Hid ((j < s.size → r = false) ∧ (j = s.size → r = decide (0 < s.size)))) :
    Calls Tryz.prog 81 #[.string s] w fun e w' => e = .returned (.bool r) ∧ w = w' := by
  have hub := PlainAid.get_bt s
  have hd := Lib.hid fun (c : Int) (w : World) => rk_digit c w
  go_enter Tryz.func81, Tryz.ntmps81
  go_wp2_with fail
  go_loopw [3] (fun iv wr => ∃ i : Nat, iv = .int .i64 i ∧ i ≤ j ∧ wr = w) (fun iv _ => 2000000 - (RowKit.intOf iv).toNat)
  case atStart => exact ⟨0, rfl, Nat.zero_le _, rfl⟩
  case round =>
    obtain ⟨i, rfl, hi, rfl⟩ := hrel
    by_cases his : i < s.size
    · have hisI : (i : Int) < (s.size : Int) := by omega
      have hw1 : wrap64 ((i : Int) + 1) = ((i + 1 : Nat) : Int) := by unfold wrap64; omega
      obtain ⟨b, hb⟩ : ∃ b, Lx.named (PlainAid.bt s i) = b := ⟨_, rfl⟩
      have hij : b = false → r = false := fun hf => by
        by_cases hlt : i < j
        · rw [hall.out i hlt] at hb; rw [← hb] at hf; cases hf
        · exact hr.out.1 (by omega)
      have hij2 : b = true → i < j := fun ht => by
        by_cases hlt : i < j
        · exact hlt
        · obtain rfl : i = j := by omega
          rw [hbad.out his] at hb; rw [← hb] at ht; cases ht
      obtain ⟨c, hc⟩ : ∃ c, PlainAid.bt s i = c := ⟨_, rfl⟩
      rw [hc] at hb
      clear hall hbad hr
      cases b with
      | true =>
        have hlt := hij2 rfl
        clear hij hij2
        have hn : Lx.named c = true := hb
        clear hb
        have m1 := hd.out c wr
        clear hd
        cases hdg : Lx.digit c with
        | true =>
          rw [hdg] at m1
          clear hdg hn
          go_wp2_with (go_at_call 120; refine m1.mono ?_; rintro e w1 ⟨rfl, rfl⟩)
          refine ⟨⟨i + 1, by first | rfl | go_num, hlt, trivial⟩, by simp [RowKit.intOf] <;> omega⟩
        | false =>
          rw [hdg] at m1
          unfold Lx.named Lx.upper at hn
          rw [hdg] at hn
          clear hdg
          by_cases h45 : c = 45
          · have e1 : (c != 45) = false := by simp [h45]
            clear hn h45
            go_wp2_with (go_at_call 120; refine m1.mono ?_; rintro e w1 ⟨rfl, rfl⟩)
            refine ⟨⟨i + 1, by first | rfl | go_num, hlt, trivial⟩, by simp [RowKit.intOf] <;> omega⟩
          · have e1 : (c != 45) = true := by simp [h45]
            have e2 : decide (c < 65) = false := by simp [h45] at hn; simp; omega
            have e3 : decide (90 < c) = false := by simp [h45] at hn; simp; omega
            clear hn h45
            go_wp2_with (go_at_call 120; refine m1.mono ?_; rintro e w1 ⟨rfl, rfl⟩)
            refine ⟨⟨i + 1, by first | rfl | go_num, hlt, trivial⟩, by simp [RowKit.intOf] <;> omega⟩
      | false =>
        have hlt := hij rfl
        clear hij hij2
        subst hlt
        have hn : Lx.named c = false := hb
        clear hb
        have m1 := hd.out c wr
        clear hd
        unfold Lx.named Lx.upper at hn
        simp only [Bool.or_eq_false_iff, Bool.and_eq_false_iff, decide_eq_false_iff_not] at hn
        obtain ⟨⟨h65, hdg⟩, h45⟩ := hn
        rw [hdg] at m1
        have e1 : (c != 45) = true := by simp [h45]
        clear hdg h45
        by_cases e2 : c < 65
        · have e3 : decide (c < 65) = true := by simp [e2]
          clear h65
          go_wp2_with (go_at_call 120; refine m1.mono ?_; rintro e w1 ⟨rfl, rfl⟩)
          go_ret
          exact ⟨rfl, rfl⟩
        · have e3 : decide (c < 65) = false := by simp [e2]
          have e4 : decide (90 < c) = true := by simp; omega
          clear h65
          go_wp2_with (go_at_call 120; refine m1.mono ?_; rintro e w1 ⟨rfl, rfl⟩)
          go_ret
          exact ⟨rfl, rfl⟩
    · have hisI : ¬ (i : Int) < (s.size : Int) := by omega
      have hre := hr.out.2 (by omega)
      clear hall hbad hr hd
      have HRE := Lib.hid hre
      clear hre
      go_wp2_with fail
      go_ret
      exact ⟨by rw [HRE.out]; rfl, rfl⟩

set_option maxRecDepth 100000 in
set_option maxHeartbeats 1000000 in
theorem rk_wordL (s : ByteArray) (w : World) (h1 : s.size ≤ 1000000) (j : Nat) (hj : j ≤ s.size) (hall : Hid (∀ i, i < j → Lx.lower (PlainAid.bt s i) = true)) (hbad : Hid (j < s.size → Lx.lower (PlainAid.bt s j) = false)) (r : Bool) (hr : Hid ((j < s.size → r = false) ∧ (j = s.size → r = decide (0 < s.size)))) :
    Calls Tryz.prog 82 #[.string s] w fun e w' => e = .returned (.bool r) ∧ w = w' := by
  have hub := PlainAid.get_bt s
  have hd := Lib.hid fun (c : Int) (w : World) => rk_digit c w
  go_enter Tryz.func82, Tryz.ntmps82
  go_wp2_with fail
  go_loopw [3] (fun iv wr => ∃ i : Nat, iv = .int .i64 i ∧ i ≤ j ∧ wr = w) (fun iv _ => 2000000 - (RowKit.intOf iv).toNat)
  case atStart => exact ⟨0, rfl, Nat.zero_le _, rfl⟩
  case round =>
    obtain ⟨i, rfl, hi, rfl⟩ := hrel
    by_cases his : i < s.size
    · have hisI : (i : Int) < (s.size : Int) := by omega
      have hw1 : wrap64 ((i : Int) + 1) = ((i + 1 : Nat) : Int) := by unfold wrap64; omega
      obtain ⟨b, hb⟩ : ∃ b, Lx.lower (PlainAid.bt s i) = b := ⟨_, rfl⟩
      have hij : b = false → r = false := fun hf => by
        by_cases hlt : i < j
        · rw [hall.out i hlt] at hb; rw [← hb] at hf; cases hf
        · exact hr.out.1 (by omega)
      have hij2 : b = true → i < j := fun ht => by
        by_cases hlt : i < j
        · exact hlt
        · obtain rfl : i = j := by omega
          rw [hbad.out his] at hb; rw [← hb] at ht; cases ht
      obtain ⟨c, hc⟩ : ∃ c, PlainAid.bt s i = c := ⟨_, rfl⟩
      rw [hc] at hb
      clear hall hbad hr
      cases b with
      | true =>
        have hlt := hij2 rfl
        clear hij hij2
        have hn : Lx.lower c = true := hb
        clear hb hd
        unfold Lx.lower at hn
        have e2 : decide (c < 97) = false := by simp at hn; simp; omega
        have e3 : decide (122 < c) = false := by simp at hn; simp; omega
        clear hn
        go_wp2_with fail
        refine ⟨⟨i + 1, by first | rfl | go_num, hlt, trivial⟩, by simp [RowKit.intOf] <;> omega⟩
      | false =>
        have hlt := hij rfl
        clear hij hij2
        subst hlt
        have hn : Lx.lower c = false := hb
        clear hb hd
        unfold Lx.lower at hn
        by_cases e2 : c < 97
        · have e3 : decide (c < 97) = true := by simp [e2]
          clear hn
          go_wp2_with fail
          go_ret
          exact ⟨rfl, rfl⟩
        · have e3 : decide (c < 97) = false := by simp [e2]
          have e4 : decide (122 < c) = true := by simp at hn; simp; omega
          clear hn
          go_wp2_with fail
          go_ret
          exact ⟨rfl, rfl⟩
    · have hisI : ¬ (i : Int) < (s.size : Int) := by omega
      have hre := hr.out.2 (by omega)
      clear hall hbad hr hd
      have HRE := Lib.hid hre
      clear hre
      go_wp2_with fail
      go_ret
      exact ⟨by rw [HRE.out]; rfl, rfl⟩

theorem rk_allP (P : Int → Bool) (s : ByteArray) : s.data.toList.all (fun c => P (c.toNat : Int)) = true ↔ ∀ i, i < s.size → P (PlainAid.bt s i) = true := by
  obtain ⟨⟨l⟩⟩ := s
  have hl : (⟨⟨l⟩⟩ : ByteArray).size = l.length := rfl
  rw [List.all_eq_true, hl]
  constructor
  · intro h i hi
    unfold PlainAid.bt
    rw [dif_pos (by rw [hl]; exact hi)]
    exact h l[i] (List.getElem_mem hi)
  · intro h c hc
    obtain ⟨i, hi, rfl⟩ := List.getElem_of_mem hc
    have := h i hi
    unfold PlainAid.bt at this
    rw [dif_pos (by rw [hl]; exact hi)] at this
    exact this
theorem rk_digits (s : ByteArray) (w : World) (h1 : s.size ≤ 1000000) :
    Calls Tryz.prog 79 #[.string s] w fun e w' => e = .returned (.bool (Lx.whole s.data.toList)) ∧ w = w' := by
  obtain ⟨j, h2, h3, h4⟩ := rk_first (fun i => Lx.digit (PlainAid.bt s i)) s.size
  refine rk_digitsL s w h1 j h2 (Lib.hid h3) (Lib.hid h4) _ (Lib.hid ⟨fun hj => ?_, fun hj => ?_⟩)
  · have hn : ¬ s.data.toList.all (fun c => Lx.digit (c.toNat : Int)) = true := by
      rw [rk_allP]
      intro h
      have := h4 hj
      rw [h j hj] at this
      cases this
    unfold Lx.whole Lx.all
    rw [Bool.eq_false_iff]
    intro h
    simp only [Bool.and_eq_true] at h
    exact hn h.1.2
  · have hy : s.data.toList.all (fun c => Lx.digit (c.toNat : Int)) = true := by
      rw [rk_allP]
      intro i hi
      exact h3 i (by omega)
    have hl : s.data.toList.length = s.size := by obtain ⟨⟨l⟩⟩ := s; rfl
    unfold Lx.whole Lx.all
    rw [hy, Bool.and_true]
    have hb : (s.data.toList.head? == some 48) = (decide (0 < s.size) && decide (PlainAid.bt s 0 = 48)) := by
      rw [← rk_at]
      unfold Lx.at_
      rw [← hl]
      cases s.data.toList with
      | nil => rfl
      | cons c l =>
        rw [Bool.eq_iff_iff]
        simp only [List.head?_cons, beq_iff_eq, Option.some.injEq, List.length_cons, List.getD_cons_zero, Bool.and_eq_true, decide_eq_true_eq]
        constructor
        · rintro rfl
          exact ⟨by omega, rfl⟩
        · rintro ⟨_, h⟩
          apply UInt8.toNat_inj.1
          show c.toNat = 48
          omega
    rw [hb, hl]
    have he : s.data.toList.isEmpty = decide (s.size = 0) := by
      rw [← hl]
      cases s.data.toList <;> simp
    rw [he]
    by_cases e0 : s.size = 0
    · simp [e0]
    · by_cases e1 : s.size = 1
      · simp [e1]
      · have e2 : 0 < s.size := by omega
        have e3 : 1 < s.size := by omega
        simp [e0, e1, e2, e3]
theorem rk_scan (P : Int → Bool) (s : ByteArray) : ∃ j, j ≤ s.size ∧ (∀ i, i < j → P (PlainAid.bt s i) = true) ∧ (j < s.size → P (PlainAid.bt s j) = false) ∧ ((j < s.size → Lx.all P s.data.toList = false) ∧ (j = s.size → Lx.all P s.data.toList = decide (0 < s.size))) := by
  obtain ⟨j, h2, h3, h4⟩ := rk_first (fun i => P (PlainAid.bt s i)) s.size
  refine ⟨j, h2, h3, h4, fun hj => ?_, fun hj => ?_⟩
  · have hn : ¬ s.data.toList.all (fun c => P (c.toNat : Int)) = true := by
      rw [rk_allP]
      intro h
      have := h4 hj
      rw [h j hj] at this
      cases this
    unfold Lx.all
    rw [Bool.eq_false_iff]
    intro h
    simp only [Bool.and_eq_true] at h
    exact hn h.2
  · have hy : s.data.toList.all (fun c => P (c.toNat : Int)) = true := by
      rw [rk_allP]
      intro i hi
      exact h3 i (by omega)
    have hl : s.data.toList.length = s.size := by obtain ⟨⟨l⟩⟩ := s; rfl
    unfold Lx.all
    rw [hy, Bool.and_true, ← hl]
    cases s.data.toList <;> simp
theorem rk_name (s : ByteArray) (w : World) (h1 : s.size ≤ 1000000) :
    Calls Tryz.prog 81 #[.string s] w fun e w' => e = .returned (.bool (Lx.all Lx.named s.data.toList)) ∧ w = w' := by
  obtain ⟨j, h2, h3, h4, h5⟩ := rk_scan Lx.named s
  exact rk_nameL s w h1 j h2 (Lib.hid h3) (Lib.hid h4) _ (Lib.hid h5)
theorem rk_word (s : ByteArray) (w : World) (h1 : s.size ≤ 1000000) :
    Calls Tryz.prog 82 #[.string s] w fun e w' => e = .returned (.bool (Lx.all Lx.lower s.data.toList)) ∧ w = w' := by
  obtain ⟨j, h2, h3, h4, h5⟩ := rk_scan Lx.lower s
  exact rk_wordL s w h1 j h2 (Lib.hid h3) (Lib.hid h4) _ (Lib.hid h5)

end Go.Proofs.YthijakidnkhbnaaGreatDoor
