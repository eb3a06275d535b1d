/-
  The reference's Kind: the walk.
-/
import Derived.Test.YthijakidnkhbnaaGreatDoorRkDec
namespace Go.Proofs.YthijakidnkhbnaaGreatDoor
open Go.RowKit

/-- which kind -/
inductive KdWay : Bool → Bool → Bool → Bool → Bool → Bool → Int → Int → Prop where
  | date (g s m n o : Bool) : KdWay true g s m n o 4 0
  | num (m n o : Bool) : KdWay false true true m n o 2 0
  | decG (n o : Bool) : KdWay false true false true n o 3 0
  | dec (s n o : Bool) : KdWay false false s true n o 3 0
  | nameG (o : Bool) : KdWay false true false false true o 1 0
  | name (s o : Bool) : KdWay false false s false true o 1 0
  | wordG : KdWay false true false false false true 0 0
  | word (s : Bool) : KdWay false false s false false true 0 0
  | noneG : KdWay false true false false false false 0 30
  | none (s : Bool) : KdWay false false s false false false 0 30

set_option maxRecDepth 100000 in
set_option maxHeartbeats 1000000 in
theorem rk_kindL (s : ByteArray) (w : World) (h1 : s.size ≤ 32) (bd bg bs bm bn bw : Bool) (k e : Int) (hway : KdWay bd bg bs bm bn bw k e) (h16 : decide ((s.size : Int) ≤ 16) = bs)
    (m1 : Calls Tryz.prog 78 #[.string s] w fun e w' => e = .returned (.bool bd) ∧ w = w')
    (m2 : Calls Tryz.prog 79 #[.string s] w fun e w' => e = .returned (.bool bg) ∧ w = w')
    (m3 : Calls Tryz.prog 80 #[.string s] w fun e w' => e = .returned (.bool bm) ∧ w = w')
    (m4 : Calls Tryz.prog 81 #[.string s] w fun e w' => e = .returned (.bool bn) ∧ w = w')
    (m5 : Calls Tryz.prog 82 #[.string s] w fun e w' => e = .returned (.bool bw) ∧ w = w') :
    Calls Tryz.prog 44 #[.string s] w fun x w' => x = .returned (.tuple #[.int .i64 k, .int .i64 e]) ∧ w = w' := by
  cases hway
  all_goals
    go_enter Tryz.func44, Tryz.ntmps44
    go_wp2_with ((first | (go_at_call 78; refine m1.mono ?_) | (go_at_call 79; refine m2.mono ?_) | (go_at_call 80; refine m3.mono ?_) | (go_at_call 81; refine m4.mono ?_) | (go_at_call 82; refine m5.mono ?_)); rintro e w1 ⟨rfl, rfl⟩)
    go_ret2
    exact ⟨rfl, rfl⟩
set_option maxRecDepth 100000 in
set_option maxHeartbeats 400000 in
theorem rk_kindLong (s : ByteArray) (w : World) (_h1 : s.size ≤ 1000000) (h2 : (32 : Int) < (s.size : Int)) :
    Calls Tryz.prog 44 #[.string s] w fun x w' => x = .returned (.tuple #[.int .i64 0, .int .i64 5]) ∧ w = w' := by
  go_enter Tryz.func44, Tryz.ntmps44
  go_wp2_with fail
  go_ret2
  exact ⟨rfl, rfl⟩

theorem rk_kind (s : ByteArray) (w : World) (h1 : s.size ≤ 1000000) :
    Calls Tryz.prog 44 #[.string s] w fun x w' => x = .returned (.tuple #[.int .i64 (Lx.classify s).1, .int .i64 (Lx.classify s).2]) ∧ w = w' := by
  rw [Lx.classify_eq]
  have hl : s.data.toList.length = s.size := by obtain ⟨⟨l⟩⟩ := s; rfl
  by_cases h : 32 < s.size
  · rw [show Lx.rkind s.data.toList = (0, 5) from by unfold Lx.rkind; rw [if_pos (by rw [hl]; exact h)]]
    exact rk_kindLong s w h1 (by omega)
  · refine rk_kindL s w (by omega) (Lx.rdate s.data.toList) (Lx.whole s.data.toList) (decide ((s.size : Int) ≤ 16)) (Lx.rdecimal s.data.toList) (Lx.all Lx.named s.data.toList) (Lx.all Lx.lower s.data.toList) _ _ ?_ rfl (rk_date s w h1) (rk_digits s w h1) (rk_decimal s w (by omega)) (rk_name s w h1) (rk_word s w h1)
    have h16 : decide (s.size ≤ 16) = decide ((s.size : Int) ≤ 16) := by
      by_cases hh : s.size ≤ 16
      · rw [decide_eq_true hh, decide_eq_true (by omega)]
      · rw [decide_eq_false hh, decide_eq_false (by omega)]
    unfold Lx.rkind
    rw [if_neg (by rw [hl]; exact h), hl, h16]
    generalize Lx.rdate s.data.toList = bd
    generalize Lx.whole s.data.toList = bg
    generalize decide ((s.size : Int) ≤ 16) = bs
    generalize Lx.rdecimal s.data.toList = bm
    generalize Lx.all Lx.named s.data.toList = bn
    generalize Lx.all Lx.lower s.data.toList = bw
    cases bd with
    | true => exact .date _ _ _ _ _
    | false =>
      cases bg with
      | true =>
        cases bs with
        | true => exact .num _ _ _
        | false =>
          cases bm with
          | true => exact .decG _ _
          | false =>
            cases bn with
            | true => exact .nameG _
            | false =>
              cases bw with
              | true => exact .wordG
              | false => exact .noneG
      | false =>
        cases bm with
        | true => exact .dec _ _ _
        | false =>
          cases bn with
          | true => exact .name _ _
          | false =>
            cases bw with
            | true => exact .word _
            | false => exact .none _

end Go.Proofs.YthijakidnkhbnaaGreatDoor
