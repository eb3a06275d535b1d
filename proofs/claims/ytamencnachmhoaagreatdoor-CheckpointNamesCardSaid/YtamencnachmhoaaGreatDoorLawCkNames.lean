/-
  CheckpointNames: the walk.
-/
import Derived.Test.YtamencnachmhoaaGreatDoorCkNamesA
namespace Go.Proofs.YtamencnachmhoaaGreatDoor
open Go.RowKit

set_option maxRecDepth 100000 in
set_option maxHeartbeats 400000 in
theorem ln_long (W : World) (s : ByteArray) (n : Int) (a : Option Addr) (l cap : Nat) (x1 x2 : Bool) (h1 : decide ((100 : Int) < (s.size : Int)) = x1) (h2 : decide ((1500 : Int) < (l : Int)) = x2) (hx : (x1 || x2) = true) :
    Calls Tryz.prog 3 #[.string s, .int .i64 n, .slice a l cap] W fun e W' => e = .returned (.bool true) ∧ Below W.heap.size W W' := by
  have n0 := ck_known W
  have nK : Hid (∀ o, Calls Tryz.prog 10 #[] o fun e W' => e = .returned (.bool true) ∧ Below o.heap.size o W') := Lib.hid ck_known
  cases x1
  all_goals cases x2
  all_goals try (exact absurd hx (by decide))
  all_goals
    simp only [decide_eq_true_eq, decide_eq_false_iff_not] at h1 h2
    go_enter Tryz.func3, Tryz.ntmps3
    go_wp2_with fail
    refine n0.mono ?_
    rintro e W1 ⟨rfl, b1⟩
    have HB1 := Lib.hid b1
    have n1 := nK.out W1
    clear n0 b1
    go_wp2_with fail
    refine n1.mono ?_
    rintro e W2 ⟨rfl, b2⟩
    have HB2 := Lib.hid (HB1.out.trans (b2.mono HB1.out.size))
    clear n1 b2
    go_wp2_with fail
    go_ret
    exact ⟨rfl, HB2.out⟩

set_option maxRecDepth 100000 in
set_option maxHeartbeats 400000 in
theorem ln_main (W : World) (s : ByteArray) (n : Int) (a : Option Addr) (l cap : Nat) (h1 : ¬ (100 : Int) < (s.size : Int)) (h2 : ¬ (1500 : Int) < (l : Int)) (f : ByteArray) (e1 e2 : Int) (q : Ck.Bs)
    (n1 : Hid (∀ w, Below W.heap.size W w → Calls Tryz.prog 11 #[.string s, .int .i64 n] w fun e W' => e = .returned (.tuple #[.string f, .int .i64 e1]) ∧ Below w.heap.size w W'))
    (n2 : Hid (∀ w, Calls Tryz.prog 12 #[.string s, .int .i64 n] w fun e W' => e = .returned (.tuple #[.string f, .int .i64 e1]) ∧ Below w.heap.size w W'))
    (n3 : Hid (∀ w, Below W.heap.size W w → Calls Tryz.prog 13 #[.int .i64 n, .slice a l cap] w fun e W' => ∃ v, e = .returned (.tuple #[v, .int .i64 e2]) ∧ RdB W' W'.heap.size v q ∧ Below w.heap.size w W'))
    (n4 : Hid (∀ w, Below W.heap.size W w → Calls Tryz.prog 14 #[.int .i64 n, .slice a l cap] w fun e W' => ∃ v, e = .returned (.tuple #[v, .int .i64 e2]) ∧ RdB W' W'.heap.size v q ∧ Below w.heap.size w W')) :
    Calls Tryz.prog 3 #[.string s, .int .i64 n, .slice a l cap] W fun e W' => e = .returned (.bool true) ∧ Below W.heap.size W W' := by
  have n0 := ck_known W
  go_enter Tryz.func3, Tryz.ntmps3
  go_wp2_with fail
  refine n0.mono ?_
  rintro e W1 ⟨rfl, b1⟩
  have HB1 := Lib.hid b1
  have m1 := n1.out W1 b1
  clear n0 b1 n1
  go_wp2_with fail
  refine m1.mono ?_
  rintro e W2 ⟨rfl, b2⟩
  have HB2 := Lib.hid (HB1.out.trans (b2.mono HB1.out.size))
  have m2 := n2.out W2
  clear m1 b2 n2
  go_wp2_with fail
  refine m2.mono ?_
  rintro e W3 ⟨rfl, b3⟩
  have HB3 := Lib.hid (HB2.out.trans (b3.mono HB2.out.size))
  have m3 := n3.out W3 HB3.out
  clear m2 b3 n3
  go_wp2_with fail
  refine m3.mono ?_
  rintro e W4 ⟨v4, rfl, r4, b4⟩
  have HB4 := Lib.hid (HB3.out.trans (b4.mono HB3.out.size))
  have HR4 := Lib.hid r4
  have m4 := n4.out W4 HB4.out
  obtain ⟨a4, c4, rfl⟩ := r4.form
  clear m3 r4 b4 n4
  go_wp2_with fail
  refine m4.mono ?_
  rintro e W5 ⟨v5, rfl, r5, b5⟩
  have HB5 := Lib.hid (HB4.out.trans (b5.mono HB4.out.size))
  have q4 := dk_conv ((HR4.out.below b5).mono b5.size) W5 rfl
  have q5 := dk_conv r5 W5 rfl
  obtain ⟨a5, c5, rfl⟩ := r5.form
  clear m4 r5 b5 HR4
  go_wp2_with fail
  go_ret
  exact ⟨rfl, HB5.out⟩

set_option maxRecDepth 100000 in
theorem law_cknames (W : World) (s : ByteArray) (n : Int) (bv : Value) (d : Ck.Bs) (_hs : s.size ≤ 9223372036854775807) (hd : RdB W W.heap.size bv d)
    (ht : ∀ W', Below W.heap.size W W' → Lib.TabIs Tryz.prog W' "internal/strconv.uint64pow10" .u64 Lib.pow10Tab) :
    Calls Tryz.prog 3 #[.string s, .int .i64 n, bv] W fun e W' => e = .returned (.bool true) ∧ Below W.heap.size W W' := by
  obtain ⟨a, cap, rfl⟩ := hd.form
  by_cases hb : 100 < s.size ∨ 1500 < d.length
  · exact ln_long W s n a d.length cap _ _ rfl rfl (by simp only [Bool.or_eq_true, decide_eq_true_eq]; omega)
  · refine ln_main W s n a d.length cap (by omega) (by omega) _ _ _ _ (Lib.hid fun w hw => ck_FileNameC w s n (by omega) (ht w hw) (fun W' hW' => ht W' (hw.trans (hW'.mono hw.size)))) (Lib.hid fun w => r12_FileName w s n (by omega))
      (Lib.hid fun w hw => (ck_Encode w n _ d ((hd.below hw).mono hw.size) (by omega)).mono fun e W' ⟨v, h1, h2, h3⟩ => ⟨v, h1, RdB.of_own h2, h3⟩)
      (Lib.hid fun w hw => (r12_Encode w n _ d ((hd.below hw).mono hw.size)).mono fun e W' ⟨v, h1, h2, h3⟩ => ⟨v, h1, RdB.of_own h2, h3⟩)

end Go.Proofs.YtamencnachmhoaaGreatDoor
