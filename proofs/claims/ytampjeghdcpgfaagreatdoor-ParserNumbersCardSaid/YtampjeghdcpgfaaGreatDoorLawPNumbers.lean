/-
  ParserNumbers: the walk.
-/
import Derived.Test.YtampjeghdcpgfaaGreatDoorPsKnow
import Derived.Test.YtampjeghdcpgfaaGreatDoorRkCash2
namespace Go.Proofs.YtampjeghdcpgfaaGreatDoor
open Go.RowKit

set_option maxRecDepth 100000 in
set_option maxHeartbeats 1000000 in
theorem pn_long (w : World) (s : ByteArray) (hs : (60 : Int) < (s.size : Int))
    (m1 : Hid (∀ W, Below w.heap.size w W → Calls Tryz.prog 11 #[] W fun e W' => e = .returned (.bool true) ∧ Below W.heap.size W W')) :
    Calls Tryz.prog 4 #[.string s] w fun e W' => e = .returned (.bool true) ∧ Below w.heap.size w W' := by
  have HB0 : Hid (Below w.heap.size w w) := Lib.hid (Below.refl _ _)
  go_enter Tryz.func4, Tryz.ntmps4
  go_upto_region 2 with (go_at_call 11; refine (m1.out _ HB0.out).mono ?_; rintro e w1 ⟨rfl, hb1⟩; have HB1 := Lib.hid (HB0.out.trans (hb1.mono HB0.out.size)); clear hb1)
  go_wp2_with (go_at_call 11; refine (m1.out _ HB1.out).mono ?_; rintro e w2 ⟨rfl, hb2⟩; have HB2 := Lib.hid (HB1.out.trans (hb2.mono HB1.out.size)); clear hb2)
  go_ret
  exact ⟨rfl, HB2.out⟩

set_option maxRecDepth 100000 in
set_option maxHeartbeats 1000000 in
theorem pn_main (w : World) (s : ByteArray) (hs : (s.size : Int) ≤ 60) (a x c y : Int)
    (m1 : Hid (∀ W, Below w.heap.size w W → Calls Tryz.prog 11 #[] W fun e W' => e = .returned (.bool true) ∧ Below W.heap.size W W'))
    (m2 : Hid (∀ W, Below w.heap.size w W → Calls Tryz.prog 16 #[.string s] W fun e W' => e = .returned (.tuple #[.int .i64 a, .int .i64 x]) ∧ Below W.heap.size W W'))
    (m3 : Hid (∀ W, Calls Tryz.prog 17 #[.string s] W fun e W' => e = .returned (.tuple #[.int .i64 a, .int .i64 x]) ∧ W = W'))
    (m4 : Hid (∀ W, Below w.heap.size w W → Calls Tryz.prog 18 #[.string s] W fun e W' => e = .returned (.tuple #[.int .i64 c, .int .i64 y]) ∧ Below W.heap.size W W'))
    (m5 : Hid (∀ W, Calls Tryz.prog 19 #[.string s] W fun e W' => e = .returned (.tuple #[.int .i64 c, .int .i64 y]) ∧ W = W')) :
    Calls Tryz.prog 4 #[.string s] w fun e W' => e = .returned (.bool true) ∧ Below w.heap.size w W' := by
  have HB0 : Hid (Below w.heap.size w w) := Lib.hid (Below.refl _ _)
  go_enter Tryz.func4, Tryz.ntmps4
  go_upto_region 3 with (go_at_call 11; refine (m1.out _ HB0.out).mono ?_; rintro e w1 ⟨rfl, hb1⟩; have HB1 := Lib.hid (HB0.out.trans (hb1.mono HB0.out.size)); clear hb1)
  go_upto_region 4 with (go_at_call 16; refine (m2.out _ HB1.out).mono ?_; rintro e w2 ⟨rfl, hb2⟩; have HB2 := Lib.hid (HB1.out.trans (hb2.mono HB1.out.size)); clear hb2)
  go_upto_region 5 with (go_at_call 17; refine (m3.out _).mono ?_; rintro e w3 ⟨rfl, rfl⟩)
  go_upto_region 6 with (go_at_call 18; refine (m4.out _ HB2.out).mono ?_; rintro e w4 ⟨rfl, hb4⟩; have HB4 := Lib.hid (HB2.out.trans (hb4.mono HB2.out.size)); clear hb4)
  go_wp2_with (go_at_call 19; refine (m5.out _).mono ?_; rintro e w5 ⟨rfl, rfl⟩)
  go_ret
  exact ⟨rfl, HB4.out⟩

/-- the law -/
theorem law_pnumbers {m : Int} {kb ko kc : Nat} {w : World} (env : PvEnv m kb ko kc w) (s : ByteArray) (_ : s.size ≤ maxLen) : Calls Tryz.prog 4 #[.string s] w fun e W' => e = .returned (.bool true) ∧ Below w.heap.size w W' := by
  have m1 : Hid (∀ W, Below w.heap.size w W → Calls Tryz.prog 11 #[] W fun e W' => e = .returned (.bool true) ∧ Below W.heap.size W W') := Lib.hid fun W hW => pr_known (env.below hW)
  by_cases hs : 60 < s.size
  · exact pn_long w s (by omega) m1
  · exact pn_main w s (by omega) _ _ _ _ m1 (Lib.hid fun W hW => (pv_cash env).2.2 W s hW (by omega)) (Lib.hid fun W => rk_cash s W (by omega)) (Lib.hid fun W hW => (pv_qty env).2.2 W s hW (by omega)) (Lib.hid fun W => rk_number s W (by omega))
end Go.Proofs.YtampjeghdcpgfaaGreatDoor
