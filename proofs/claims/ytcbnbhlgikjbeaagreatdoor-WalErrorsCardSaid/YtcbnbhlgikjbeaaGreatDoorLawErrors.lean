/-
  WalErrors: the walk.
-/
import Derived.Test.YtcbnbhlgikjbeaaGreatDoorWlKnow
namespace Go.Proofs.YtcbnbhlgikjbeaaGreatDoor
open Go.RowKit

theorem crash_down (D : Dk.D) (h : D.down = false) : D.crash = ({ D with down := true }, 0) := by unfold Dk.D.crash; rw [if_neg (by simp [h])]

theorem names0_form {w : World} {B : Nat} {v : Value} (h : w.ownsRow B 9 1 v (Dk.D.names ⟨[], -1, false⟩).length (dkNames (Dk.D.names ⟨[], -1, false⟩))) : ∃ a c, v = .slice a 0 c := by
  obtain ⟨_, ⟨rfl, _⟩ | ⟨g, cap, cur, rfl, _⟩⟩ := h
  · exact ⟨none, 0, rfl⟩
  · exact ⟨_, cap, rfl⟩

set_option maxRecDepth 100000 in
set_option maxHeartbeats 4000000 in
theorem law_errors_a (W : World) (s : ByteArray) (size n : Int) (hs : s.size ≤ 9223372036854775807) (q : ByteArray) (hq : q = s.extract 0 (min (s.size : Int) 40).toNat) (hv : Wl.validP q.data.toList = false) :
    Calls Tryz.prog 5 #[.string s, .int .i64 size, .int .i64 n] W fun e W' => e = .returned (.bool true) ∧ Below W.heap.size W W' := by
  have n0 := wl_known W
  have hk1 : (0 : Int) ≤ min (s.size : Int) 40 := by omega
  have hk2 : min (s.size : Int) 40 ≤ s.size := by omega
  have hqs : q.size ≤ 9223372036854775807 := by rw [hq, ByteArray.size_extract]; omega
  have HQ := Lib.hid hq
  clear hq
  go_enter Tryz.func5, Tryz.ntmps5
  go_wp2_with fail
  refine n0.mono ?_
  rintro e W1 ⟨rfl, b1⟩
  have n1 := dk_new W1 1 (fun _ => 0) (by decide)
  have B1 := Lib.hid b1
  clear n0 b1
  go_wp2_with fail
  rw [← HQ.out]
  clear hk1 hk2
  refine n1.mono ?_
  rintro e W2 ⟨g, rfl, d2, b2⟩
  have K2 : Kn W1 W2 (pnt (fun _ => 0) W1.heap.size 1) := ⟨b2, fun b hb => pnt_old hb⟩
  generalize pnt (fun _ => 0) W1.heap.size 1 = c2 at *
  have HK2 := Lib.hid K2
  have HD2 := Lib.hid d2
  clear n1 b2 d2 K2
  have n3 := wl_Open_prefix W2 g q size hv hqs
  go_wp2_with fail
  refine n3.mono ?_
  rintro e W3 ⟨rfl, b3⟩
  have nV := rl_Valid q W3 hqs
  rw [hv] at nV
  have nL := dk_List (HD2.out.keepW b3) (by simp)
  have B3 := Lib.hid (B1.out.trans (HK2.out.1.mono B1.out.size) |>.trans (b3.mono (by have := HK2.out.1.size; have := B1.out.size; omega)))
  clear n3 b3 HD2 HK2
  go_wp2_with (first
    | (go_at_call 24; refine nV.mono ?_; rintro e w1 ⟨rfl, rfl⟩)
    | (go_at_call 25; refine nL.mono ?_; rintro e wE ⟨lv, rfl, oE, bE⟩; obtain ⟨la, lc, rfl⟩ := names0_form oE; have BE := Lib.hid (B3.out.trans (bE.mono B3.out.size))))
  -- the end: world wE, BE : Hid (Below W.heap.size W wE)
  have e1 := wl_Open_nil wE q size
  clear nV
  go_wp2_with fail
  refine e1.mono ?_
  rintro e wF ⟨rfl, bF⟩
  have BF := Lib.hid (BE.out.trans (bF.mono BE.out.size))
  clear e1 bF
  have f1 := wl_nil_Append wF (.slice none 0 0)
  have f2 := wl_nil_Entries wF n
  have f3 := wl_nil_Sync wF
  have f4 := wl_nil_Truncate wF n
  have f5 := wl_nil_First wF
  have f6 := wl_nil_Next wF
  have f7 := wl_nil_Synced wF
  have f8 := wl_nil_Segments wF
  go_wp2_with (first
    | (go_at_call 19; refine f1.mono ?_; rintro e w1 ⟨rfl, rfl⟩)
    | (go_at_call 27; refine f2.mono ?_; rintro e w1 ⟨rfl, rfl⟩)
    | (go_at_call 28; refine f3.mono ?_; rintro e w1 ⟨rfl, rfl⟩)
    | (go_at_call 20; refine f4.mono ?_; rintro e w1 ⟨rfl, rfl⟩)
    | (go_at_call 21; refine f5.mono ?_; rintro e w1 ⟨rfl, rfl⟩)
    | (go_at_call 22; refine f6.mono ?_; rintro e w1 ⟨rfl, rfl⟩)
    | (go_at_call 23; refine f7.mono ?_; rintro e w1 ⟨rfl, rfl⟩)
    | (go_at_call 29; refine f8.mono ?_; rintro e w1 ⟨rfl, rfl⟩))
  go_ret
  exact ⟨rfl, BF.out⟩

set_option maxRecDepth 100000 in
set_option maxHeartbeats 4000000 in
theorem law_errors_b (W : World) (s : ByteArray) (size n : Int) (hs : s.size ≤ 9223372036854775807) (q : ByteArray) (hq : q = s.extract 0 (min (s.size : Int) 40).toNat) (hv : Wl.validP q.data.toList = true) (h64 : size < 64) :
    Calls Tryz.prog 5 #[.string s, .int .i64 size, .int .i64 n] W fun e W' => e = .returned (.bool true) ∧ Below W.heap.size W W' := by
  have n0 := wl_known W
  have hk1 : (0 : Int) ≤ min (s.size : Int) 40 := by omega
  have hk2 : min (s.size : Int) 40 ≤ s.size := by omega
  have hqs : q.size ≤ 9223372036854775807 := by rw [hq, ByteArray.size_extract]; omega
  have HQ := Lib.hid hq
  clear hq
  go_enter Tryz.func5, Tryz.ntmps5
  go_wp2_with fail
  refine n0.mono ?_
  rintro e W1 ⟨rfl, b1⟩
  have n1 := dk_new W1 1 (fun _ => 0) (by decide)
  have B1 := Lib.hid b1
  clear n0 b1
  go_wp2_with fail
  rw [← HQ.out]
  clear hk1 hk2
  refine n1.mono ?_
  rintro e W2 ⟨g, rfl, d2, b2⟩
  have K2 : Kn W1 W2 (pnt (fun _ => 0) W1.heap.size 1) := ⟨b2, fun b hb => pnt_old hb⟩
  generalize pnt (fun _ => 0) W1.heap.size 1 = c2 at *
  have HK2 := Lib.hid K2
  have HD2 := Lib.hid d2
  clear n1 b2 d2 K2
  have n3 := wl_Open_size W2 g q size hv hqs (.inl h64)
  go_wp2_with fail
  refine n3.mono ?_
  rintro e W3 ⟨rfl, b3⟩
  have nV := rl_Valid q W3 hqs
  rw [hv] at nV
  have nL := dk_List (HD2.out.keepW b3) (by simp)
  have B3 := Lib.hid (B1.out.trans (HK2.out.1.mono B1.out.size) |>.trans (b3.mono (by have := HK2.out.1.size; have := B1.out.size; omega)))
  clear n3 b3 HD2 HK2
  go_wp2_with (first
    | (go_at_call 24; refine nV.mono ?_; rintro e w1 ⟨rfl, rfl⟩)
    | (go_at_call 25; refine nL.mono ?_; rintro e wE ⟨lv, rfl, oE, bE⟩; obtain ⟨la, lc, rfl⟩ := names0_form oE; have BE := Lib.hid (B3.out.trans (bE.mono B3.out.size))))
  -- the end: world wE, BE : Hid (Below W.heap.size W wE)
  have e1 := wl_Open_nil wE q size
  clear nV
  go_wp2_with fail
  refine e1.mono ?_
  rintro e wF ⟨rfl, bF⟩
  have BF := Lib.hid (BE.out.trans (bF.mono BE.out.size))
  clear e1 bF
  have f1 := wl_nil_Append wF (.slice none 0 0)
  have f2 := wl_nil_Entries wF n
  have f3 := wl_nil_Sync wF
  have f4 := wl_nil_Truncate wF n
  have f5 := wl_nil_First wF
  have f6 := wl_nil_Next wF
  have f7 := wl_nil_Synced wF
  have f8 := wl_nil_Segments wF
  go_wp2_with (first
    | (go_at_call 19; refine f1.mono ?_; rintro e w1 ⟨rfl, rfl⟩)
    | (go_at_call 27; refine f2.mono ?_; rintro e w1 ⟨rfl, rfl⟩)
    | (go_at_call 28; refine f3.mono ?_; rintro e w1 ⟨rfl, rfl⟩)
    | (go_at_call 20; refine f4.mono ?_; rintro e w1 ⟨rfl, rfl⟩)
    | (go_at_call 21; refine f5.mono ?_; rintro e w1 ⟨rfl, rfl⟩)
    | (go_at_call 22; refine f6.mono ?_; rintro e w1 ⟨rfl, rfl⟩)
    | (go_at_call 23; refine f7.mono ?_; rintro e w1 ⟨rfl, rfl⟩)
    | (go_at_call 29; refine f8.mono ?_; rintro e w1 ⟨rfl, rfl⟩))
  go_ret
  exact ⟨rfl, BF.out⟩

set_option maxRecDepth 100000 in
set_option maxHeartbeats 4000000 in
theorem law_errors_c (W : World) (s : ByteArray) (size n : Int) (hs : s.size ≤ 9223372036854775807) (q : ByteArray) (hq : q = s.extract 0 (min (s.size : Int) 40).toNat) (hv : Wl.validP q.data.toList = true) (h64 : ¬ size < 64) (h65 : 1048576 < size) :
    Calls Tryz.prog 5 #[.string s, .int .i64 size, .int .i64 n] W fun e W' => e = .returned (.bool true) ∧ Below W.heap.size W W' := by
  have n0 := wl_known W
  have hk1 : (0 : Int) ≤ min (s.size : Int) 40 := by omega
  have hk2 : min (s.size : Int) 40 ≤ s.size := by omega
  have hqs : q.size ≤ 9223372036854775807 := by rw [hq, ByteArray.size_extract]; omega
  have HQ := Lib.hid hq
  clear hq
  go_enter Tryz.func5, Tryz.ntmps5
  go_wp2_with fail
  refine n0.mono ?_
  rintro e W1 ⟨rfl, b1⟩
  have n1 := dk_new W1 1 (fun _ => 0) (by decide)
  have B1 := Lib.hid b1
  clear n0 b1
  go_wp2_with fail
  rw [← HQ.out]
  clear hk1 hk2
  refine n1.mono ?_
  rintro e W2 ⟨g, rfl, d2, b2⟩
  have K2 : Kn W1 W2 (pnt (fun _ => 0) W1.heap.size 1) := ⟨b2, fun b hb => pnt_old hb⟩
  generalize pnt (fun _ => 0) W1.heap.size 1 = c2 at *
  have HK2 := Lib.hid K2
  have HD2 := Lib.hid d2
  clear n1 b2 d2 K2
  have n3 := wl_Open_size W2 g q size hv hqs (.inr h65)
  go_wp2_with fail
  refine n3.mono ?_
  rintro e W3 ⟨rfl, b3⟩
  have nV := rl_Valid q W3 hqs
  rw [hv] at nV
  have nL := dk_List (HD2.out.keepW b3) (by simp)
  have B3 := Lib.hid (B1.out.trans (HK2.out.1.mono B1.out.size) |>.trans (b3.mono (by have := HK2.out.1.size; have := B1.out.size; omega)))
  clear n3 b3 HD2 HK2
  go_wp2_with (first
    | (go_at_call 24; refine nV.mono ?_; rintro e w1 ⟨rfl, rfl⟩)
    | (go_at_call 25; refine nL.mono ?_; rintro e wE ⟨lv, rfl, oE, bE⟩; obtain ⟨la, lc, rfl⟩ := names0_form oE; have BE := Lib.hid (B3.out.trans (bE.mono B3.out.size))))
  -- the end: world wE, BE : Hid (Below W.heap.size W wE)
  have e1 := wl_Open_nil wE q size
  clear nV
  go_wp2_with fail
  refine e1.mono ?_
  rintro e wF ⟨rfl, bF⟩
  have BF := Lib.hid (BE.out.trans (bF.mono BE.out.size))
  clear e1 bF
  have f1 := wl_nil_Append wF (.slice none 0 0)
  have f2 := wl_nil_Entries wF n
  have f3 := wl_nil_Sync wF
  have f4 := wl_nil_Truncate wF n
  have f5 := wl_nil_First wF
  have f6 := wl_nil_Next wF
  have f7 := wl_nil_Synced wF
  have f8 := wl_nil_Segments wF
  go_wp2_with (first
    | (go_at_call 19; refine f1.mono ?_; rintro e w1 ⟨rfl, rfl⟩)
    | (go_at_call 27; refine f2.mono ?_; rintro e w1 ⟨rfl, rfl⟩)
    | (go_at_call 28; refine f3.mono ?_; rintro e w1 ⟨rfl, rfl⟩)
    | (go_at_call 20; refine f4.mono ?_; rintro e w1 ⟨rfl, rfl⟩)
    | (go_at_call 21; refine f5.mono ?_; rintro e w1 ⟨rfl, rfl⟩)
    | (go_at_call 22; refine f6.mono ?_; rintro e w1 ⟨rfl, rfl⟩)
    | (go_at_call 23; refine f7.mono ?_; rintro e w1 ⟨rfl, rfl⟩)
    | (go_at_call 29; refine f8.mono ?_; rintro e w1 ⟨rfl, rfl⟩))
  go_ret
  exact ⟨rfl, BF.out⟩

set_option maxRecDepth 100000 in
set_option maxHeartbeats 4000000 in
theorem law_errors_d (W : World) (s : ByteArray) (size n : Int) (hs : s.size ≤ 9223372036854775807) (q : ByteArray) (hq : q = s.extract 0 (min (s.size : Int) 40).toNat) (hv : Wl.validP q.data.toList = true) (h64 : ¬ size < 64) (h65 : ¬ 1048576 < size) :
    Calls Tryz.prog 5 #[.string s, .int .i64 size, .int .i64 n] W fun e W' => e = .returned (.bool true) ∧ Below W.heap.size W W' := by
  have n0 := wl_known W
  have hk1 : (0 : Int) ≤ min (s.size : Int) 40 := by omega
  have hk2 : min (s.size : Int) 40 ≤ s.size := by omega
  have hqs : q.size ≤ 9223372036854775807 := by rw [hq, ByteArray.size_extract]; omega
  have HQ := Lib.hid hq
  clear hq
  go_enter Tryz.func5, Tryz.ntmps5
  go_wp2_with fail
  refine n0.mono ?_
  rintro e W1 ⟨rfl, b1⟩
  have n1 := dk_new W1 1 (fun _ => 0) (by decide)
  have B1 := Lib.hid b1
  clear n0 b1
  go_wp2_with fail
  rw [← HQ.out]
  clear hk1 hk2
  refine n1.mono ?_
  rintro e W2 ⟨g, rfl, d2, b2⟩
  have K2 : Kn W1 W2 (pnt (fun _ => 0) W1.heap.size 1) := ⟨b2, fun b hb => pnt_old hb⟩
  generalize pnt (fun _ => 0) W1.heap.size 1 = c2 at *
  have HK2 := Lib.hid K2
  have HD2 := Lib.hid d2
  clear n1 b2 d2 K2
  obtain ⟨m, rfl⟩ : ∃ m : Nat, size = m := ⟨size.toNat, by omega⟩
  have hq16 : q.size ≤ 16 := by
    have h1 := hv
    unfold Wl.validP at h1
    simp only [Bool.and_eq_true, decide_eq_true_eq] at h1
    have h5 : q.data.toList.length = q.size := by rw [Array.length_toList]; rfl
    omega
  have n3 := wl_Open_new (j := 3) HD2.out (by decide) (by decide) q m hv hq16 (by omega) (by omega)
  rw [create_new q.data.toList hv] at n3
  go_wp2_with fail
  refine n3.mono ?_
  rintro e W3 ⟨h, c3, rfl, d3, l3, h3⟩
  have K3 := HK2.out.chg h3 (by decide)
  have nV := rl_Valid q W3 hqs
  rw [hv] at nV
  have HK3 := Lib.hid K3
  have HD3 := Lib.hid d3
  have HL3 := Lib.hid l3
  clear n3 K3 d3 l3 h3 HD2 HK2
  obtain ⟨i0, hi, hz0, hz1, hz2⟩ := info_parts dk_infoByte
  have hmk := run_makeSlice (P := Tryz.prog) (w := W3) 38 5 i0 (.int .u8 0) Tryz.underlying38 hi hz0 .i64 .i64 65537 65537 (by decide) (by decide) (by rw [hz1]; decide) (by rw [hz2]; decide) (by decide)
  rw [hz1] at hmk
  obtain ⟨cs, hcs⟩ : ∃ cs, cs = madeCells #[Value.int .u8 0] (((65537 : Int)).toNat * 1) := ⟨_, rfl⟩
  rw [show (Value.int IntKind.u8 0).cells = #[Value.int .u8 0] from rfl, ← hcs] at hmk
  clear hcs
  have n4 := wl_Append_long (W3.alloc (.cells cs 5)) h (some ⟨W3.heap.size, 0, none⟩) 65537 65537 (by decide)
  have hC : Chg 2 c3 (pnt c3 W3.heap.size 0) W3 (W3.alloc (.cells cs 5)) := Chg.alloc (i := 2) _ 0
  have HK4 := Lib.hid (HK3.out.chg hC (by decide))
  have HD4 := Lib.hid (HD3.out.chg hC (by decide) (by decide))
  have HL4 := Lib.hid (HL3.out.chg hC (by decide))
  generalize pnt c3 W3.heap.size 0 = c4 at *
  have n5 := wl_Next HL4.out
  clear hC HK3 HD3 HL3
  go_wp2_with (first
    | (go_at_call 24; refine nV.mono ?_; rintro e w1 ⟨rfl, rfl⟩)
    | (go_at_call 19; refine n4.mono ?_; rintro e w1 ⟨rfl, rfl⟩)
    | (go_at_call 22; refine n5.mono ?_; rintro e w1 ⟨rfl, rfl⟩))
  have n6 := dk_Crash HD4.out
  rw [crash_down _ rfl] at n6
  clear n4 n5 hmk nV
  go_wp2_with fail
  refine n6.mono ?_
  rintro e W5 ⟨c5, rfl, d5, h5⟩
  have HK5 := Lib.hid (HK4.out.chg h5 (by decide))
  have HD5 := Lib.hid d5
  have HL5 := Lib.hid (HL4.out.chg h5 (by decide))
  clear n6 d5 h5 HK4 HD4 HL4
  have n7 := wl_Open_down HD5.out rfl q m hv hqs (by omega) (by omega)
  go_wp2_with fail
  refine n7.mono ?_
  rintro e wE ⟨rfl, b7⟩
  have HD6 := Lib.hid (HD5.out.keepW b7)
  have HL6 := Lib.hid (HL5.out.below b7)
  have B6 := Lib.hid (B1.out.trans (HK5.out.1.mono B1.out.size) |>.trans (b7.mono (by have := HK5.out.1.size; have := B1.out.size; omega)))
  clear n7 b7 HD5 HL5 HK5
  have n8 := wl_Append_down HD6.out HL6.out rfl none 0 0 (by decide)
  have n9 := wl_Entries_down HD6.out HL6.out rfl (0, 0) [] rfl (by show 1 ≤ 1000000; decide) 0 (by decide) (by show ¬ ((0 : Nat) : Int) < 0; decide)
  go_wp2_with (first
    | (go_at_call 19; refine n8.mono ?_; rintro e w1 ⟨rfl, rfl⟩)
    | (go_at_call 27; refine n9.mono ?_; rintro e wG ⟨rfl, bG⟩))
  have HD7 := Lib.hid (HD6.out.keepW bG)
  have HL7 := Lib.hid (HL6.out.below bG)
  have BE := Lib.hid (B6.out.trans (bG.mono B6.out.size))
  clear n8 n9 bG HD6 HL6 B6
  have k1 := wl_Sync_down HD7.out HL7.out rfl
  have k2 := wl_Truncate_down HD7.out HL7.out rfl 0 (by decide) (by show ¬ ((0 : Nat) : Int) < 0; decide)
  have k3 := wl_Truncate_range HL7.out 1 (.inr (by show ((0 : Nat) : Int) < 1; decide))
  obtain ⟨wE, rfl⟩ : ∃ wE, wE = wG := ⟨_, rfl⟩
  have nV : True := trivial
  have e1 := wl_Open_nil wE q m
  go_wp2_with (first
    | (go_at_call 28; refine k1.mono ?_; rintro e w1 ⟨rfl, rfl⟩; clear k1)
    | (go_at_call 20; refine k2.mono ?_; rintro e w1 ⟨rfl, rfl⟩; clear k2)
    | (go_at_call 20; refine k3.mono ?_; rintro e w1 ⟨rfl, rfl⟩; clear k3))
  -- the end: world wE, BE : Hid (Below W.heap.size W wE)
  go_wp2_with fail
  refine e1.mono ?_
  rintro e wF ⟨rfl, bF⟩
  have BF := Lib.hid (BE.out.trans (bF.mono BE.out.size))
  clear e1 bF
  have f1 := wl_nil_Append wF (.slice none 0 0)
  have f2 := wl_nil_Entries wF n
  have f3 := wl_nil_Sync wF
  have f4 := wl_nil_Truncate wF n
  have f5 := wl_nil_First wF
  have f6 := wl_nil_Next wF
  have f7 := wl_nil_Synced wF
  have f8 := wl_nil_Segments wF
  go_wp2_with (first
    | (go_at_call 19; refine f1.mono ?_; rintro e w1 ⟨rfl, rfl⟩)
    | (go_at_call 27; refine f2.mono ?_; rintro e w1 ⟨rfl, rfl⟩)
    | (go_at_call 28; refine f3.mono ?_; rintro e w1 ⟨rfl, rfl⟩)
    | (go_at_call 20; refine f4.mono ?_; rintro e w1 ⟨rfl, rfl⟩)
    | (go_at_call 21; refine f5.mono ?_; rintro e w1 ⟨rfl, rfl⟩)
    | (go_at_call 22; refine f6.mono ?_; rintro e w1 ⟨rfl, rfl⟩)
    | (go_at_call 23; refine f7.mono ?_; rintro e w1 ⟨rfl, rfl⟩)
    | (go_at_call 29; refine f8.mono ?_; rintro e w1 ⟨rfl, rfl⟩))
  go_ret
  exact ⟨rfl, BF.out⟩

theorem law_errors (W : World) (s : ByteArray) (size n : Int) (hs : s.size ≤ 9223372036854775807) :
    Calls Tryz.prog 5 #[.string s, .int .i64 size, .int .i64 n] W fun e W' => e = .returned (.bool true) ∧ Below W.heap.size W W' := by
  by_cases hv : Wl.validP (s.extract 0 (min (s.size : Int) 40).toNat).data.toList = true
  · by_cases h64 : size < 64
    · exact law_errors_b W s size n hs _ rfl hv h64
    · by_cases h65 : 1048576 < size
      · exact law_errors_c W s size n hs _ rfl hv h64 h65
      · exact law_errors_d W s size n hs _ rfl hv h64 h65
  · exact law_errors_a W s size n hs _ rfl (by simpa using hv)

end Go.Proofs.YtcbnbhlgikjbeaaGreatDoor
