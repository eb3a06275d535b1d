/-
  CheckpointNil: the walk.
-/
import Derived.Test.YtamencnachmhoaaGreatDoorCkKnows
namespace Go.Proofs.YtamencnachmhoaaGreatDoor
open Go.RowKit

set_option maxRecDepth 100000 in
set_option maxHeartbeats 2000000 in
theorem law_cknil (W : World) (s : ByteArray) (n : Int) (bv : Value) (d : Ck.Bs) (_hs : s.size ≤ 9223372036854775807) (hd : RdB W W.heap.size bv d) :
    Calls Tryz.prog 6 #[.string s, .int .i64 n, bv] W fun e W' => e = .returned (.bool true) ∧ Below W.heap.size W W' := by
  have n0 := ck_known W
  obtain ⟨a, cap, rfl⟩ := hd.form
  clear hd
  by_cases hbig : 100 < s.size ∨ 1500 < d.length
  · have nK : Hid (∀ o, Calls Tryz.prog 10 #[] o fun e W' => e = .returned (.bool true) ∧ Below o.heap.size o W') := Lib.hid ck_known
    by_cases h1 : 100 < s.size
    · have h1I : (100 : Int) < (s.size : Int) := by omega
      clear hbig
      go_enter Tryz.func6, Tryz.ntmps6
      go_wp2_with fail
      refine n0.mono ?_
      rintro e W1 ⟨rfl, b1⟩
      have HB1 := Lib.hid b1
      have n1 := nK.out W1
      clear n0 b1
      go_wp2_with fail
      refine n1.mono ?_
      rintro e W2 ⟨rfl, b2⟩
      have HB2 := Lib.hid (HB1.out.trans (b2.mono HB1.out.size))
      clear n1 b2
      go_wp2_with fail
      go_ret
      exact ⟨rfl, HB2.out⟩
    · have h2 : 1500 < d.length := by omega
      have h1I : ¬ (100 : Int) < (s.size : Int) := by omega
      have h2I : (1500 : Int) < (d.length : Int) := by omega
      clear hbig h1 h2
      go_enter Tryz.func6, Tryz.ntmps6
      go_wp2_with fail
      refine n0.mono ?_
      rintro e W1 ⟨rfl, b1⟩
      have HB1 := Lib.hid b1
      have n1 := nK.out W1
      clear n0 b1
      go_wp2_with fail
      refine n1.mono ?_
      rintro e W2 ⟨rfl, b2⟩
      have HB2 := Lib.hid (HB1.out.trans (b2.mono HB1.out.size))
      clear n1 b2
      go_wp2_with fail
      go_ret
      exact ⟨rfl, HB2.out⟩
  · have h1I : ¬ (100 : Int) < (s.size : Int) := by omega
    have h2I : ¬ (1500 : Int) < (d.length : Int) := by omega
    have hs1 : s.size ≤ 1000 := by omega
    have nO : Hid (∀ o, Calls Tryz.prog 18 #[.pointer none, .string s] o fun e W' => e = .returned (.tuple #[.pointer none, .int .i64 1]) ∧ o = W') := Lib.hid (fun o => ck_Open_nil o s)
    clear hbig
    go_enter Tryz.func6, Tryz.ntmps6
    go_wp2_with fail
    refine n0.mono ?_
    rintro e W1 ⟨rfl, b1⟩
    have HB1 := Lib.hid b1
    have n1 := nO.out W1
    have n2 := dk_new W1 1 (fun _ => 0) (by decide)
    clear n0 b1
    go_upto_region 4 with (go_at_call 18; refine n1.mono ?_; rintro e w1 ⟨rfl, rfl⟩)
    clear n1
    go_wp2_with fail
    refine n2.mono ?_
    rintro e W2 ⟨g, rfl, d2, b2⟩
    have K2 : Kn W1 W2 (pnt (fun _ => 0) W1.heap.size 1) := ⟨b2, fun b hb => pnt_old hb⟩
    generalize pnt (fun _ => 0) W1.heap.size 1 = c2 at *
    have n3 := ck_Open d2 (by decide) s hs1 (by simp) (by decide)
    have HK2 := Lib.hid K2
    clear n2 b2 d2 K2
    obtain ⟨vb, hvb⟩ : ∃ vb, vb = Wl.validP s.data.toList := ⟨_, rfl⟩
    have nV := rk_ValidName s
    rw [← hvb] at nV
    have HVB := Lib.hid hvb
    cases vb with
    | false =>
      have ho : Ck.openC ⟨[], -1, false⟩ s.data.toList = (⟨[], -1, false⟩, 6) := by unfold Ck.openC; rw [if_pos hvb.symm]
      rw [ho] at n3
      clear ho hvb
      go_upto_region 5 with (go_at_call 18; refine n3.mono ?_; rintro e W3 ⟨c3, d3, h3, hcase⟩; obtain rfl : e = .returned (.tuple #[.pointer none, .int .i64 6]) := by { rcases hcase with ⟨h, -⟩ | ⟨-, h⟩; { exact absurd h (by decide) }; { exact h } })
      have HB3 := Lib.hid (HB1.out.trans ((HK2.out.chg h3 (by decide)).1.mono HB1.out.size))
      have nV3 := nV W3 (by omega)
      have n4 := ck_Load_nil W3
      clear n3 d3 h3 hcase nV
      go_upto_region 8 with (go_at_call 24; refine nV3.mono ?_; rintro e w4 ⟨rfl, rfl⟩)
      go_upto_region 9 with (go_at_call 25; refine n4.mono ?_; rintro e W4 ⟨rfl, b4⟩)
      have HB4 := Lib.hid (HB3.out.trans (b4.mono HB3.out.size))
      have n5 := ck_Save_nil W4 n a d.length cap
      clear nV3 n4 b4
      go_wp2_with fail
      refine n5.mono ?_
      rintro e W5 ⟨rfl, b5⟩
      have HB5 := Lib.hid (HB4.out.trans (b5.mono HB4.out.size))
      have n6 := ck_Sequences_nil W5
      clear n5 b5
      go_wp2_with (go_at_call 21; refine n6.mono ?_; rintro e w6 ⟨rfl, rfl⟩)
      go_ret
      exact ⟨rfl, HB5.out⟩
    | true =>
      rw [Ck.open0 hvb.symm] at n3
      clear hvb
      go_upto_region 5 with (go_at_call 18; refine n3.mono ?_; rintro e W3 ⟨c3, d3, h3, hcase⟩; obtain ⟨q, rfl⟩ : ∃ q, e = .returned (.tuple #[.pointer (some ⟨q, 0, none⟩), .int .i64 0]) := by { rcases hcase with ⟨-, q, h, -⟩ | ⟨h, -⟩; { exact ⟨q, h⟩ }; { exact absurd rfl h } })
      have HB3 := Lib.hid (HB1.out.trans ((HK2.out.chg h3 (by decide)).1.mono HB1.out.size))
      have nV3 := nV W3 (by omega)
      have n4 := ck_Load_nil W3
      clear n3 d3 h3 hcase nV
      go_upto_region 8 with (go_at_call 24; refine nV3.mono ?_; rintro e w4 ⟨rfl, rfl⟩)
      go_upto_region 9 with (go_at_call 25; refine n4.mono ?_; rintro e W4 ⟨rfl, b4⟩)
      have HB4 := Lib.hid (HB3.out.trans (b4.mono HB3.out.size))
      have n5 := ck_Save_nil W4 n a d.length cap
      clear nV3 n4 b4
      go_wp2_with fail
      refine n5.mono ?_
      rintro e W5 ⟨rfl, b5⟩
      have HB5 := Lib.hid (HB4.out.trans (b5.mono HB4.out.size))
      have n6 := ck_Sequences_nil W5
      clear n5 b5
      go_wp2_with (go_at_call 21; refine n6.mono ?_; rintro e w6 ⟨rfl, rfl⟩)
      go_ret
      exact ⟨rfl, HB5.out⟩

end Go.Proofs.YtamencnachmhoaaGreatDoor
