/-
  CheckpointDecode: the walk.
-/
import Derived.Test.YtamencnachmhoaaGreatDoorCkRefs
import Derived.Test.YtamencnachmhoaaGreatDoorCkKnows
namespace Go.Proofs.YtamencnachmhoaaGreatDoor
open Go.RowKit

set_option maxRecDepth 100000 in
set_option maxHeartbeats 1000000 in
theorem ld_long (W : World) (a : Option Addr) (l cap : Nat) (hl : (2000 : Int) < (l : Int)) :
    Calls Tryz.prog 4 #[.slice a l cap] W fun e W' => e = .returned (.bool true) ∧ Below W.heap.size W W' := by
  have n0 := ck_known W
  have nK : Hid (∀ o, Calls Tryz.prog 10 #[] o fun e W' => e = .returned (.bool true) ∧ Below o.heap.size o W') := Lib.hid ck_known
  go_enter Tryz.func4, Tryz.ntmps4
  go_wp2_with fail
  refine n0.mono ?_
  rintro e W1 ⟨rfl, b1⟩
  have HB1 := Lib.hid b1
  have n1 := nK.out W1
  clear n0 b1
  go_wp2_with fail
  refine n1.mono ?_
  rintro e W2 ⟨rfl, b2⟩
  have HB2 := Lib.hid (HB1.out.trans (b2.mono HB1.out.size))
  clear n1 b2
  go_wp2_with fail
  go_ret
  exact ⟨rfl, HB2.out⟩

set_option maxRecDepth 100000 in
set_option maxHeartbeats 1000000 in
theorem ld_bad (W : World) (a : Option Addr) (l cap : Nat) (hl : ¬ (2000 : Int) < (l : Int)) (er : Int) (he : (er == 0) = false)
    (n1 : Hid (∀ w, Below W.heap.size W w → Calls Tryz.prog 15 #[.slice a l cap] w fun e W' => ∃ v, e = .returned (.tuple #[.int .i64 0, v, .int .i64 er]) ∧ RdB W' W'.heap.size v [] ∧ Below w.heap.size w W'))
    (n2 : Hid (∀ w, Below W.heap.size W w → Calls Tryz.prog 16 #[.slice a l cap] w fun e W' => ∃ v, e = .returned (.tuple #[.int .i64 0, v, .int .i64 er]) ∧ RdB W' W'.heap.size v [] ∧ Below w.heap.size w W')) :
    Calls Tryz.prog 4 #[.slice a l cap] W fun e W' => e = .returned (.bool true) ∧ Below W.heap.size W W' := by
  have n0 := ck_known W
  go_enter Tryz.func4, Tryz.ntmps4
  go_wp2_with fail
  refine n0.mono ?_
  rintro e W1 ⟨rfl, b1⟩
  have HB1 := Lib.hid b1
  have m1 := n1.out W1 b1
  clear n0 b1 n1
  go_wp2_with fail
  refine m1.mono ?_
  rintro e W2 ⟨v2, rfl, r2, b2⟩
  have HB2 := Lib.hid (HB1.out.trans (b2.mono HB1.out.size))
  have HR2 := Lib.hid r2
  have m2 := n2.out W2 HB2.out
  obtain ⟨a2, c2, rfl⟩ := r2.form
  clear m1 n2 r2 b2
  go_wp2_with fail
  refine m2.mono ?_
  rintro e W3 ⟨v3, rfl, r3, b3⟩
  have HB3 := Lib.hid (HB2.out.trans (b3.mono HB2.out.size))
  obtain ⟨a3, c3, rfl⟩ := r3.form
  have q2 : (convert 22 9 (.slice a2 0 c2)).run Tryz.prog W3 = .ok (.string ⟨#[]⟩) W3 := dk_conv ((HR2.out.below b3).mono b3.size) W3 rfl
  have q3 : (convert 22 9 (.slice a3 0 c3)).run Tryz.prog W3 = .ok (.string ⟨#[]⟩) W3 := dk_conv r3 W3 rfl
  clear m2 r3 b3 HR2
  go_wp2_with fail
  go_ret
  exact ⟨rfl, HB3.out⟩

set_option maxRecDepth 100000 in
set_option maxHeartbeats 1000000 in
theorem ld_good (W : World) (a : Option Addr) (l cap : Nat) (hl : ¬ (2000 : Int) < (l : Int)) (n : Nat) (b q : Ck.Bs)
    (hb : Hid (RdB W W.heap.size (.slice a l cap) b))
    (n1 : Hid (∀ w, Below W.heap.size W w → Calls Tryz.prog 15 #[.slice a l cap] w fun e W' => ∃ v, e = .returned (.tuple #[.int .i64 n, v, .int .i64 0]) ∧ RdB W' W'.heap.size v q ∧ Below w.heap.size w W'))
    (n2 : Hid (∀ w, Below W.heap.size W w → Calls Tryz.prog 16 #[.slice a l cap] w fun e W' => ∃ v, e = .returned (.tuple #[.int .i64 n, v, .int .i64 0]) ∧ RdB W' W'.heap.size v q ∧ Below w.heap.size w W'))
    (n3 : Hid (∀ w v, RdB w w.heap.size v q → Calls Tryz.prog 13 #[.int .i64 n, v] w fun e W' => ∃ v, e = .returned (.tuple #[v, .int .i64 0]) ∧ RdB W' W'.heap.size v b ∧ Below w.heap.size w W')) :
    Calls Tryz.prog 4 #[.slice a l cap] W fun e W' => e = .returned (.bool true) ∧ Below W.heap.size W W' := by
  have n0 := ck_known W
  go_enter Tryz.func4, Tryz.ntmps4
  go_wp2_with fail
  refine n0.mono ?_
  rintro e W1 ⟨rfl, b1⟩
  have HB1 := Lib.hid b1
  have m1 := n1.out W1 b1
  clear n0 b1 n1
  go_wp2_with fail
  refine m1.mono ?_
  rintro e W2 ⟨v2, rfl, r2, b2⟩
  have HB2 := Lib.hid (HB1.out.trans (b2.mono HB1.out.size))
  have HR2 := Lib.hid r2
  have m2 := n2.out W2 HB2.out
  obtain ⟨a2, c2, rfl⟩ := r2.form
  clear m1 n2 r2 b2
  go_wp2_with fail
  refine m2.mono ?_
  rintro e W3 ⟨v3, rfl, r3, b3⟩
  have HB3 := Lib.hid (HB2.out.trans (b3.mono HB2.out.size))
  have R2 := (HR2.out.below b3).mono b3.size
  have q2 := dk_conv R2 W3 rfl
  have q3 := dk_conv r3 W3 rfl
  have m3 := n3.out W3 _ R2
  obtain ⟨a3, c3, rfl⟩ := r3.form
  clear m2 r3 b3 HR2 R2 n3
  go_wp2_with fail
  refine m3.mono ?_
  rintro e W4 ⟨v4, rfl, r4, b4⟩
  have HB4 := Lib.hid (HB3.out.trans (b4.mono HB3.out.size))
  have q4 := dk_conv r4 W4 rfl
  have q5 := dk_conv ((hb.out.below HB4.out).mono HB4.out.size) W4 rfl
  obtain ⟨a4, c4, rfl⟩ := r4.form
  clear m3 r4 b4 q2 q3
  go_wp2_with fail
  go_ret
  exact ⟨rfl, HB4.out⟩

set_option maxRecDepth 100000 in
theorem law_ckdecode (W : World) (bv : Value) (b : Ck.Bs) (hb : RdB W W.heap.size bv b) :
    Calls Tryz.prog 4 #[bv] W fun e W' => e = .returned (.bool true) ∧ Below W.heap.size W W' := by
  obtain ⟨a, cap, rfl⟩ := hb.form
  by_cases hl : 2000 < b.length
  · exact ld_long W a b.length cap (by omega)
  · have k1 : ∀ w, Below W.heap.size W w → Calls Tryz.prog 15 #[.slice a b.length cap] w fun e W' => ∃ v, e = .returned (.tuple #[.int .i64 (Ck.decode b).1, v, .int .i64 (Ck.decode b).2.2]) ∧ RdB W' W'.heap.size v (Ck.decode b).2.1 ∧ Below w.heap.size w W' :=
      fun w hw => (ck_Decode w _ b ((hb.below hw).mono hw.size) (by omega)).mono fun e W' ⟨v, h1, h2, h3⟩ => ⟨v, h1, RdB.of_own h2, h3⟩
    have k2 : ∀ w, Below W.heap.size W w → Calls Tryz.prog 16 #[.slice a b.length cap] w fun e W' => ∃ v, e = .returned (.tuple #[.int .i64 (Ck.decode b).1, v, .int .i64 (Ck.decode b).2.2]) ∧ RdB W' W'.heap.size v (Ck.decode b).2.1 ∧ Below w.heap.size w W' :=
      fun w hw => r12_Decode w _ b ((hb.below hw).mono hw.size) (by omega)
    have hs : (Ck.decode b).2.2 = 0 → b = Ck.encode (Ck.decode b).1 (Ck.decode b).2.1 ∧ (Ck.decode b).1 ≤ 1000000000 ∧ (Ck.decode b).2.1.length ≤ 1000000 := fun h => by
      obtain ⟨r, hr⟩ : ∃ r, r = Ck.decode b := ⟨_, rfl⟩
      rw [← hr] at h ⊢
      obtain ⟨n, q, e⟩ := r
      simp only [] at h ⊢
      subst h
      exact Ck.decode_sound hr.symm
    have hz := Ck.decode_err (b := b)
    obtain ⟨r, hr⟩ : ∃ r, r = Ck.decode b := ⟨_, rfl⟩
    rw [← hr] at k1 k2 hs hz
    obtain ⟨n, q, er⟩ := r
    simp only [] at k1 k2 hs hz
    by_cases he : er = 0
    · subst he
      obtain ⟨h1, h2, h3⟩ := hs rfl
      refine ld_good W a b.length cap (by omega) n b q (Lib.hid hb) (Lib.hid k1) (Lib.hid k2) (Lib.hid fun w v hv => ?_)
      have hE : Ck.encodeC (n : Int) q = (b, 0) := by unfold Ck.encodeC; rw [if_neg (by omega), if_neg (by omega), h1]; rfl
      have h := ck_Encode w n v q hv (by omega)
      rw [hE] at h
      exact h.mono fun e W' ⟨v, h1, h2, h3⟩ => ⟨v, h1, RdB.of_own h2, h3⟩
    · obtain ⟨rfl, rfl⟩ := hz he
      exact ld_bad W a b.length cap (by omega) er (by rw [beq_eq_false_iff_ne]; exact he) (Lib.hid k1) (Lib.hid k2)

end Go.Proofs.YtamencnachmhoaaGreatDoor
