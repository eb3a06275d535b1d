/-
  checkpoint.Encode.
-/
import Derived.Test.YtamencnachmhoaaGreatDoorCkWriter
import Derived.Test.YtamencnachmhoaaGreatDoorWlCrcs
namespace Go.Proofs.YtamencnachmhoaaGreatDoor
open Go.RowKit

/-- what Encode answers -/
def Ck.encodeC (n : Int) (data : Ck.Bs) : Ck.Bs × Int := if n < 0 ∨ 1000000000 < n then ([], 2) else if 1000000 < data.length then ([], 5) else (Ck.encode n.toNat data, 0)

set_option maxRecDepth 100000 in
set_option maxHeartbeats 1000000 in
theorem ck_Encode (W : World) (n : Int) (bv : Value) (d : Ck.Bs) (hd : RdB W W.heap.size bv d) (hl : d.length ≤ 9223372036854775807) :
    Calls Tryz.prog 13 #[.int .i64 n, bv] W fun e W' => ∃ v, e = .returned (.tuple #[v, .int .i64 (Ck.encodeC n d).2]) ∧ W'.ownsRow W.heap.size 5 1 v (Ck.encodeC n d).1.length (dkCells (Ck.encodeC n d).1) ∧ Below W.heap.size W W' := by
  obtain ⟨a0, cap0, rfl⟩ := hd.form
  by_cases h1 : n < 0
  · have HE : Hid (Ck.encodeC n d = ([], 2)) := Lib.hid (by unfold Ck.encodeC; rw [if_pos (.inl h1)])
    clear hd
    go_enter Tryz.func13, Tryz.ntmps13
    go_wp2_with fail
    go_ret2
    rw [HE.out]
    exact ⟨_, rfl, World.ownsRow_nil _ _ _ _, Below.refl _ _⟩
  · by_cases h2 : 1000000000 < n
    · have HE : Hid (Ck.encodeC n d = ([], 2)) := Lib.hid (by unfold Ck.encodeC; rw [if_pos (.inr h2)])
      clear hd
      go_enter Tryz.func13, Tryz.ntmps13
      go_wp2_with fail
      go_ret2
      rw [HE.out]
      exact ⟨_, rfl, World.ownsRow_nil _ _ _ _, Below.refl _ _⟩
    · by_cases h3 : 1000000 < d.length
      · have HE : Hid (Ck.encodeC n d = ([], 5)) := Lib.hid (by unfold Ck.encodeC; rw [if_neg (by omega), if_pos h3])
        have h3I : (1000000 : Int) < (d.length : Int) := by omega
        clear hd
        go_enter Tryz.func13, Tryz.ntmps13
        go_wp2_with fail
        go_ret2
        rw [HE.out]
        exact ⟨_, rfl, World.ownsRow_nil _ _ _ _, Below.refl _ _⟩
      · obtain ⟨m, rfl⟩ : ∃ m : Nat, n = m := ⟨n.toNat, by omega⟩
        have HE : Hid (Ck.encodeC (m : Int) d = (Ck.encode m d, 0)) := Lib.hid (by unfold Ck.encodeC; rw [if_neg (by omega), if_neg h3]; rfl)
        have h3I : ¬ (1000000 : Int) < (d.length : Int) := by omega
        have n1 := cd_NewWriter W
        have HD := Lib.hid hd
        clear hd
        go_enter Tryz.func13, Tryz.ntmps13
        go_wp2_with fail
        refine n1.mono ?_
        rintro e W1 ⟨b, rfl, hw1, b1⟩
        have n2 := cd_wUint hw1 b1.size m (by omega) (by simp)
        have HB1 := Lib.hid b1
        clear n1 hw1 b1
        go_wp2_with fail
        refine n2.mono ?_
        rintro e W2 ⟨rfl, hw2, b2⟩
        have HB2 := Lib.hid (HB1.out.trans b2)
        have hul := Ck.uint_length m
        have n3 := cd_wBlob hw2 HB2.out.size (.slice a0 d.length cap0) d (HD.out.below HB2.out) (by omega) (by simp; omega)
        clear n2 hw2 b2
        go_wp2_with fail
        refine n3.mono ?_
        rintro e W3 ⟨rfl, hw3, b3⟩
        have HB3 := Lib.hid (HB2.out.trans b3)
        have hbl := Ck.body_length m d
        have hbd : ([] ++ Ck.uint m ++ (Ck.uint d.length ++ d) : Ck.Bs) = Ck.body m d := rfl
        rw [hbd] at hw3
        have n4 := cd_wBytes hw3 (by omega)
        clear n3 hw3 b3 hbd
        go_wp2_with fail
        refine n4.mono ?_
        rintro e W4 ⟨v4, rfl, o4, b4⟩
        have HB4 := Lib.hid (HB3.out.trans (b4.mono HB3.out.size))
        have n5 := rec_Encode W4 v4 (Ck.body m d) (RdB.of_own o4) (by omega)
        obtain ⟨a4, c4, rfl⟩ := own_slice o4
        clear n4 o4 b4
        go_wp2_with fail
        refine n5.mono ?_
        rintro e W5 ⟨v5, rfl, o5, b5⟩
        have HO5 : Hid (W5.ownsRow W.heap.size 5 1 v5 (Ck.encode m d).length (dkCells (Ck.encode m d))) := Lib.hid ⟨o5.1, by
          rcases o5.2 with h | ⟨g, cap, cur, hv, hB, r⟩
          · exact .inl h
          · exact .inr ⟨g, cap, cur, hv, Nat.le_trans HB4.out.size hB, r⟩⟩
        have HB5 := Lib.hid (HB4.out.trans (b5.mono HB4.out.size))
        clear n5 o5 b5
        go_wp2_with fail
        go_ret2
        rw [HE.out]
        exact ⟨v5, rfl, HO5.out, HB5.out⟩

end Go.Proofs.YtamencnachmhoaaGreatDoor
