/-
  The parser: the list of forms; payment and receipt, given options and trade.
  The parser: the walks of trade (printed by wip/gen/psline.py).
-/
import Derived.Test.YthijakidnkhbnaaGreatDoorAmWalk
import Derived.Deep.RegionLaw

namespace Go.Proofs.YthijakidnkhbnaaGreatDoor
open Go.RowKit

/-- the verbs and the methods that read the rest -/
def fmRows : List (ByteArray × Nat) := [(⟨#[112, 97, 121]⟩, 53), (⟨#[100, 101, 108, 105, 118, 101, 114]⟩, 54), (⟨#[114, 101, 99, 101, 105, 118, 101]⟩, 55),
  (⟨#[112, 108, 101, 100, 103, 101]⟩, 56), (⟨#[114, 101, 108, 101, 97, 115, 101]⟩, 57), (⟨#[97, 109, 101, 110, 100]⟩, 58),
  (⟨#[99, 97, 110, 99, 101, 108]⟩, 59), (⟨#[104, 111, 108, 100]⟩, 60), (⟨#[114, 101, 115, 117, 109, 101]⟩, 61)]
def fmCells : List Value := fmRows.flatMap fun x => [.string x.1, .func (.func x.2) #[] #[]]

set_option maxRecDepth 100000 in
set_option maxHeartbeats 400000 in
theorem ps_forms (w : World) : Calls Tryz.prog 22 #[] w fun e w' => e = .returned (.slice (some ⟨w.heap.size, 0, none⟩) 9 9) ∧ w' = w.alloc (.cells fmCells.toArray 74) := by
  go_enter Tryz.func22, Tryz.ntmps22
  go_wp2_with fail
  go_ret
  exact ⟨rfl, rfl⟩

theorem fm_at : ∀ (l : List (ByteArray × Nat)) (j : Nat) (x : ByteArray × Nat), l[j]? = some x → (l.flatMap fun x => [Value.string x.1, .func (.func x.2) #[] #[]])[j * 2]? = some (.string x.1) ∧ (l.flatMap fun x => [Value.string x.1, .func (.func x.2) #[] #[]])[j * 2 + 1]? = some (.func (.func x.2) #[] #[])
  | [], j, x, h => by simp at h
  | y :: l, 0, x, h => by
    obtain rfl : y = x := by simpa using h
    exact ⟨rfl, rfl⟩
  | y :: l, j + 1, x, h => by
    have ih := fm_at l j x (by simpa using h)
    rw [show (j + 1) * 2 = j * 2 + 1 + 1 from by omega]
    exact ih

set_option maxRecDepth 100000 in
set_option maxHeartbeats 400000 in
theorem ps_paymentL (W : World) (r q : Nat) (x y : ByteArray) (n d : Int) (P0 P1 P2 P3 P4 P5 P6 P7 P8 P9 : World → Prop)
    (s0 : ((∃ u, W.cell? ⟨q, 4, none⟩ = some u) ∧ W.frozen? ⟨q, 4, none⟩ = false) ∧ ((∃ u, (W.setCell ⟨q, 4, none⟩ (.int .i64 0)).cell? ⟨q, 8, none⟩ = some u) ∧ (W.setCell ⟨q, 4, none⟩ (.int .i64 0)).frozen? ⟨q, 8, none⟩ = false) ∧ ((∃ u, W.cell? ⟨q, 8, none⟩ = some u) ∧ W.frozen? ⟨q, 8, none⟩ = false))
    (p0 : P0 ((W.setCell ⟨q, 4, none⟩ (.int .i64 0)).setCell ⟨q, 8, none⟩ (.string ⟨#[67, 65, 83, 72]⟩)))
    (n1 : Hid (∀ w, P0 w → Calls Tryz.prog 88 #[.pointer (some ⟨r, 0, none⟩)] w fun e W' => e = .returned (.tuple #[.string x, .string y]) ∧ P1 W'))
    (s1 : Hid (∀ w, P1 w → (((∃ u, w.cell? ⟨q, 5, none⟩ = some u) ∧ w.frozen? ⟨q, 5, none⟩ = false) ∧ ((∃ u, (w.setCell ⟨q, 5, none⟩ (.string x)).cell? ⟨q, 6, none⟩ = some u) ∧ (w.setCell ⟨q, 5, none⟩ (.string x)).frozen? ⟨q, 6, none⟩ = false) ∧ ((∃ u, w.cell? ⟨q, 6, none⟩ = some u) ∧ w.frozen? ⟨q, 6, none⟩ = false)) ∧ P2 ((w.setCell ⟨q, 5, none⟩ (.string x)).setCell ⟨q, 6, none⟩ (.string y))))
    (n2 : Hid (∀ w, P2 w → Calls Tryz.prog 89 #[.pointer (some ⟨r, 0, none⟩), .string ⟨#[97, 109, 111, 117, 110, 116]⟩] w fun e W' => e = .returned (.tuple #[]) ∧ P3 W'))
    (n3 : Hid (∀ w, P3 w → Calls Tryz.prog 90 #[.pointer (some ⟨r, 0, none⟩)] w fun e W' => e = .returned (.int .i64 n) ∧ P4 W'))
    (s3 : Hid (∀ w, P4 w → ((∃ u, w.cell? ⟨q, 10, none⟩ = some u) ∧ w.frozen? ⟨q, 10, none⟩ = false) ∧ P5 (w.setCell ⟨q, 10, none⟩ (.int .i64 n))))
    (n4 : Hid (∀ w, P5 w → Calls Tryz.prog 89 #[.pointer (some ⟨r, 0, none⟩), .string ⟨#[100, 97, 121]⟩] w fun e W' => e = .returned (.tuple #[]) ∧ P6 W'))
    (n5 : Hid (∀ w, P6 w → Calls Tryz.prog 91 #[.pointer (some ⟨r, 0, none⟩)] w fun e W' => e = .returned (.int .i64 d) ∧ P7 W'))
    (s5 : Hid (∀ w, P7 w → ((∃ u, w.cell? ⟨q, 12, none⟩ = some u) ∧ w.frozen? ⟨q, 12, none⟩ = false) ∧ P8 (w.setCell ⟨q, 12, none⟩ (.int .i64 d))))
    (n6 : Hid (∀ w, P8 w → Calls Tryz.prog 92 #[.pointer (some ⟨r, 0, none⟩), .pointer (some ⟨q, 3, none⟩)] w fun e W' => e = .returned (.tuple #[]) ∧ P9 W')) :
    Calls Tryz.prog 53 #[.pointer (some ⟨r, 0, none⟩), .pointer (some ⟨q, 0, none⟩)] W fun e W' => e = .returned (.tuple #[]) ∧ P9 W' := by
  obtain ⟨⟨⟨a1, a2⟩, a3⟩, ⟨⟨a4, a5⟩, a6⟩, ⟨⟨a7, a8⟩, a9⟩⟩ := s0
  have m1 := n1.out _ p0
  clear n1 p0
  go_enter Tryz.func53, Tryz.ntmps53
  go_wp2_with fail
  refine m1.mono ?_
  rintro e w ⟨rfl, h1⟩
  obtain ⟨⟨⟨⟨b1, b2⟩, b3⟩, ⟨⟨b4, b5⟩, b6⟩, ⟨⟨b7, b8⟩, b9⟩⟩, h2⟩ := s1.out w h1
  have m2 := n2.out _ h2
  clear m1 s1 n2 a2 a3 a5 a6 a8 a9
  go_wp2_with fail
  refine m2.mono ?_
  rintro e w2 ⟨rfl, h3⟩
  have m3 := n3.out _ h3
  clear m2 n3 b2 b3 b5 b6 b8 b9
  go_wp2_with fail
  refine m3.mono ?_
  rintro e w3 ⟨rfl, h4⟩
  obtain ⟨⟨⟨c1, c2⟩, c3⟩, h5⟩ := s3.out w3 h4
  have m4 := n4.out _ h5
  clear m3 n4 s3
  go_wp2_with fail
  refine m4.mono ?_
  rintro e w4 ⟨rfl, h6⟩
  have m5 := n5.out _ h6
  clear m4 n5 c2 c3
  go_wp2_with fail
  refine m5.mono ?_
  rintro e w5 ⟨rfl, h7⟩
  obtain ⟨⟨⟨d1, d2⟩, d3⟩, h8⟩ := s5.out w5 h7
  have m6 := n6.out _ h8
  clear m5 n6 s5
  go_wp2_with fail
  refine m6.mono ?_
  rintro e w6 ⟨rfl, h9⟩
  clear m6 d2 d3
  go_wp2_with fail
  go_end0
  exact ⟨rfl, h9⟩

end Go.Proofs.YthijakidnkhbnaaGreatDoor

namespace Go.Proofs.YthijakidnkhbnaaGreatDoor
open Go.RowKit

set_option maxRecDepth 100000 in
set_option maxHeartbeats 400000 in
theorem ps_tradeFree (W : World) (r q : Nat) (x : ByteArray) (y : ByteArray) (t : ByteArray) (a : Nat) (d1 : Int) (d2 : Int) (P0 P1 P2 P3 P4 P5 P6 P7 P8 P9 P10 P11 P12 P13 P14 : World → Prop) (p0 : P0 W)
    (s1 : Hid (∀ w, P0 w → ((∃ u, w.cell? ⟨q, 4, none⟩ = some u) ∧ w.frozen? ⟨q, 4, none⟩ = false) ∧ P1 (w.setCell ⟨q, 4, none⟩ (.int .i64 1))))
    (n2 : Hid (∀ w, P1 w → Calls Tryz.prog 88 #[.pointer (some ⟨r, 0, none⟩)] w fun e W' => e = .returned (.tuple #[.string x, .string y]) ∧ P2 W'))
    (s3 : Hid (∀ w, P2 w → (((∃ u, w.cell? ⟨q, 5, none⟩ = some u) ∧ w.frozen? ⟨q, 5, none⟩ = false) ∧ ((∃ u, (w.setCell ⟨q, 5, none⟩ (.string x)).cell? ⟨q, 6, none⟩ = some u) ∧ (w.setCell ⟨q, 5, none⟩ (.string x)).frozen? ⟨q, 6, none⟩ = false) ∧ ((∃ u, w.cell? ⟨q, 6, none⟩ = some u) ∧ w.frozen? ⟨q, 6, none⟩ = false)) ∧ P3 ((w.setCell ⟨q, 5, none⟩ (.string x)).setCell ⟨q, 6, none⟩ (.string y))))
    (n4 : Hid (∀ w, P3 w → Calls Tryz.prog 93 #[.pointer (some ⟨r, 0, none⟩), .pointer (some ⟨q, 3, none⟩)] w fun e W' => e = .returned (.tuple #[]) ∧ P4 W'))
    (ht : (t.toList == ([102, 114, 101, 101] : List UInt8)) = true)
    (n5 : Hid (∀ w, P4 w → Calls Tryz.prog 21 #[.pointer (some ⟨r, 0, none⟩)] w fun e W' => e = .returned (.string t) ∧ P5 W'))
    (hw1 : wrap64 ((a : Int) + 1) = (a : Int) + 1)
    (s6 : Hid (∀ w, P5 w → (w.cell? ⟨r, 1, none⟩ = some (.int .i64 a) ∧ w.frozen? ⟨r, 1, none⟩ = false) ∧ P6 (w.setCell ⟨r, 1, none⟩ (.int .i64 ((a : Int) + 1)))))
    (s7 : Hid (∀ w, P6 w → ((∃ u, w.cell? ⟨q, 4, none⟩ = some u) ∧ w.frozen? ⟨q, 4, none⟩ = false) ∧ P7 (w.setCell ⟨q, 4, none⟩ (.int .i64 2))))
    (n8 : Hid (∀ w, P7 w → Calls Tryz.prog 89 #[.pointer (some ⟨r, 0, none⟩), .string ⟨#[116, 114, 97, 100, 101]⟩] w fun e W' => e = .returned (.tuple #[]) ∧ P8 W'))
    (n9 : Hid (∀ w, P8 w → Calls Tryz.prog 91 #[.pointer (some ⟨r, 0, none⟩)] w fun e W' => e = .returned (.int .i64 d1) ∧ P9 W'))
    (s10 : Hid (∀ w, P9 w → ((∃ u, w.cell? ⟨q, 11, none⟩ = some u) ∧ w.frozen? ⟨q, 11, none⟩ = false) ∧ P10 (w.setCell ⟨q, 11, none⟩ (.int .i64 d1))))
    (n11 : Hid (∀ w, P10 w → Calls Tryz.prog 89 #[.pointer (some ⟨r, 0, none⟩), .string ⟨#[100, 97, 121]⟩] w fun e W' => e = .returned (.tuple #[]) ∧ P11 W'))
    (n12 : Hid (∀ w, P11 w → Calls Tryz.prog 91 #[.pointer (some ⟨r, 0, none⟩)] w fun e W' => e = .returned (.int .i64 d2) ∧ P12 W'))
    (s13 : Hid (∀ w, P12 w → ((∃ u, w.cell? ⟨q, 12, none⟩ = some u) ∧ w.frozen? ⟨q, 12, none⟩ = false) ∧ P13 (w.setCell ⟨q, 12, none⟩ (.int .i64 d2))))
    (n14 : Hid (∀ w, P13 w → Calls Tryz.prog 92 #[.pointer (some ⟨r, 0, none⟩), .pointer (some ⟨q, 3, none⟩)] w fun e W' => e = .returned (.tuple #[]) ∧ P14 W')) :
    Calls Tryz.prog 54 #[.pointer (some ⟨r, 0, none⟩), .pointer (some ⟨q, 0, none⟩)] W fun e W' => e = .returned (.tuple #[]) ∧ P14 W' := by
  obtain ⟨⟨⟨u1a, u1b⟩, u1c⟩, h1⟩ := s1.out _ p0
  clear s1
  have m2 := n2.out _ h1
  clear n2
  go_enter Tryz.func54, Tryz.ntmps54
  go_wp2_with fail
  refine m2.mono ?_
  rintro e w2 ⟨rfl, h2⟩
  clear m2 u1b u1c
  obtain ⟨⟨⟨⟨u3a, u3b⟩, u3c⟩, ⟨⟨u3d, u3e⟩, u3f⟩, ⟨⟨u3g, u3h⟩, u3i⟩⟩, h3⟩ := s3.out _ h2
  clear s3
  have m4 := n4.out _ h3
  clear n4
  go_wp2_with fail
  refine m4.mono ?_
  rintro e w4 ⟨rfl, h4⟩
  clear m4 u3b u3c u3e u3f u3h u3i
  have m5 := n5.out _ h4
  clear n5
  go_wp2_with fail
  refine m5.mono ?_
  rintro e w5 ⟨rfl, h5⟩
  clear m5 
  obtain ⟨⟨u6b, u6c⟩, h6⟩ := s6.out _ h5
  clear s6
  obtain ⟨⟨⟨u7a, u7b⟩, u7c⟩, h7⟩ := s7.out _ h6
  clear s7
  have m8 := n8.out _ h7
  clear n8
  go_wp2_with fail
  refine m8.mono ?_
  rintro e w8 ⟨rfl, h8⟩
  clear m8 u6b u6c u7b u7c
  have m9 := n9.out _ h8
  clear n9
  go_wp2_with fail
  refine m9.mono ?_
  rintro e w9 ⟨rfl, h9⟩
  clear m9 
  obtain ⟨⟨⟨u10a, u10b⟩, u10c⟩, h10⟩ := s10.out _ h9
  clear s10
  have m11 := n11.out _ h10
  clear n11
  go_wp2_with fail
  refine m11.mono ?_
  rintro e w11 ⟨rfl, h11⟩
  clear m11 u10b u10c
  have m12 := n12.out _ h11
  clear n12
  go_wp2_with fail
  refine m12.mono ?_
  rintro e w12 ⟨rfl, h12⟩
  clear m12 
  obtain ⟨⟨⟨u13a, u13b⟩, u13c⟩, h13⟩ := s13.out _ h12
  clear s13
  have m14 := n14.out _ h13
  clear n14
  go_wp2_with fail
  refine m14.mono ?_
  rintro e w14 ⟨rfl, h14⟩
  clear m14 u13b u13c
  have HZ := Lib.hid h14
  go_wp2_with fail
  go_end0
  exact ⟨rfl, HZ.out⟩

set_option maxRecDepth 100000 in
set_option maxHeartbeats 400000 in
theorem ps_tradeAgainst (W : World) (r q : Nat) (x : ByteArray) (y : ByteArray) (t : ByteArray) (n : Int) (d1 : Int) (d2 : Int) (P0 P1 P2 P3 P4 P5 P6 P7 P8 P9 P10 P11 P12 P13 P14 P15 : World → Prop) (p0 : P0 W)
    (s1 : Hid (∀ w, P0 w → ((∃ u, w.cell? ⟨q, 4, none⟩ = some u) ∧ w.frozen? ⟨q, 4, none⟩ = false) ∧ P1 (w.setCell ⟨q, 4, none⟩ (.int .i64 1))))
    (n2 : Hid (∀ w, P1 w → Calls Tryz.prog 88 #[.pointer (some ⟨r, 0, none⟩)] w fun e W' => e = .returned (.tuple #[.string x, .string y]) ∧ P2 W'))
    (s3 : Hid (∀ w, P2 w → (((∃ u, w.cell? ⟨q, 5, none⟩ = some u) ∧ w.frozen? ⟨q, 5, none⟩ = false) ∧ ((∃ u, (w.setCell ⟨q, 5, none⟩ (.string x)).cell? ⟨q, 6, none⟩ = some u) ∧ (w.setCell ⟨q, 5, none⟩ (.string x)).frozen? ⟨q, 6, none⟩ = false) ∧ ((∃ u, w.cell? ⟨q, 6, none⟩ = some u) ∧ w.frozen? ⟨q, 6, none⟩ = false)) ∧ P3 ((w.setCell ⟨q, 5, none⟩ (.string x)).setCell ⟨q, 6, none⟩ (.string y))))
    (n4 : Hid (∀ w, P3 w → Calls Tryz.prog 93 #[.pointer (some ⟨r, 0, none⟩), .pointer (some ⟨q, 3, none⟩)] w fun e W' => e = .returned (.tuple #[]) ∧ P4 W'))
    (ht : (t.toList == ([102, 114, 101, 101] : List UInt8)) = false)
    (n5 : Hid (∀ w, P4 w → Calls Tryz.prog 21 #[.pointer (some ⟨r, 0, none⟩)] w fun e W' => e = .returned (.string t) ∧ P5 W'))
    (n6 : Hid (∀ w, P5 w → Calls Tryz.prog 89 #[.pointer (some ⟨r, 0, none⟩), .string ⟨#[97, 103, 97, 105, 110, 115, 116]⟩] w fun e W' => e = .returned (.tuple #[]) ∧ P6 W'))
    (n7 : Hid (∀ w, P6 w → Calls Tryz.prog 90 #[.pointer (some ⟨r, 0, none⟩)] w fun e W' => e = .returned (.int .i64 n) ∧ P7 W'))
    (s8 : Hid (∀ w, P7 w → ((∃ u, w.cell? ⟨q, 10, none⟩ = some u) ∧ w.frozen? ⟨q, 10, none⟩ = false) ∧ P8 (w.setCell ⟨q, 10, none⟩ (.int .i64 n))))
    (n9 : Hid (∀ w, P8 w → Calls Tryz.prog 89 #[.pointer (some ⟨r, 0, none⟩), .string ⟨#[116, 114, 97, 100, 101]⟩] w fun e W' => e = .returned (.tuple #[]) ∧ P9 W'))
    (n10 : Hid (∀ w, P9 w → Calls Tryz.prog 91 #[.pointer (some ⟨r, 0, none⟩)] w fun e W' => e = .returned (.int .i64 d1) ∧ P10 W'))
    (s11 : Hid (∀ w, P10 w → ((∃ u, w.cell? ⟨q, 11, none⟩ = some u) ∧ w.frozen? ⟨q, 11, none⟩ = false) ∧ P11 (w.setCell ⟨q, 11, none⟩ (.int .i64 d1))))
    (n12 : Hid (∀ w, P11 w → Calls Tryz.prog 89 #[.pointer (some ⟨r, 0, none⟩), .string ⟨#[100, 97, 121]⟩] w fun e W' => e = .returned (.tuple #[]) ∧ P12 W'))
    (n13 : Hid (∀ w, P12 w → Calls Tryz.prog 91 #[.pointer (some ⟨r, 0, none⟩)] w fun e W' => e = .returned (.int .i64 d2) ∧ P13 W'))
    (s14 : Hid (∀ w, P13 w → ((∃ u, w.cell? ⟨q, 12, none⟩ = some u) ∧ w.frozen? ⟨q, 12, none⟩ = false) ∧ P14 (w.setCell ⟨q, 12, none⟩ (.int .i64 d2))))
    (n15 : Hid (∀ w, P14 w → Calls Tryz.prog 92 #[.pointer (some ⟨r, 0, none⟩), .pointer (some ⟨q, 3, none⟩)] w fun e W' => e = .returned (.tuple #[]) ∧ P15 W')) :
    Calls Tryz.prog 54 #[.pointer (some ⟨r, 0, none⟩), .pointer (some ⟨q, 0, none⟩)] W fun e W' => e = .returned (.tuple #[]) ∧ P15 W' := by
  obtain ⟨⟨⟨u1a, u1b⟩, u1c⟩, h1⟩ := s1.out _ p0
  clear s1
  have m2 := n2.out _ h1
  clear n2
  go_enter Tryz.func54, Tryz.ntmps54
  go_wp2_with fail
  refine m2.mono ?_
  rintro e w2 ⟨rfl, h2⟩
  clear m2 u1b u1c
  obtain ⟨⟨⟨⟨u3a, u3b⟩, u3c⟩, ⟨⟨u3d, u3e⟩, u3f⟩, ⟨⟨u3g, u3h⟩, u3i⟩⟩, h3⟩ := s3.out _ h2
  clear s3
  have m4 := n4.out _ h3
  clear n4
  go_wp2_with fail
  refine m4.mono ?_
  rintro e w4 ⟨rfl, h4⟩
  clear m4 u3b u3c u3e u3f u3h u3i
  have m5 := n5.out _ h4
  clear n5
  go_wp2_with fail
  refine m5.mono ?_
  rintro e w5 ⟨rfl, h5⟩
  clear m5 
  have m6 := n6.out _ h5
  clear n6
  go_wp2_with fail
  refine m6.mono ?_
  rintro e w6 ⟨rfl, h6⟩
  clear m6 
  have m7 := n7.out _ h6
  clear n7
  go_wp2_with fail
  refine m7.mono ?_
  rintro e w7 ⟨rfl, h7⟩
  clear m7 
  obtain ⟨⟨⟨u8a, u8b⟩, u8c⟩, h8⟩ := s8.out _ h7
  clear s8
  have m9 := n9.out _ h8
  clear n9
  go_wp2_with fail
  refine m9.mono ?_
  rintro e w9 ⟨rfl, h9⟩
  clear m9 u8b u8c
  have m10 := n10.out _ h9
  clear n10
  go_wp2_with fail
  refine m10.mono ?_
  rintro e w10 ⟨rfl, h10⟩
  clear m10 
  obtain ⟨⟨⟨u11a, u11b⟩, u11c⟩, h11⟩ := s11.out _ h10
  clear s11
  have m12 := n12.out _ h11
  clear n12
  go_wp2_with fail
  refine m12.mono ?_
  rintro e w12 ⟨rfl, h12⟩
  clear m12 u11b u11c
  have m13 := n13.out _ h12
  clear n13
  go_wp2_with fail
  refine m13.mono ?_
  rintro e w13 ⟨rfl, h13⟩
  clear m13 
  obtain ⟨⟨⟨u14a, u14b⟩, u14c⟩, h14⟩ := s14.out _ h13
  clear s14
  have m15 := n15.out _ h14
  clear n15
  go_wp2_with fail
  refine m15.mono ?_
  rintro e w15 ⟨rfl, h15⟩
  clear m15 u14b u14c
  have HZ := Lib.hid h15
  go_wp2_with fail
  go_end0
  exact ⟨rfl, HZ.out⟩

set_option maxRecDepth 100000 in
set_option maxHeartbeats 400000 in
theorem ps_amendL (W : World) (r q : Nat) (z : ByteArray) (P0 P1 P2 P3 : World → Prop) (p0 : P0 W)
    (n1 : Hid (∀ w, P0 w → Calls Tryz.prog 95 #[.pointer (some ⟨r, 0, none⟩)] w fun e W' => e = .returned (.string z) ∧ P1 W'))
    (s2 : Hid (∀ w, P1 w → (((∃ u, w.cell? ⟨q, 0, none⟩ = some u) ∧ w.frozen? ⟨q, 0, none⟩ = false) ∧ ((∃ u, (w.setCell ⟨q, 0, none⟩ (.int .i64 1)).cell? ⟨q, 1, none⟩ = some u) ∧ (w.setCell ⟨q, 0, none⟩ (.int .i64 1)).frozen? ⟨q, 1, none⟩ = false) ∧ ((∃ u, w.cell? ⟨q, 1, none⟩ = some u) ∧ w.frozen? ⟨q, 1, none⟩ = false)) ∧ P2 ((w.setCell ⟨q, 0, none⟩ (.int .i64 1)).setCell ⟨q, 1, none⟩ (.string z))))
    (n3 : Hid (∀ w, P2 w → Calls Tryz.prog 96 #[.pointer (some ⟨r, 0, none⟩), .pointer (some ⟨q, 19, none⟩)] w fun e W' => e = .returned (.tuple #[]) ∧ P3 W')) :
    Calls Tryz.prog 58 #[.pointer (some ⟨r, 0, none⟩), .pointer (some ⟨q, 0, none⟩)] W fun e W' => e = .returned (.tuple #[]) ∧ P3 W' := by
  have m1 := n1.out _ p0
  clear n1
  go_enter Tryz.func58, Tryz.ntmps58
  go_wp2_with fail
  refine m1.mono ?_
  rintro e w1 ⟨rfl, h1⟩
  clear m1 
  obtain ⟨⟨⟨⟨u2a, u2b⟩, u2c⟩, ⟨⟨u2d, u2e⟩, u2f⟩, ⟨⟨u2g, u2h⟩, u2i⟩⟩, h2⟩ := s2.out _ h1
  clear s2
  have m3 := n3.out _ h2
  clear n3
  go_wp2_with fail
  refine m3.mono ?_
  rintro e w3 ⟨rfl, h3⟩
  clear m3 u2b u2c u2e u2f u2h u2i
  have HZ := Lib.hid h3
  go_wp2_with fail
  go_end0
  exact ⟨rfl, HZ.out⟩

set_option maxRecDepth 100000 in
set_option maxHeartbeats 400000 in
theorem ps_receiptL (W : World) (r q : Nat) (P1 : World → Prop)
    (n1 : Calls Tryz.prog 54 #[.pointer (some ⟨r, 0, none⟩), .pointer (some ⟨q, 0, none⟩)] W fun e W' => e = .returned (.tuple #[]) ∧ P1 W')
    (s1 : Hid (∀ w, P1 w → ∃ (x y : ByteArray) (cs : Array Value), w.heap[q]? = some (.cells cs 29 (0, 0)) ∧ cs[5]? = some (.string x) ∧ cs[6]? = some (.string y) ∧ 7 < cs.size)) :
    Calls Tryz.prog 55 #[.pointer (some ⟨r, 0, none⟩), .pointer (some ⟨q, 0, none⟩)] W fun e W' => e = .returned (.tuple #[]) ∧ ∃ (w : World) (x y : ByteArray), P1 w ∧ w.cell? ⟨q, 5, none⟩ = some (.string x) ∧ w.cell? ⟨q, 6, none⟩ = some (.string y) ∧ W' = (((w.setCell ⟨q, 7, none⟩ (.int .i64 1)).setCell ⟨q, 5, none⟩ (.string y)).setCell ⟨q, 6, none⟩ (.string x)).drew := by
  go_enter Tryz.func55, Tryz.ntmps55
  go_wp2_with fail
  refine n1.mono ?_
  rintro e w ⟨rfl, h1⟩
  obtain ⟨x, y, cs, hr, hx, hy, hs⟩ := s1.out w h1
  have c5 : w.cell? ⟨q, 5, none⟩ = some (.string x) := by rw [cell_of_row _ _ _ _ _ _ hr]; exact hx
  have c6 : w.cell? ⟨q, 6, none⟩ = some (.string y) := by rw [cell_of_row _ _ _ _ _ _ hr]; exact hy
  have c7 : w.cell? ⟨q, 7, none⟩ = some cs[7] := by rw [cell_of_row _ _ _ _ _ _ hr]; exact Array.getElem?_eq_getElem hs
  have f5 := ps_frozen 5 hr
  have f6 := ps_frozen 6 hr
  have f7 := ps_frozen 7 hr
  have d5 : w.drew.cell? ⟨q, 5, none⟩ = some (.string x) := c5
  have d6 : w.drew.cell? ⟨q, 6, none⟩ = some (.string y) := c6
  have d7 : w.drew.cell? ⟨q, 7, none⟩ = some cs[7] := c7
  have g5 : w.drew.frozen? ⟨q, 5, none⟩ = false := f5
  have g6 : w.drew.frozen? ⟨q, 6, none⟩ = false := f6
  have g7 : w.drew.frozen? ⟨q, 7, none⟩ = false := f7
  have H1 := Lib.hid h1
  have HC5 := Lib.hid c5
  have HC6 := Lib.hid c6
  clear n1 s1 hr hx hy h1
  go_wp2_with fail
  go_region_law (fail)
  all_goals
    go_end0
    exact ⟨rfl, w, x, y, H1.out, HC5.out, HC6.out, rfl⟩

end Go.Proofs.YthijakidnkhbnaaGreatDoor
