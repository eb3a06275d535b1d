/-
  The parser: the walk of options, a round at a time (printed by wip/gen/opt.py).
  The parser: the walk of changes, a round at a time (printed by wip/gen/opt.py).
  The parser: options in any state.
  The parser: the contract of options.
  The parser: the contract of changes.
-/
import Derived.Test.YthijakidnkhbnaaGreatDoorPsPay
import Derived.Deep.RegionLaw
import Derived.Deep.AppendLies
import Derived.Shelf.Small.Wraps

namespace Go.Proofs.YthijakidnkhbnaaGreatDoor
open Go.RowKit

theorem ps_entRef : ∀ args w, (callFunc 23 args).run Tryz.prog w = .ok (.enter 23 args) w := enters_of Tryz.func23 (by kernel_rfl) rfl
/-- what follows where a link has been read: the append's run, the store -/
def LkNext (q : Nat) (la : Option Addr) (ln lc : Nat) (ty : Int) (x : ByteArray) (Nx : World → Prop) (w : World) : Prop :=
  w.cell? ⟨q, 18, none⟩ = some (.slice la ln lc) ∧ w.heap.size = w.heap.size ∧ ∃ (va : Option Addr) (vn vc : Nat) (w7 : World), (Builtin.append_ #[23, 23] 23 #[.slice la ln lc, .slice (some ⟨w.heap.size, 0, none⟩) 1 1]).run Tryz.prog (w.alloc (.cells #[.int .i64 ty, .string x] 117)) = .ok (.slice va vn vc) w7 ∧
    ((∃ u, w7.cell? ⟨q, 18, none⟩ = some u) ∧ w7.frozen? ⟨q, 18, none⟩ = false) ∧ w7.os = w7.os ∧ Nx (w7.setCell ⟨q, 18, none⟩ (.slice va vn vc))

/-- the ways of a round; Nx: the loop's condition, its measure less -/
inductive OptRound (r q sb : Nat) (Nx Post : World → Prop) (w : World) : Prop
  | done (n1 : Calls Tryz.prog 25 #[.pointer (some ⟨r, 0, none⟩)] w fun e W' => e = .returned (.bool false) ∧ Post W')
  | prioDup (P1 P2 P3 P4 P5 : World → Prop) (t : ByteArray) (v : Int) (n1 : Calls Tryz.prog 25 #[.pointer (some ⟨r, 0, none⟩)] w fun e W' => e = .returned (.bool true) ∧ P1 W') (n2 : Hid (∀ w, P1 w → Calls Tryz.prog 21 #[.pointer (some ⟨r, 0, none⟩)] w fun e W' => e = .returned (.string t) ∧ P2 W')) (n3 : Hid (∀ w, P2 w → Calls Tryz.prog 136 #[.string t] w fun e W' => e = .returned (.int .i64 v) ∧ P3 W')) (hv : 0 ≤ v) (n4 : Hid (∀ w, P3 w → Calls Tryz.prog 137 #[.pointer (some ⟨r, 0, none⟩), .pointer (some ⟨sb, 0, none⟩), .int .i64 0] w fun e W' => e = .returned (.bool false) ∧ Nx W'))
  | prioOk (P1 P2 P3 P4 P5 : World → Prop) (t : ByteArray) (v : Int) (n1 : Calls Tryz.prog 25 #[.pointer (some ⟨r, 0, none⟩)] w fun e W' => e = .returned (.bool true) ∧ P1 W') (n2 : Hid (∀ w, P1 w → Calls Tryz.prog 21 #[.pointer (some ⟨r, 0, none⟩)] w fun e W' => e = .returned (.string t) ∧ P2 W')) (n3 : Hid (∀ w, P2 w → Calls Tryz.prog 136 #[.string t] w fun e W' => e = .returned (.int .i64 v) ∧ P3 W')) (hv : 0 ≤ v) (n4 : Hid (∀ w, P3 w → Calls Tryz.prog 137 #[.pointer (some ⟨r, 0, none⟩), .pointer (some ⟨sb, 0, none⟩), .int .i64 0] w fun e W' => e = .returned (.bool true) ∧ P4 W')) (s5 : Hid (∀ w, P4 w → (((∃ u, w.cell? ⟨q, 13, none⟩ = some u) ∧ w.frozen? ⟨q, 13, none⟩ = false)) ∧ Nx (w.setCell ⟨q, 13, none⟩ (.int .i64 v))))
  | partDup (P1 P2 P3 P4 P5 : World → Prop) (t : ByteArray) (v : Int) (n1 : Calls Tryz.prog 25 #[.pointer (some ⟨r, 0, none⟩)] w fun e W' => e = .returned (.bool true) ∧ P1 W') (n2 : Hid (∀ w, P1 w → Calls Tryz.prog 21 #[.pointer (some ⟨r, 0, none⟩)] w fun e W' => e = .returned (.string t) ∧ P2 W')) (n3 : Hid (∀ w, P2 w → Calls Tryz.prog 136 #[.string t] w fun e W' => e = .returned (.int .i64 (-1)) ∧ P3 W')) (g0 : (t.toList == ([112, 97, 114, 116, 105, 97, 108] : List UInt8)) = true) (n4 : Hid (∀ w, P3 w → Calls Tryz.prog 137 #[.pointer (some ⟨r, 0, none⟩), .pointer (some ⟨sb, 0, none⟩), .int .i64 1] w fun e W' => e = .returned (.bool false) ∧ Nx W'))
  | partOk (P1 P2 P3 P4 P5 : World → Prop) (t : ByteArray) (v : Int) (x : Int) (n1 : Calls Tryz.prog 25 #[.pointer (some ⟨r, 0, none⟩)] w fun e W' => e = .returned (.bool true) ∧ P1 W') (n2 : Hid (∀ w, P1 w → Calls Tryz.prog 21 #[.pointer (some ⟨r, 0, none⟩)] w fun e W' => e = .returned (.string t) ∧ P2 W')) (n3 : Hid (∀ w, P2 w → Calls Tryz.prog 136 #[.string t] w fun e W' => e = .returned (.int .i64 (-1)) ∧ P3 W')) (g0 : (t.toList == ([112, 97, 114, 116, 105, 97, 108] : List UInt8)) = true) (n4 : Hid (∀ w, P3 w → Calls Tryz.prog 137 #[.pointer (some ⟨r, 0, none⟩), .pointer (some ⟨sb, 0, none⟩), .int .i64 1] w fun e W' => e = .returned (.bool true) ∧ P4 W')) (n5 : Hid (∀ w, P4 w → Calls Tryz.prog 138 #[.pointer (some ⟨r, 0, none⟩)] w fun e W' => e = .returned (.int .i64 x) ∧ P5 W')) (s5 : Hid (∀ w, P5 w → (((∃ u, w.cell? ⟨q, 14, none⟩ = some u) ∧ w.frozen? ⟨q, 14, none⟩ = false) ∧ ((∃ u, w.cell? ⟨q, 15, none⟩ = some u) ∧ w.frozen? ⟨q, 15, none⟩ = false) ∧ ((∃ u, (w.setCell ⟨q, 14, none⟩ (.bool true)).cell? ⟨q, 15, none⟩ = some u) ∧ (w.setCell ⟨q, 14, none⟩ (.bool true)).frozen? ⟨q, 15, none⟩ = false)) ∧ Nx ((w.setCell ⟨q, 14, none⟩ (.bool true)).setCell ⟨q, 15, none⟩ (.int .i64 x))))
  | hold (P1 P2 P3 P4 P5 : World → Prop) (t : ByteArray) (v : Int) (b : Bool) (n1 : Calls Tryz.prog 25 #[.pointer (some ⟨r, 0, none⟩)] w fun e W' => e = .returned (.bool true) ∧ P1 W') (n2 : Hid (∀ w, P1 w → Calls Tryz.prog 21 #[.pointer (some ⟨r, 0, none⟩)] w fun e W' => e = .returned (.string t) ∧ P2 W')) (n3 : Hid (∀ w, P2 w → Calls Tryz.prog 136 #[.string t] w fun e W' => e = .returned (.int .i64 (-1)) ∧ P3 W')) (g0 : (t.toList == ([112, 97, 114, 116, 105, 97, 108] : List UInt8)) = false) (g1 : (t.toList == ([104, 111, 108, 100] : List UInt8)) = true) (n4 : Hid (∀ w, P3 w → Calls Tryz.prog 137 #[.pointer (some ⟨r, 0, none⟩), .pointer (some ⟨sb, 0, none⟩), .int .i64 2] w fun e W' => e = .returned (.bool b) ∧ P4 W')) (s5 : Hid (∀ w, P4 w → (((∃ u, w.cell? ⟨q, 16, none⟩ = some u) ∧ w.frozen? ⟨q, 16, none⟩ = false)) ∧ Nx (w.setCell ⟨q, 16, none⟩ (.bool b))))
  | rsv (P1 P2 P3 P4 P5 : World → Prop) (t : ByteArray) (v : Int) (b : Bool) (n1 : Calls Tryz.prog 25 #[.pointer (some ⟨r, 0, none⟩)] w fun e W' => e = .returned (.bool true) ∧ P1 W') (n2 : Hid (∀ w, P1 w → Calls Tryz.prog 21 #[.pointer (some ⟨r, 0, none⟩)] w fun e W' => e = .returned (.string t) ∧ P2 W')) (n3 : Hid (∀ w, P2 w → Calls Tryz.prog 136 #[.string t] w fun e W' => e = .returned (.int .i64 (-1)) ∧ P3 W')) (g0 : (t.toList == ([112, 97, 114, 116, 105, 97, 108] : List UInt8)) = false) (g1 : (t.toList == ([104, 111, 108, 100] : List UInt8)) = false) (g2 : (t.toList == ([114, 101, 115, 101, 114, 118, 101] : List UInt8)) = true) (n4 : Hid (∀ w, P3 w → Calls Tryz.prog 137 #[.pointer (some ⟨r, 0, none⟩), .pointer (some ⟨sb, 0, none⟩), .int .i64 3] w fun e W' => e = .returned (.bool b) ∧ P4 W')) (s5 : Hid (∀ w, P4 w → (((∃ u, w.cell? ⟨q, 17, none⟩ = some u) ∧ w.frozen? ⟨q, 17, none⟩ = false)) ∧ Nx (w.setCell ⟨q, 17, none⟩ (.bool b))))
  | withL (P1 P2 P3 P4 P5 : World → Prop) (t : ByteArray) (v : Int) (x : ByteArray) (a : Nat) (la : Option Addr) (ln lc : Nat) (n1 : Calls Tryz.prog 25 #[.pointer (some ⟨r, 0, none⟩)] w fun e W' => e = .returned (.bool true) ∧ P1 W') (n2 : Hid (∀ w, P1 w → Calls Tryz.prog 21 #[.pointer (some ⟨r, 0, none⟩)] w fun e W' => e = .returned (.string t) ∧ P2 W')) (n3 : Hid (∀ w, P2 w → Calls Tryz.prog 136 #[.string t] w fun e W' => e = .returned (.int .i64 (-1)) ∧ P3 W')) (g0 : (t.toList == ([112, 97, 114, 116, 105, 97, 108] : List UInt8)) = false) (g1 : (t.toList == ([104, 111, 108, 100] : List UInt8)) = false) (g2 : (t.toList == ([114, 101, 115, 101, 114, 118, 101] : List UInt8)) = false) (g3 : (t.toList == ([119, 105, 116, 104] : List UInt8)) = true) (hw1 : wrap64 ((a : Int) + 1) = (a : Int) + 1) (s4 : Hid (∀ w, P3 w → (w.cell? ⟨r, 1, none⟩ = some (.int .i64 a) ∧ w.frozen? ⟨r, 1, none⟩ = false) ∧ P4 (w.setCell ⟨r, 1, none⟩ (.int .i64 ((a : Int) + 1))))) (n5 : Hid (∀ w, P4 w → w.cell? ⟨q, 18, none⟩ = some (.slice la ln lc) ∧ (Calls Tryz.prog 23 #[.pointer (some ⟨r, 0, none⟩)] w.drew fun e W' => e = .returned (.string x) ∧ LkNext q la ln lc 0 x Nx W')))
  | afterL (P1 P2 P3 P4 P5 : World → Prop) (t : ByteArray) (v : Int) (x : ByteArray) (a : Nat) (la : Option Addr) (ln lc : Nat) (n1 : Calls Tryz.prog 25 #[.pointer (some ⟨r, 0, none⟩)] w fun e W' => e = .returned (.bool true) ∧ P1 W') (n2 : Hid (∀ w, P1 w → Calls Tryz.prog 21 #[.pointer (some ⟨r, 0, none⟩)] w fun e W' => e = .returned (.string t) ∧ P2 W')) (n3 : Hid (∀ w, P2 w → Calls Tryz.prog 136 #[.string t] w fun e W' => e = .returned (.int .i64 (-1)) ∧ P3 W')) (g0 : (t.toList == ([112, 97, 114, 116, 105, 97, 108] : List UInt8)) = false) (g1 : (t.toList == ([104, 111, 108, 100] : List UInt8)) = false) (g2 : (t.toList == ([114, 101, 115, 101, 114, 118, 101] : List UInt8)) = false) (g3 : (t.toList == ([119, 105, 116, 104] : List UInt8)) = false) (g4 : (t.toList == ([97, 102, 116, 101, 114] : List UInt8)) = true) (hw1 : wrap64 ((a : Int) + 1) = (a : Int) + 1) (s4 : Hid (∀ w, P3 w → (w.cell? ⟨r, 1, none⟩ = some (.int .i64 a) ∧ w.frozen? ⟨r, 1, none⟩ = false) ∧ P4 (w.setCell ⟨r, 1, none⟩ (.int .i64 ((a : Int) + 1))))) (n5 : Hid (∀ w, P4 w → w.cell? ⟨q, 18, none⟩ = some (.slice la ln lc) ∧ (Calls Tryz.prog 23 #[.pointer (some ⟨r, 0, none⟩)] w.drew fun e W' => e = .returned (.string x) ∧ LkNext q la ln lc 1 x Nx W')))
  | none (P1 P2 P3 P4 P5 : World → Prop) (t : ByteArray) (v : Int) (n1 : Calls Tryz.prog 25 #[.pointer (some ⟨r, 0, none⟩)] w fun e W' => e = .returned (.bool true) ∧ P1 W') (n2 : Hid (∀ w, P1 w → Calls Tryz.prog 21 #[.pointer (some ⟨r, 0, none⟩)] w fun e W' => e = .returned (.string t) ∧ P2 W')) (n3 : Hid (∀ w, P2 w → Calls Tryz.prog 136 #[.string t] w fun e W' => e = .returned (.int .i64 (-1)) ∧ P3 W')) (g0 : (t.toList == ([112, 97, 114, 116, 105, 97, 108] : List UInt8)) = false) (g1 : (t.toList == ([104, 111, 108, 100] : List UInt8)) = false) (g2 : (t.toList == ([114, 101, 115, 101, 114, 118, 101] : List UInt8)) = false) (g3 : (t.toList == ([119, 105, 116, 104] : List UInt8)) = false) (g4 : (t.toList == ([97, 102, 116, 101, 114] : List UInt8)) = false) (n4 : Hid (∀ w, P3 w → Calls Tryz.prog 24 #[.pointer (some ⟨r, 0, none⟩), .int .i64 30] w fun e W' => e = .returned (.tuple #[]) ∧ Nx W'))

set_option maxRecDepth 100000 in
set_option maxHeartbeats 8000000 in
theorem ps_optionsL (W : World) (r q : Nat) (Inv Post : World → Prop) (μ : World → Nat) (h0 : Inv (W.alloc (.cells #[.bool false, .bool false, .bool false, .bool false, .bool false, .bool false] 163)))
    (hr : Hid (∀ w, Inv w → OptRound r q W.heap.size (fun w' => Inv w' ∧ μ w' < μ w) Post w)) :
    Calls Tryz.prog 92 #[.pointer (some ⟨r, 0, none⟩), .pointer (some ⟨q, 3, none⟩)] W fun e W' => e = .returned (.tuple #[]) ∧ Post W' := by
  obtain ⟨sb, hsb⟩ : ∃ sb, sb = W.heap.size := ⟨_, rfl⟩
  rw [← hsb] at hr
  have H0 := Lib.hid h0
  clear h0
  go_enter Tryz.func92, Tryz.ntmps92
  go_wp2_with fail
  rw [← hsb]
  clear hsb
  go_loopw [5, 6] (fun _ _ wr => Hid (Inv wr)) (fun _ _ wr => μ wr)
  case atStart => exact H0
  case round =>
    have hrd := hr.out wr hrel.out
    clear H0 hr hrel
    cases hrd
    case done n1 =>
      go_wp2_with fail
      refine n1.mono ?_
      rintro e w1 ⟨rfl, p1⟩
      clear n1
      go_wp2_with fail
      go_end0
      exact ⟨rfl, p1⟩
    case prioDup P1 P2 P3 P4 P5 t v n1 n2 n3 hv n4 =>
      have m2 := n2.out
      have m3 := n3.out
      clear n2 n3
      go_wp2_with fail
      refine n1.mono ?_
      rintro e w1 ⟨rfl, p1⟩
      have m2 := m2 w1 p1
      clear n1
      go_wp2_with fail
      refine m2.mono ?_
      rintro e w2 ⟨rfl, p2⟩
      have m3 := m3 w2 p2
      clear m2
      go_wp2_with fail
      refine m3.mono ?_
      rintro e w3 ⟨rfl, p3⟩
      clear m3
      have m4 := n4.out w3 p3
      clear n4
      go_wp2_with fail
      refine m4.mono ?_
      rintro e w4 ⟨rfl, p4⟩
      clear m4
      have NX := Lib.hid p4
      clear p4
      go_wp2_with fail
      exact ⟨NX.out.1, NX.out.2⟩
    case prioOk P1 P2 P3 P4 P5 t v n1 n2 n3 hv n4 s5 =>
      have m2 := n2.out
      have m3 := n3.out
      clear n2 n3
      go_wp2_with fail
      refine n1.mono ?_
      rintro e w1 ⟨rfl, p1⟩
      have m2 := m2 w1 p1
      clear n1
      go_wp2_with fail
      refine m2.mono ?_
      rintro e w2 ⟨rfl, p2⟩
      have m3 := m3 w2 p2
      clear m2
      go_wp2_with fail
      refine m3.mono ?_
      rintro e w3 ⟨rfl, p3⟩
      clear m3
      have m4 := n4.out w3 p3
      clear n4
      go_wp2_with fail
      refine m4.mono ?_
      rintro e w4 ⟨rfl, p4⟩
      obtain ⟨⟨⟨u0a, u0b⟩, u0c⟩, p5⟩ := s5.out w4 p4
      clear m4 s5
      have NX := Lib.hid p5
      clear p5
      go_wp2_with fail
      exact ⟨NX.out.1, NX.out.2⟩
    case partDup P1 P2 P3 P4 P5 t v n1 n2 n3 g0 n4 =>
      have m2 := n2.out
      have m3 := n3.out
      clear n2 n3
      go_wp2_with fail
      refine n1.mono ?_
      rintro e w1 ⟨rfl, p1⟩
      have m2 := m2 w1 p1
      clear n1
      go_wp2_with fail
      refine m2.mono ?_
      rintro e w2 ⟨rfl, p2⟩
      have m3 := m3 w2 p2
      clear m2
      go_wp2_with fail
      refine m3.mono ?_
      rintro e w3 ⟨rfl, p3⟩
      clear m3
      have m4 := n4.out w3 p3
      clear n4
      go_wp2_with fail
      refine m4.mono ?_
      rintro e w4 ⟨rfl, p4⟩
      clear m4
      have NX := Lib.hid p4
      clear p4
      go_wp2_with fail
      exact ⟨NX.out.1, NX.out.2⟩
    case partOk P1 P2 P3 P4 P5 t v x n1 n2 n3 g0 n4 n5 s5 =>
      have m2 := n2.out
      have m3 := n3.out
      clear n2 n3
      go_wp2_with fail
      refine n1.mono ?_
      rintro e w1 ⟨rfl, p1⟩
      have m2 := m2 w1 p1
      clear n1
      go_wp2_with fail
      refine m2.mono ?_
      rintro e w2 ⟨rfl, p2⟩
      have m3 := m3 w2 p2
      clear m2
      go_wp2_with fail
      refine m3.mono ?_
      rintro e w3 ⟨rfl, p3⟩
      clear m3
      have m4 := n4.out w3 p3
      clear n4
      go_wp2_with fail
      refine m4.mono ?_
      rintro e w4 ⟨rfl, p4⟩
      have m5 := n5.out w4 p4
      clear m4 n5
      go_wp2_with fail
      refine m5.mono ?_
      rintro e w5 ⟨rfl, p5⟩
      obtain ⟨⟨⟨⟨u0a, u0b⟩, u0c⟩, ⟨⟨u1a, u1b⟩, u1c⟩, ⟨⟨u2a, u2b⟩, u2c⟩⟩, p6⟩ := s5.out w5 p5
      clear m5 s5
      have NX := Lib.hid p6
      clear p6
      go_wp2_with fail
      exact ⟨NX.out.1, NX.out.2⟩
    case hold P1 P2 P3 P4 P5 t v b n1 n2 n3 g0 g1 n4 s5 =>
      have m2 := n2.out
      have m3 := n3.out
      clear n2 n3
      go_wp2_with fail
      refine n1.mono ?_
      rintro e w1 ⟨rfl, p1⟩
      have m2 := m2 w1 p1
      clear n1
      go_wp2_with fail
      refine m2.mono ?_
      rintro e w2 ⟨rfl, p2⟩
      have m3 := m3 w2 p2
      clear m2
      go_wp2_with fail
      refine m3.mono ?_
      rintro e w3 ⟨rfl, p3⟩
      clear m3
      have m4 := n4.out w3 p3
      clear n4
      go_wp2_with fail
      refine m4.mono ?_
      rintro e w4 ⟨rfl, p4⟩
      obtain ⟨⟨⟨u0a, u0b⟩, u0c⟩, p6⟩ := s5.out w4 p4
      clear m4 s5
      have NX := Lib.hid p6
      clear p6
      go_wp2_with fail
      exact ⟨NX.out.1, NX.out.2⟩
    case rsv P1 P2 P3 P4 P5 t v b n1 n2 n3 g0 g1 g2 n4 s5 =>
      have m2 := n2.out
      have m3 := n3.out
      clear n2 n3
      go_wp2_with fail
      refine n1.mono ?_
      rintro e w1 ⟨rfl, p1⟩
      have m2 := m2 w1 p1
      clear n1
      go_wp2_with fail
      refine m2.mono ?_
      rintro e w2 ⟨rfl, p2⟩
      have m3 := m3 w2 p2
      clear m2
      go_wp2_with fail
      refine m3.mono ?_
      rintro e w3 ⟨rfl, p3⟩
      clear m3
      have m4 := n4.out w3 p3
      clear n4
      go_wp2_with fail
      refine m4.mono ?_
      rintro e w4 ⟨rfl, p4⟩
      obtain ⟨⟨⟨u0a, u0b⟩, u0c⟩, p6⟩ := s5.out w4 p4
      clear m4 s5
      have NX := Lib.hid p6
      clear p6
      go_wp2_with fail
      exact ⟨NX.out.1, NX.out.2⟩
    case withL P1 P2 P3 P4 P5 t v x a la ln lc n1 n2 n3 g0 g1 g2 g3 hw1 s4 n5 =>
      have m2 := n2.out
      have m3 := n3.out
      clear n2 n3
      go_wp2_with fail
      refine n1.mono ?_
      rintro e w1 ⟨rfl, p1⟩
      have m2 := m2 w1 p1
      clear n1
      go_wp2_with fail
      refine m2.mono ?_
      rintro e w2 ⟨rfl, p2⟩
      have m3 := m3 w2 p2
      clear m2
      go_wp2_with fail
      refine m3.mono ?_
      rintro e w3 ⟨rfl, p3⟩
      clear m3
      obtain ⟨⟨u0, u1⟩, p4⟩ := s4.out w3 p3
      obtain ⟨k18, m5⟩ := n5.out _ p4
      obtain ⟨w4, hw4⟩ : ∃ w4, w4 = w3.setCell ⟨r, 1, none⟩ (.int .i64 ((a : Int) + 1)) := ⟨_, rfl⟩
      rw [← hw4] at k18 m5
      have HW4 := Lib.hid hw4
      have M5 := Lib.hid m5
      have K18 := Lib.hid k18
      clear hw4 s4 n5 p4 m5 k18
      go_wp2_with fail
      rw [← HW4.out]
      have k18 := K18.out
      have k18d : w4.drew.cell? ⟨q, 18, none⟩ = some (.slice la ln lc) := K18.out
      clear u0 u1 HW4
      go_region_law (first
        | (refine step_callg rfl _ _ _ rfl ps_entRef #[.pointer (some ⟨r, 0, none⟩)] (by first | rfl | simp [Act.eval, Act.put]) (M5.out.mono ?_); rintro e w5 ⟨rfl, q18, a5, va, vn, vc, w7, hrun, ⟨⟨u5, c5⟩, c6⟩, c7, nx⟩; have q18a := fun o => Lib.cell?_alloc_some (W := w5) o q18; refine ⟨_, rfl, ?_⟩; have HR := Lib.hid hrun; have NX := Lib.hid nx; clear hrun nx)
        | (refine step_append_eq rfl _ _ _ rfl _ _ _ _ rfl rfl HR.out ?_)
        | fail)
      all_goals
        go_wp2_with fail
        exact ⟨NX.out.1, NX.out.2⟩
    case afterL P1 P2 P3 P4 P5 t v x a la ln lc n1 n2 n3 g0 g1 g2 g3 g4 hw1 s4 n5 =>
      have m2 := n2.out
      have m3 := n3.out
      clear n2 n3
      go_wp2_with fail
      refine n1.mono ?_
      rintro e w1 ⟨rfl, p1⟩
      have m2 := m2 w1 p1
      clear n1
      go_wp2_with fail
      refine m2.mono ?_
      rintro e w2 ⟨rfl, p2⟩
      have m3 := m3 w2 p2
      clear m2
      go_wp2_with fail
      refine m3.mono ?_
      rintro e w3 ⟨rfl, p3⟩
      clear m3
      obtain ⟨⟨u0, u1⟩, p4⟩ := s4.out w3 p3
      obtain ⟨k18, m5⟩ := n5.out _ p4
      obtain ⟨w4, hw4⟩ : ∃ w4, w4 = w3.setCell ⟨r, 1, none⟩ (.int .i64 ((a : Int) + 1)) := ⟨_, rfl⟩
      rw [← hw4] at k18 m5
      have HW4 := Lib.hid hw4
      have M5 := Lib.hid m5
      have K18 := Lib.hid k18
      clear hw4 s4 n5 p4 m5 k18
      go_wp2_with fail
      rw [← HW4.out]
      have k18 := K18.out
      have k18d : w4.drew.cell? ⟨q, 18, none⟩ = some (.slice la ln lc) := K18.out
      clear u0 u1 HW4
      go_region_law (first
        | (refine step_callg rfl _ _ _ rfl ps_entRef #[.pointer (some ⟨r, 0, none⟩)] (by first | rfl | simp [Act.eval, Act.put]) (M5.out.mono ?_); rintro e w5 ⟨rfl, q18, a5, va, vn, vc, w7, hrun, ⟨⟨u5, c5⟩, c6⟩, c7, nx⟩; have q18a := fun o => Lib.cell?_alloc_some (W := w5) o q18; refine ⟨_, rfl, ?_⟩; have HR := Lib.hid hrun; have NX := Lib.hid nx; clear hrun nx)
        | (refine step_append_eq rfl _ _ _ rfl _ _ _ _ rfl rfl HR.out ?_)
        | fail)
      all_goals
        go_wp2_with fail
        exact ⟨NX.out.1, NX.out.2⟩
    case none P1 P2 P3 P4 P5 t v n1 n2 n3 g0 g1 g2 g3 g4 n4 =>
      have m2 := n2.out
      have m3 := n3.out
      clear n2 n3
      go_wp2_with fail
      refine n1.mono ?_
      rintro e w1 ⟨rfl, p1⟩
      have m2 := m2 w1 p1
      clear n1
      go_wp2_with fail
      refine m2.mono ?_
      rintro e w2 ⟨rfl, p2⟩
      have m3 := m3 w2 p2
      clear m2
      go_wp2_with fail
      refine m3.mono ?_
      rintro e w3 ⟨rfl, p3⟩
      clear m3
      have m4 := n4.out w3 p3
      clear n4
      go_wp2_with fail
      refine m4.mono ?_
      rintro e w4 ⟨rfl, p4⟩
      clear m4
      have NX := Lib.hid p4
      clear p4
      go_wp2_with fail
      exact ⟨NX.out.1, NX.out.2⟩

end Go.Proofs.YthijakidnkhbnaaGreatDoor

namespace Go.Proofs.YthijakidnkhbnaaGreatDoor
open Go.RowKit

/-- the ways of a round; Nx: the loop's condition, its measure less -/
inductive ChgRound (r q sb : Nat) (Nx Post : World → Prop) (w : World) : Prop
  | done (n1 : Calls Tryz.prog 25 #[.pointer (some ⟨r, 0, none⟩)] w fun e W' => e = .returned (.bool false) ∧ Post W')
  | prioDup (P1 P2 P3 P4 P5 : World → Prop) (t : ByteArray) (v : Int) (n1 : Calls Tryz.prog 25 #[.pointer (some ⟨r, 0, none⟩)] w fun e W' => e = .returned (.bool true) ∧ P1 W') (n2 : Hid (∀ w, P1 w → Calls Tryz.prog 21 #[.pointer (some ⟨r, 0, none⟩)] w fun e W' => e = .returned (.string t) ∧ P2 W')) (n3 : Hid (∀ w, P2 w → Calls Tryz.prog 136 #[.string t] w fun e W' => e = .returned (.int .i64 v) ∧ P3 W')) (hv : 0 ≤ v) (n4 : Hid (∀ w, P3 w → Calls Tryz.prog 137 #[.pointer (some ⟨r, 0, none⟩), .pointer (some ⟨sb, 0, none⟩), .int .i64 0] w fun e W' => e = .returned (.bool false) ∧ Nx W'))
  | prioOk (P1 P2 P3 P4 P5 : World → Prop) (t : ByteArray) (v : Int) (n1 : Calls Tryz.prog 25 #[.pointer (some ⟨r, 0, none⟩)] w fun e W' => e = .returned (.bool true) ∧ P1 W') (n2 : Hid (∀ w, P1 w → Calls Tryz.prog 21 #[.pointer (some ⟨r, 0, none⟩)] w fun e W' => e = .returned (.string t) ∧ P2 W')) (n3 : Hid (∀ w, P2 w → Calls Tryz.prog 136 #[.string t] w fun e W' => e = .returned (.int .i64 v) ∧ P3 W')) (hv : 0 ≤ v) (n4 : Hid (∀ w, P3 w → Calls Tryz.prog 137 #[.pointer (some ⟨r, 0, none⟩), .pointer (some ⟨sb, 0, none⟩), .int .i64 0] w fun e W' => e = .returned (.bool true) ∧ P4 W')) (s5 : Hid (∀ w, P4 w → (((∃ u, w.cell? ⟨q, 21, none⟩ = some u) ∧ w.frozen? ⟨q, 21, none⟩ = false) ∧ ((∃ u, w.cell? ⟨q, 25, none⟩ = some u) ∧ w.frozen? ⟨q, 25, none⟩ = false) ∧ ((∃ u, (w.setCell ⟨q, 21, none⟩ (.bool true)).cell? ⟨q, 25, none⟩ = some u) ∧ (w.setCell ⟨q, 21, none⟩ (.bool true)).frozen? ⟨q, 25, none⟩ = false)) ∧ Nx ((w.setCell ⟨q, 21, none⟩ (.bool true)).setCell ⟨q, 25, none⟩ (.int .i64 v))))
  | partDup (P1 P2 P3 P4 P5 : World → Prop) (t : ByteArray) (v : Int) (n1 : Calls Tryz.prog 25 #[.pointer (some ⟨r, 0, none⟩)] w fun e W' => e = .returned (.bool true) ∧ P1 W') (n2 : Hid (∀ w, P1 w → Calls Tryz.prog 21 #[.pointer (some ⟨r, 0, none⟩)] w fun e W' => e = .returned (.string t) ∧ P2 W')) (n3 : Hid (∀ w, P2 w → Calls Tryz.prog 136 #[.string t] w fun e W' => e = .returned (.int .i64 (-1)) ∧ P3 W')) (g0 : (t.toList == ([112, 97, 114, 116, 105, 97, 108] : List UInt8)) = true) (n4 : Hid (∀ w, P3 w → Calls Tryz.prog 137 #[.pointer (some ⟨r, 0, none⟩), .pointer (some ⟨sb, 0, none⟩), .int .i64 1] w fun e W' => e = .returned (.bool false) ∧ Nx W'))
  | partOk (P1 P2 P3 P4 P5 : World → Prop) (t : ByteArray) (v : Int) (x : Int) (n1 : Calls Tryz.prog 25 #[.pointer (some ⟨r, 0, none⟩)] w fun e W' => e = .returned (.bool true) ∧ P1 W') (n2 : Hid (∀ w, P1 w → Calls Tryz.prog 21 #[.pointer (some ⟨r, 0, none⟩)] w fun e W' => e = .returned (.string t) ∧ P2 W')) (n3 : Hid (∀ w, P2 w → Calls Tryz.prog 136 #[.string t] w fun e W' => e = .returned (.int .i64 (-1)) ∧ P3 W')) (g0 : (t.toList == ([112, 97, 114, 116, 105, 97, 108] : List UInt8)) = true) (n4 : Hid (∀ w, P3 w → Calls Tryz.prog 137 #[.pointer (some ⟨r, 0, none⟩), .pointer (some ⟨sb, 0, none⟩), .int .i64 1] w fun e W' => e = .returned (.bool true) ∧ P4 W')) (n5 : Hid (∀ w, P4 w → Calls Tryz.prog 138 #[.pointer (some ⟨r, 0, none⟩)] w fun e W' => e = .returned (.int .i64 x) ∧ P5 W')) (s5 : Hid (∀ w, P5 w → (((∃ u, w.cell? ⟨q, 22, none⟩ = some u) ∧ w.frozen? ⟨q, 22, none⟩ = false) ∧ ((∃ u, w.cell? ⟨q, 26, none⟩ = some u) ∧ w.frozen? ⟨q, 26, none⟩ = false) ∧ ((∃ u, (w.setCell ⟨q, 22, none⟩ (.bool true)).cell? ⟨q, 26, none⟩ = some u) ∧ (w.setCell ⟨q, 22, none⟩ (.bool true)).frozen? ⟨q, 26, none⟩ = false) ∧ ((∃ u, w.cell? ⟨q, 27, none⟩ = some u) ∧ w.frozen? ⟨q, 27, none⟩ = false) ∧ ((∃ u, (w.setCell ⟨q, 22, none⟩ (.bool true)).cell? ⟨q, 27, none⟩ = some u) ∧ (w.setCell ⟨q, 22, none⟩ (.bool true)).frozen? ⟨q, 27, none⟩ = false) ∧ ((∃ u, ((w.setCell ⟨q, 22, none⟩ (.bool true)).setCell ⟨q, 26, none⟩ (.bool true)).cell? ⟨q, 27, none⟩ = some u) ∧ ((w.setCell ⟨q, 22, none⟩ (.bool true)).setCell ⟨q, 26, none⟩ (.bool true)).frozen? ⟨q, 27, none⟩ = false)) ∧ Nx (((w.setCell ⟨q, 22, none⟩ (.bool true)).setCell ⟨q, 26, none⟩ (.bool true)).setCell ⟨q, 27, none⟩ (.int .i64 x))))
  | whole (P1 P2 P3 P4 P5 : World → Prop) (t : ByteArray) (v : Int) (b : Bool) (n1 : Calls Tryz.prog 25 #[.pointer (some ⟨r, 0, none⟩)] w fun e W' => e = .returned (.bool true) ∧ P1 W') (n2 : Hid (∀ w, P1 w → Calls Tryz.prog 21 #[.pointer (some ⟨r, 0, none⟩)] w fun e W' => e = .returned (.string t) ∧ P2 W')) (n3 : Hid (∀ w, P2 w → Calls Tryz.prog 136 #[.string t] w fun e W' => e = .returned (.int .i64 (-1)) ∧ P3 W')) (g0 : (t.toList == ([112, 97, 114, 116, 105, 97, 108] : List UInt8)) = false) (g1 : (t.toList == ([119, 104, 111, 108, 101] : List UInt8)) = true) (n4 : Hid (∀ w, P3 w → Calls Tryz.prog 137 #[.pointer (some ⟨r, 0, none⟩), .pointer (some ⟨sb, 0, none⟩), .int .i64 1] w fun e W' => e = .returned (.bool b) ∧ P4 W')) (s5 : Hid (∀ w, P4 w → (((∃ u, w.cell? ⟨q, 22, none⟩ = some u) ∧ w.frozen? ⟨q, 22, none⟩ = false)) ∧ Nx (w.setCell ⟨q, 22, none⟩ (.bool b))))
  | amtDup (P1 P2 P3 P4 P5 : World → Prop) (t : ByteArray) (v : Int) (n1 : Calls Tryz.prog 25 #[.pointer (some ⟨r, 0, none⟩)] w fun e W' => e = .returned (.bool true) ∧ P1 W') (n2 : Hid (∀ w, P1 w → Calls Tryz.prog 21 #[.pointer (some ⟨r, 0, none⟩)] w fun e W' => e = .returned (.string t) ∧ P2 W')) (n3 : Hid (∀ w, P2 w → Calls Tryz.prog 136 #[.string t] w fun e W' => e = .returned (.int .i64 (-1)) ∧ P3 W')) (g0 : (t.toList == ([112, 97, 114, 116, 105, 97, 108] : List UInt8)) = false) (g1 : (t.toList == ([119, 104, 111, 108, 101] : List UInt8)) = false) (g2 : (t.toList == ([97, 109, 111, 117, 110, 116] : List UInt8)) = true) (n4 : Hid (∀ w, P3 w → Calls Tryz.prog 137 #[.pointer (some ⟨r, 0, none⟩), .pointer (some ⟨sb, 0, none⟩), .int .i64 4] w fun e W' => e = .returned (.bool false) ∧ Nx W'))
  | amtOk (P1 P2 P3 P4 P5 : World → Prop) (t : ByteArray) (v : Int) (x : Int) (n1 : Calls Tryz.prog 25 #[.pointer (some ⟨r, 0, none⟩)] w fun e W' => e = .returned (.bool true) ∧ P1 W') (n2 : Hid (∀ w, P1 w → Calls Tryz.prog 21 #[.pointer (some ⟨r, 0, none⟩)] w fun e W' => e = .returned (.string t) ∧ P2 W')) (n3 : Hid (∀ w, P2 w → Calls Tryz.prog 136 #[.string t] w fun e W' => e = .returned (.int .i64 (-1)) ∧ P3 W')) (g0 : (t.toList == ([112, 97, 114, 116, 105, 97, 108] : List UInt8)) = false) (g1 : (t.toList == ([119, 104, 111, 108, 101] : List UInt8)) = false) (g2 : (t.toList == ([97, 109, 111, 117, 110, 116] : List UInt8)) = true) (n4 : Hid (∀ w, P3 w → Calls Tryz.prog 137 #[.pointer (some ⟨r, 0, none⟩), .pointer (some ⟨sb, 0, none⟩), .int .i64 4] w fun e W' => e = .returned (.bool true) ∧ P4 W')) (n5 : Hid (∀ w, P4 w → Calls Tryz.prog 90 #[.pointer (some ⟨r, 0, none⟩)] w fun e W' => e = .returned (.int .i64 x) ∧ P5 W')) (s5 : Hid (∀ w, P5 w → (((∃ u, w.cell? ⟨q, 19, none⟩ = some u) ∧ w.frozen? ⟨q, 19, none⟩ = false) ∧ ((∃ u, w.cell? ⟨q, 23, none⟩ = some u) ∧ w.frozen? ⟨q, 23, none⟩ = false) ∧ ((∃ u, (w.setCell ⟨q, 19, none⟩ (.bool true)).cell? ⟨q, 23, none⟩ = some u) ∧ (w.setCell ⟨q, 19, none⟩ (.bool true)).frozen? ⟨q, 23, none⟩ = false)) ∧ Nx ((w.setCell ⟨q, 19, none⟩ (.bool true)).setCell ⟨q, 23, none⟩ (.int .i64 x))))
  | dayDup (P1 P2 P3 P4 P5 : World → Prop) (t : ByteArray) (v : Int) (n1 : Calls Tryz.prog 25 #[.pointer (some ⟨r, 0, none⟩)] w fun e W' => e = .returned (.bool true) ∧ P1 W') (n2 : Hid (∀ w, P1 w → Calls Tryz.prog 21 #[.pointer (some ⟨r, 0, none⟩)] w fun e W' => e = .returned (.string t) ∧ P2 W')) (n3 : Hid (∀ w, P2 w → Calls Tryz.prog 136 #[.string t] w fun e W' => e = .returned (.int .i64 (-1)) ∧ P3 W')) (g0 : (t.toList == ([112, 97, 114, 116, 105, 97, 108] : List UInt8)) = false) (g1 : (t.toList == ([119, 104, 111, 108, 101] : List UInt8)) = false) (g2 : (t.toList == ([97, 109, 111, 117, 110, 116] : List UInt8)) = false) (g3 : (t.toList == ([100, 97, 121] : List UInt8)) = true) (n4 : Hid (∀ w, P3 w → Calls Tryz.prog 137 #[.pointer (some ⟨r, 0, none⟩), .pointer (some ⟨sb, 0, none⟩), .int .i64 5] w fun e W' => e = .returned (.bool false) ∧ Nx W'))
  | dayOk (P1 P2 P3 P4 P5 : World → Prop) (t : ByteArray) (v : Int) (x : Int) (n1 : Calls Tryz.prog 25 #[.pointer (some ⟨r, 0, none⟩)] w fun e W' => e = .returned (.bool true) ∧ P1 W') (n2 : Hid (∀ w, P1 w → Calls Tryz.prog 21 #[.pointer (some ⟨r, 0, none⟩)] w fun e W' => e = .returned (.string t) ∧ P2 W')) (n3 : Hid (∀ w, P2 w → Calls Tryz.prog 136 #[.string t] w fun e W' => e = .returned (.int .i64 (-1)) ∧ P3 W')) (g0 : (t.toList == ([112, 97, 114, 116, 105, 97, 108] : List UInt8)) = false) (g1 : (t.toList == ([119, 104, 111, 108, 101] : List UInt8)) = false) (g2 : (t.toList == ([97, 109, 111, 117, 110, 116] : List UInt8)) = false) (g3 : (t.toList == ([100, 97, 121] : List UInt8)) = true) (n4 : Hid (∀ w, P3 w → Calls Tryz.prog 137 #[.pointer (some ⟨r, 0, none⟩), .pointer (some ⟨sb, 0, none⟩), .int .i64 5] w fun e W' => e = .returned (.bool true) ∧ P4 W')) (n5 : Hid (∀ w, P4 w → Calls Tryz.prog 91 #[.pointer (some ⟨r, 0, none⟩)] w fun e W' => e = .returned (.int .i64 x) ∧ P5 W')) (s5 : Hid (∀ w, P5 w → (((∃ u, w.cell? ⟨q, 20, none⟩ = some u) ∧ w.frozen? ⟨q, 20, none⟩ = false) ∧ ((∃ u, w.cell? ⟨q, 24, none⟩ = some u) ∧ w.frozen? ⟨q, 24, none⟩ = false) ∧ ((∃ u, (w.setCell ⟨q, 20, none⟩ (.bool true)).cell? ⟨q, 24, none⟩ = some u) ∧ (w.setCell ⟨q, 20, none⟩ (.bool true)).frozen? ⟨q, 24, none⟩ = false)) ∧ Nx ((w.setCell ⟨q, 20, none⟩ (.bool true)).setCell ⟨q, 24, none⟩ (.int .i64 x))))
  | none (P1 P2 P3 P4 P5 : World → Prop) (t : ByteArray) (v : Int) (n1 : Calls Tryz.prog 25 #[.pointer (some ⟨r, 0, none⟩)] w fun e W' => e = .returned (.bool true) ∧ P1 W') (n2 : Hid (∀ w, P1 w → Calls Tryz.prog 21 #[.pointer (some ⟨r, 0, none⟩)] w fun e W' => e = .returned (.string t) ∧ P2 W')) (n3 : Hid (∀ w, P2 w → Calls Tryz.prog 136 #[.string t] w fun e W' => e = .returned (.int .i64 (-1)) ∧ P3 W')) (g0 : (t.toList == ([112, 97, 114, 116, 105, 97, 108] : List UInt8)) = false) (g1 : (t.toList == ([119, 104, 111, 108, 101] : List UInt8)) = false) (g2 : (t.toList == ([97, 109, 111, 117, 110, 116] : List UInt8)) = false) (g3 : (t.toList == ([100, 97, 121] : List UInt8)) = false) (n4 : Hid (∀ w, P3 w → Calls Tryz.prog 24 #[.pointer (some ⟨r, 0, none⟩), .int .i64 30] w fun e W' => e = .returned (.tuple #[]) ∧ Nx W'))

set_option maxRecDepth 100000 in
set_option maxHeartbeats 8000000 in
theorem ps_changesL (W : World) (r q : Nat) (Inv Post : World → Prop) (μ : World → Nat) 
    (n0 : Calls Tryz.prog 20 #[.pointer (some ⟨r, 0, none⟩)] (W.alloc (.cells #[.bool false, .bool false, .bool false, .bool false, .bool false, .bool false] 163)) fun e W' => e = .returned (.bool true) ∧ Inv W')
    (hr : Hid (∀ w, Inv w → ChgRound r q W.heap.size (fun w' => Inv w' ∧ μ w' < μ w) Post w)) :
    Calls Tryz.prog 96 #[.pointer (some ⟨r, 0, none⟩), .pointer (some ⟨q, 19, none⟩)] W fun e W' => e = .returned (.tuple #[]) ∧ Post W' := by
  obtain ⟨sb, hsb⟩ : ∃ sb, sb = W.heap.size := ⟨_, rfl⟩
  rw [← hsb] at hr
  go_enter Tryz.func96, Tryz.ntmps96
  go_wp2_with fail
  refine n0.mono ?_
  rintro e w0 ⟨rfl, h0⟩
  have H0 := Lib.hid h0
  clear n0 h0
  go_wp2_with fail
  rw [← hsb]
  clear hsb
  go_loopw [5, 6] (fun _ _ wr => Hid (Inv wr)) (fun _ _ wr => μ wr)
  case atStart => exact H0
  case round =>
    have hrd := hr.out wr hrel.out
    clear H0 hr hrel
    cases hrd
    case done n1 =>
      go_wp2_with fail
      refine n1.mono ?_
      rintro e w1 ⟨rfl, p1⟩
      clear n1
      go_wp2_with fail
      go_end0
      exact ⟨rfl, p1⟩
    case prioDup P1 P2 P3 P4 P5 t v n1 n2 n3 hv n4 =>
      have m2 := n2.out
      have m3 := n3.out
      clear n2 n3
      go_wp2_with fail
      refine n1.mono ?_
      rintro e w1 ⟨rfl, p1⟩
      have m2 := m2 w1 p1
      clear n1
      go_wp2_with fail
      refine m2.mono ?_
      rintro e w2 ⟨rfl, p2⟩
      have m3 := m3 w2 p2
      clear m2
      go_wp2_with fail
      refine m3.mono ?_
      rintro e w3 ⟨rfl, p3⟩
      clear m3
      have m4 := n4.out w3 p3
      clear n4
      go_wp2_with fail
      refine m4.mono ?_
      rintro e w4 ⟨rfl, p4⟩
      clear m4
      have NX := Lib.hid p4
      clear p4
      go_wp2_with fail
      exact ⟨NX.out.1, NX.out.2⟩
    case prioOk P1 P2 P3 P4 P5 t v n1 n2 n3 hv n4 s5 =>
      have m2 := n2.out
      have m3 := n3.out
      clear n2 n3
      go_wp2_with fail
      refine n1.mono ?_
      rintro e w1 ⟨rfl, p1⟩
      have m2 := m2 w1 p1
      clear n1
      go_wp2_with fail
      refine m2.mono ?_
      rintro e w2 ⟨rfl, p2⟩
      have m3 := m3 w2 p2
      clear m2
      go_wp2_with fail
      refine m3.mono ?_
      rintro e w3 ⟨rfl, p3⟩
      clear m3
      have m4 := n4.out w3 p3
      clear n4
      go_wp2_with fail
      refine m4.mono ?_
      rintro e w4 ⟨rfl, p4⟩
      obtain ⟨⟨⟨⟨u0a, u0b⟩, u0c⟩, ⟨⟨u1a, u1b⟩, u1c⟩, ⟨⟨u2a, u2b⟩, u2c⟩⟩, p5⟩ := s5.out w4 p4
      clear m4 s5
      have NX := Lib.hid p5
      clear p5
      go_wp2_with fail
      exact ⟨NX.out.1, NX.out.2⟩
    case partDup P1 P2 P3 P4 P5 t v n1 n2 n3 g0 n4 =>
      have m2 := n2.out
      have m3 := n3.out
      clear n2 n3
      go_wp2_with fail
      refine n1.mono ?_
      rintro e w1 ⟨rfl, p1⟩
      have m2 := m2 w1 p1
      clear n1
      go_wp2_with fail
      refine m2.mono ?_
      rintro e w2 ⟨rfl, p2⟩
      have m3 := m3 w2 p2
      clear m2
      go_wp2_with fail
      refine m3.mono ?_
      rintro e w3 ⟨rfl, p3⟩
      clear m3
      have m4 := n4.out w3 p3
      clear n4
      go_wp2_with fail
      refine m4.mono ?_
      rintro e w4 ⟨rfl, p4⟩
      clear m4
      have NX := Lib.hid p4
      clear p4
      go_wp2_with fail
      exact ⟨NX.out.1, NX.out.2⟩
    case partOk P1 P2 P3 P4 P5 t v x n1 n2 n3 g0 n4 n5 s5 =>
      have m2 := n2.out
      have m3 := n3.out
      clear n2 n3
      go_wp2_with fail
      refine n1.mono ?_
      rintro e w1 ⟨rfl, p1⟩
      have m2 := m2 w1 p1
      clear n1
      go_wp2_with fail
      refine m2.mono ?_
      rintro e w2 ⟨rfl, p2⟩
      have m3 := m3 w2 p2
      clear m2
      go_wp2_with fail
      refine m3.mono ?_
      rintro e w3 ⟨rfl, p3⟩
      clear m3
      have m4 := n4.out w3 p3
      clear n4
      go_wp2_with fail
      refine m4.mono ?_
      rintro e w4 ⟨rfl, p4⟩
      have m5 := n5.out w4 p4
      clear m4 n5
      go_wp2_with fail
      refine m5.mono ?_
      rintro e w5 ⟨rfl, p5⟩
      obtain ⟨⟨⟨⟨u0a, u0b⟩, u0c⟩, ⟨⟨u1a, u1b⟩, u1c⟩, ⟨⟨u2a, u2b⟩, u2c⟩, ⟨⟨u3a, u3b⟩, u3c⟩, ⟨⟨u4a, u4b⟩, u4c⟩, ⟨⟨u5a, u5b⟩, u5c⟩⟩, p6⟩ := s5.out w5 p5
      clear m5 s5
      have NX := Lib.hid p6
      clear p6
      go_wp2_with fail
      exact ⟨NX.out.1, NX.out.2⟩
    case whole P1 P2 P3 P4 P5 t v b n1 n2 n3 g0 g1 n4 s5 =>
      have m2 := n2.out
      have m3 := n3.out
      clear n2 n3
      go_wp2_with fail
      refine n1.mono ?_
      rintro e w1 ⟨rfl, p1⟩
      have m2 := m2 w1 p1
      clear n1
      go_wp2_with fail
      refine m2.mono ?_
      rintro e w2 ⟨rfl, p2⟩
      have m3 := m3 w2 p2
      clear m2
      go_wp2_with fail
      refine m3.mono ?_
      rintro e w3 ⟨rfl, p3⟩
      clear m3
      have m4 := n4.out w3 p3
      clear n4
      go_wp2_with fail
      refine m4.mono ?_
      rintro e w4 ⟨rfl, p4⟩
      obtain ⟨⟨⟨u0a, u0b⟩, u0c⟩, p6⟩ := s5.out w4 p4
      clear m4 s5
      have NX := Lib.hid p6
      clear p6
      go_wp2_with fail
      exact ⟨NX.out.1, NX.out.2⟩
    case amtDup P1 P2 P3 P4 P5 t v n1 n2 n3 g0 g1 g2 n4 =>
      have m2 := n2.out
      have m3 := n3.out
      clear n2 n3
      go_wp2_with fail
      refine n1.mono ?_
      rintro e w1 ⟨rfl, p1⟩
      have m2 := m2 w1 p1
      clear n1
      go_wp2_with fail
      refine m2.mono ?_
      rintro e w2 ⟨rfl, p2⟩
      have m3 := m3 w2 p2
      clear m2
      go_wp2_with fail
      refine m3.mono ?_
      rintro e w3 ⟨rfl, p3⟩
      clear m3
      have m4 := n4.out w3 p3
      clear n4
      go_wp2_with fail
      refine m4.mono ?_
      rintro e w4 ⟨rfl, p4⟩
      clear m4
      have NX := Lib.hid p4
      clear p4
      go_wp2_with fail
      exact ⟨NX.out.1, NX.out.2⟩
    case amtOk P1 P2 P3 P4 P5 t v x n1 n2 n3 g0 g1 g2 n4 n5 s5 =>
      have m2 := n2.out
      have m3 := n3.out
      clear n2 n3
      go_wp2_with fail
      refine n1.mono ?_
      rintro e w1 ⟨rfl, p1⟩
      have m2 := m2 w1 p1
      clear n1
      go_wp2_with fail
      refine m2.mono ?_
      rintro e w2 ⟨rfl, p2⟩
      have m3 := m3 w2 p2
      clear m2
      go_wp2_with fail
      refine m3.mono ?_
      rintro e w3 ⟨rfl, p3⟩
      clear m3
      have m4 := n4.out w3 p3
      clear n4
      go_wp2_with fail
      refine m4.mono ?_
      rintro e w4 ⟨rfl, p4⟩
      have m5 := n5.out w4 p4
      clear m4 n5
      go_wp2_with fail
      refine m5.mono ?_
      rintro e w5 ⟨rfl, p5⟩
      obtain ⟨⟨⟨⟨u0a, u0b⟩, u0c⟩, ⟨⟨u1a, u1b⟩, u1c⟩, ⟨⟨u2a, u2b⟩, u2c⟩⟩, p6⟩ := s5.out w5 p5
      clear m5 s5
      have NX := Lib.hid p6
      clear p6
      go_wp2_with fail
      exact ⟨NX.out.1, NX.out.2⟩
    case dayDup P1 P2 P3 P4 P5 t v n1 n2 n3 g0 g1 g2 g3 n4 =>
      have m2 := n2.out
      have m3 := n3.out
      clear n2 n3
      go_wp2_with fail
      refine n1.mono ?_
      rintro e w1 ⟨rfl, p1⟩
      have m2 := m2 w1 p1
      clear n1
      go_wp2_with fail
      refine m2.mono ?_
      rintro e w2 ⟨rfl, p2⟩
      have m3 := m3 w2 p2
      clear m2
      go_wp2_with fail
      refine m3.mono ?_
      rintro e w3 ⟨rfl, p3⟩
      clear m3
      have m4 := n4.out w3 p3
      clear n4
      go_wp2_with fail
      refine m4.mono ?_
      rintro e w4 ⟨rfl, p4⟩
      clear m4
      have NX := Lib.hid p4
      clear p4
      go_wp2_with fail
      exact ⟨NX.out.1, NX.out.2⟩
    case dayOk P1 P2 P3 P4 P5 t v x n1 n2 n3 g0 g1 g2 g3 n4 n5 s5 =>
      have m2 := n2.out
      have m3 := n3.out
      clear n2 n3
      go_wp2_with fail
      refine n1.mono ?_
      rintro e w1 ⟨rfl, p1⟩
      have m2 := m2 w1 p1
      clear n1
      go_wp2_with fail
      refine m2.mono ?_
      rintro e w2 ⟨rfl, p2⟩
      have m3 := m3 w2 p2
      clear m2
      go_wp2_with fail
      refine m3.mono ?_
      rintro e w3 ⟨rfl, p3⟩
      clear m3
      have m4 := n4.out w3 p3
      clear n4
      go_wp2_with fail
      refine m4.mono ?_
      rintro e w4 ⟨rfl, p4⟩
      have m5 := n5.out w4 p4
      clear m4 n5
      go_wp2_with fail
      refine m5.mono ?_
      rintro e w5 ⟨rfl, p5⟩
      obtain ⟨⟨⟨⟨u0a, u0b⟩, u0c⟩, ⟨⟨u1a, u1b⟩, u1c⟩, ⟨⟨u2a, u2b⟩, u2c⟩⟩, p6⟩ := s5.out w5 p5
      clear m5 s5
      have NX := Lib.hid p6
      clear p6
      go_wp2_with fail
      exact ⟨NX.out.1, NX.out.2⟩
    case none P1 P2 P3 P4 P5 t v n1 n2 n3 g0 g1 g2 g3 n4 =>
      have m2 := n2.out
      have m3 := n3.out
      clear n2 n3
      go_wp2_with fail
      refine n1.mono ?_
      rintro e w1 ⟨rfl, p1⟩
      have m2 := m2 w1 p1
      clear n1
      go_wp2_with fail
      refine m2.mono ?_
      rintro e w2 ⟨rfl, p2⟩
      have m3 := m3 w2 p2
      clear m2
      go_wp2_with fail
      refine m3.mono ?_
      rintro e w3 ⟨rfl, p3⟩
      clear m3
      have m4 := n4.out w3 p3
      clear n4
      go_wp2_with fail
      refine m4.mono ?_
      rintro e w4 ⟨rfl, p4⟩
      clear m4
      have NX := Lib.hid p4
      clear p4
      go_wp2_with fail
      exact ⟨NX.out.1, NX.out.2⟩

end Go.Proofs.YthijakidnkhbnaaGreatDoor

namespace Go.Proofs.YthijakidnkhbnaaGreatDoor
open Go.RowKit

theorem QrAt.below {W0 W : World} {r tb cap q B : Nat} {l : List Ps.Tok} {st : Ps.St} {Q : Ps.Req} {w w' : World} (h : QrAt W0 W r tb cap q l B st Q w) (hb : Below w.heap.size w w') : QrAt W0 W r tb cap q l B st Q w' := h.step (h.rd.below hb) (Tch.of_below hb)
theorem QrAt.drewN {W0 W : World} {r tb cap q B : Nat} {l : List Ps.Tok} {st : Ps.St} {Q : Ps.Req} {w : World} (h : QrAt W0 W r tb cap q l B st Q w) (k : Nat) : QrAt W0 W r tb cap q l B st Q (w.drewN k) := h.below (below_drewN' (Below.refl _ _) k)

/-- the measure of a reader's loop -/
def rdMeas (n r : Nat) (w : World) : Nat := match w.cell? ⟨r, 3, none⟩, w.cell? ⟨r, 1, none⟩ with
  | some (.int _ e), some (.int _ a) => if e = 0 then n + 1 - a.toNat else 0
  | _, _ => 0
def stMeas (n : Nat) : Ps.St → Nat
  | .ok a => n + 1 - a
  | .error _ => 0
theorem rdMeas_eq {W : World} {r tb cap : Nat} {l : List Ps.Tok} {st : Ps.St} (h : RdSt W r tb cap l st) : rdMeas l.length r W = stMeas l.length st := by
  obtain ⟨a, o, e, hr, -, -, -, -, -, hst⟩ := h
  obtain ⟨-, k1, -, k3, -⟩ := ps_rows hr
  unfold rdMeas
  rw [k3, k1]
  cases st with
  | ok b =>
    obtain ⟨rfl, rfl, -⟩ := hst
    simp [stMeas]
  | error er =>
    obtain ⟨-, -, he⟩ := hst
    simp [stMeas, he]
theorem stMeas_take {α : Type} {l : List Ps.Tok} {F : ByteArray → α × Int} {ks : List Int} {z : α} {a : Nat} (h : a < l.length) : stMeas l.length (Ps.step (Ps.take l F ks) z (.ok (a + 1))).2 < stMeas l.length (.ok a) := by
  cases hq : Ps.take l F ks (a + 1) with
  | error e => rw [Ps.step_er hq]; show 0 < l.length + 1 - a; omega
  | ok x =>
    obtain ⟨x, b⟩ := x
    rw [Ps.step_ok hq]
    have := Ps.take_next hq
    show l.length + 1 - b < l.length + 1 - a
    omega

def snL (s : Ps.Seen) : List Bool := [s.prio, s.part, s.hold, s.res, s.amount, s.day]

/-- once, beside a request and its links -/
theorem qr_once {W0 W : World} {r tb cap q sb B a : Nat} {l : List Ps.Tok} {Q : Ps.Req} {w : World} (h : QrAt W0 W r tb cap q l B (.ok a) Q w) (hlt : a < l.length) (sn : List Bool) (t : TypeId) (hs : w.heap[sb]? = some (.cells (snCells sn) t (0, 0)))
    (hsr : sb ≠ r) (hsq : sb ≠ q) (hst : sb ≠ tb) (hW : W.heap.size ≤ sb) (h0 : W0.heap.size ≤ sb) (hsB : sb < B) (p : Nat) (hp : p < 6) (b : Bool) (hb : sn[p]? = some b) :
    Calls Tryz.prog 137 #[.pointer (some ⟨r, 0, none⟩), .pointer (some ⟨sb, 0, none⟩), .int .i64 p] w fun e W' => e = .returned (.bool (!b)) ∧
      QrAt W0 W r tb cap q l B (if b = true then .error (Ps.offAt l a, 7) else .ok (a + 1)) Q W' ∧ W'.heap[sb]? = some (.cells (snCells (sn.set p true)) t (0, 0)) := by
  obtain ⟨hr, hq, lv, h1, h2⟩ := h
  exact (ps_once h1 hlt sn t hs hsr hsq hst hW h0 p hp b hb).mono fun e W' ⟨c1, c2, c3, c4⟩ => ⟨c1, ⟨hr, hq, lv, c2, h2.keep c4 hr hsB⟩, c3⟩

/-- the next token -/
theorem RqAt.inc {W0 W : World} {r tb cap q a : Nat} {l : List Ps.Tok} {cs : Array Value} {w : World} (h : RqAt W0 W r tb cap q l (.ok a) cs w) (hlt : a < l.length) :
    (w.cell? ⟨r, 1, none⟩ = some (.int .i64 a) ∧ w.frozen? ⟨r, 1, none⟩ = false) ∧ RqAt W0 W r tb cap q l (.ok (a + 1)) cs (w.setCell ⟨r, 1, none⟩ (.int .i64 ((a : Int) + 1))) ∧ Tch r r w (w.setCell ⟨r, 1, none⟩ (.int .i64 ((a : Int) + 1))) := by
  obtain ⟨a', o, e, hr, ht, hne, hpos, hcap, hmany, hst⟩ := h.1.rd
  obtain ⟨rfl, rfl, hle⟩ := hst
  obtain ⟨-, k1, -, -, -⟩ := ps_rows hr
  have hT : Tch r r w (w.setCell ⟨r, 1, none⟩ (.int .i64 ((a' : Int) + 1))) := (Tch.refl r r w).setCell 1 _
  refine ⟨⟨k1, ps_frozen 1 hr⟩, h.step (h.1.next ⟨a' + 1, o, 0, ?_, ht.tch hT hne hne, hne, hpos, hcap, hmany, rfl, rfl, hlt⟩ hT) hT, hT⟩
  have := ps_setCell w r 1 _ _ (.int .i64 ((a' : Int) + 1)) hr
  exact this

theorem infoLink : (Tryz.prog.info? 117).map (fun i => (i.zero, i.size, i.bytes)) = some (some (.agg #[.int .i64 0, .string ⟨#[]⟩]), 2, 24) := by kernel_rfl

/-- a link is appended, the slice stored -/
theorem qr_link {W0 W : World} {r tb cap q B : Nat} {l : List Ps.Tok} {st : Ps.St} {Q : Ps.Req} {la : Option Addr} {lc : Nat} {w : World} (hrB : r < B) (hqB : q < B) (htl : tb < B) (h : RqAt W0 W r tb cap q l st (reqCells Q (.slice la Q.ins.links.length lc)) w) (hl : LkAt w B (.slice la Q.ins.links.length lc) Q.ins.links) (hB : B ≤ w.heap.size) (hW : W.heap.size ≤ B)
    (hlen : Q.ins.links.length ≤ 1000000) (ty : Int) (x : ByteArray) (Nx : World → Prop)
    (hn : ∀ w', QrAt W0 W r tb cap q l B st { Q with ins := { Q.ins with links := Q.ins.links ++ [⟨ty, x⟩] } } w' → (∀ j, j < B → j ≠ q → w'.heap[j]? = w.heap[j]?) → Nx w') :
    LkNext q la Q.ins.links.length lc ty x Nx w := by
  obtain ⟨n, hnn⟩ : ∃ n, n = Q.ins.links.length := ⟨_, rfl⟩
  obtain ⟨i0, hii, hz0, hz1, hz2⟩ := info_parts infoLink
  have hrow3 := heap_alloc_new w (.cells #[.int .i64 ty, .string x] 117)
  have hba := (Below.refl w.heap.size w).alloc (Nat.le_refl _) (.cells #[.int .i64 ty, .string x] 117)
  have hl3 : (w.alloc (.cells #[.int .i64 ty, .string x] 117)).ownsRow B 117 2 (.slice la Q.ins.links.length lc) Q.ins.links.length (lkCells Q.ins.links) := own_keep hl (fun g hg => hba.block g (hl.lt g hg).2)
  obtain ⟨v9, w9, hr9, ho9, hg9, hat9⟩ := own_append (w := w.alloc (.cells #[.int .i64 ty, .string x] 117)) 23 23 117 i0 (.agg #[.int .i64 0, .string ⟨#[]⟩]) 2 24 Tryz.underlying23 hii hz0 hz1 hz2 rfl (by decide) B (.slice la Q.ins.links.length lc) Q.ins.links.length (lkCells Q.ins.links)
    hl3 (some ⟨w.heap.size, 0, none⟩) 1 1 [.int .i64 ty, .string x] rfl (fun ad ha => by cases ha; exact World.news_of_block hrow3) (fun e => by cases e) (by intro u hu; simp at hu; rcases hu with rfl | rfl <;> rfl) (by unfold maxLen; omega) (by omega) (Nat.le_trans hB hba.size)
  obtain ⟨va, vc, rfl⟩ := own_slice ho9
  have hblk : ∀ j, j < B → w9.heap[j]? = w.heap[j]? := fun j hj => by
    have h1 : w9.heap[j]? = (w.alloc (.cells #[.int .i64 ty, .string x] 117)).heap[j]? := hg9.block j (by have := hba.size; omega) (fun e => by have := (hl.lt j e.symm).1; omega)
    rw [h1]
    exact hba.block j (by omega)
  obtain ⟨hP, hq, hT, hqr, hqt, hWq⟩ := h
  have hq9 : w9.heap[q]? = some (.cells (reqCells Q (.slice la Q.ins.links.length lc)) 29 (0, 0)) := (hblk q hqB).trans hq
  have hcell : w.cell? ⟨q, 18, none⟩ = some (.slice la Q.ins.links.length lc) := by rw [cell_of_row _ _ _ _ _ _ hq]; rfl
  refine ⟨hcell, rfl, va, _, vc, w9, hr9, ⟨⟨_, by rw [cell_of_row _ _ _ _ _ _ hq9]; rfl⟩, ps_frozen 18 hq9⟩, rfl, hn _ ?_ fun j hj hjq => ?_⟩
  · -- the request behind the store
    have hT9 : Tch r q W w9 := by
      refine ⟨hg9.os.trans (hba.os.trans hT.os), hg9.tape.trans (hba.tape.trans hT.tape), hg9.output.trans (hba.output.trans hT.output), Nat.le_trans hT.size (Nat.le_trans hba.size hg9.size), fun j hj h1 h2 => ?_⟩
      rw [hblk j (by omega)]
      exact hT.block j hj h1 h2
    have hsz9 : w.heap.size ≤ w9.heap.size := Nat.le_trans hba.size hg9.size
    have hb9 : Below W0.heap.size W0 w9 := by
      refine ⟨hg9.os.trans (hba.os.trans hP.base.os), hg9.tape.trans (hba.tape.trans hP.base.tape), hg9.output.trans (hba.output.trans hP.base.output), Nat.le_trans hP.base.size hsz9, fun j hj => ?_⟩
      have := hP.r0
      rw [hblk j (by omega)]
      exact hP.base.block j hj
    have hP9 : PsAt W0 w9 r tb cap l st := by
      refine ⟨?_, hb9, hP.r0⟩
      obtain ⟨a, o, e, hr, ht, hne, rest⟩ := hP.rd
      refine ⟨a, o, e, (hblk r hrB).trans hr, fun k y hy => ?_, hne, rest⟩
      obtain ⟨e0, e1, e2⟩ := ht k y hy
      exact ⟨(World.cell?_of_block (a := ⟨tb, _, none⟩) (hblk tb htl)).trans e0, (World.cell?_of_block (a := ⟨tb, _, none⟩) (hblk tb htl)).trans e1, (World.cell?_of_block (a := ⟨tb, _, none⟩) (hblk tb htl)).trans e2⟩
    have hR9 : RqAt W0 W r tb cap q l st (reqCells Q (.slice la Q.ins.links.length lc)) w9 := ⟨hP9, hq9, hT9, hqr, hqt, hWq⟩
    have hs := hR9.store 18 (.slice va (Q.ins.links.length + 1) vc)
    refine ⟨hrB, hqB, .slice va (Q.ins.links.length + 1) vc, hs, ?_⟩
    have ho10 : LkAt (w9.setCell ⟨q, 18, none⟩ (.slice va (Q.ins.links.length + 1) vc)) B (.slice va (Q.ins.links.length + 1) vc) (Q.ins.links ++ [⟨ty, x⟩]) := by
      unfold LkAt
      rw [lkCells_snoc, List.length_append]
      refine own_keep ho9 fun g hg => ?_
      have := (ho9.lt g hg).1
      exact ((Tch.refl q q w9).setCell 18 _).block g (ho9.lt g hg).2 (by omega) (by omega)
    exact ho10
  · have h1 := ((Tch.refl q q w9).setCell 18 (.slice va (Q.ins.links.length + 1) vc)).block j (by have := hg9.size; have := hba.size; omega) hjq hjq
    rw [h1]
    exact hblk j hj

end Go.Proofs.YthijakidnkhbnaaGreatDoor

namespace Go.Proofs.YthijakidnkhbnaaGreatDoor
open Go.RowKit

theorem QrAt.mono {W0 W : World} {r tb cap q B B' : Nat} {l : List Ps.Tok} {st : Ps.St} {Q : Ps.Req} {w : World} (h : QrAt W0 W r tb cap q l B st Q w) (hB : B' ≤ B) (hr : r < B') (hq : q < B') : QrAt W0 W r tb cap q l B' st Q w := by
  obtain ⟨a, b, lv, c, d⟩ := h
  exact ⟨hr, hq, lv, c, owns_mono d hB⟩

theorem prV_some {s : ByteArray} {j : Nat} (h : prM s = some j) : prV s = (j : Int) := by unfold prV; rw [h]
theorem prV_none {s : ByteArray} (h : prM s = none) : prV s = -1 := by unfold prV; rw [h]
theorem txt_eq {t : ByteArray} {x : List UInt8} (h : t.data.toList = x) : (t.toList == x) = true := by rw [Lib.toList_data, h]; exact beq_self_eq_true _
theorem txt_ne {t : ByteArray} {x : List UInt8} (h : t.data.toList ≠ x) : (t.toList == x) = false := by rw [Lib.toList_data, beq_eq_false_iff_ne]; exact h

/-- the condition of the loop of options -/
def OpInv (W0 W : World) (r tb cap q : Nat) (l : List Ps.Tok) (B : Nat) (E : Ps.Env) (Q : Ps.Req) (st0 : Ps.St) (sb : Nat) (w : World) : Prop :=
  ∃ st s i, QrAt W0 W r tb cap q l B st { Q with ins := i } w ∧ w.heap[sb]? = some (.cells (snCells (snL s)) 163 (0, 0)) ∧ Ps.OpI E l Q.ins st0 st s i ∧ (∀ a, st = .ok a → i.links.length ≤ a)

theorem ps_options {W0 W : World} {r tb cap q : Nat} {l : List Ps.Tok} (hl : ToksOk l) (env : PsEnv W0) (hpr : ∀ w, Below W0.heap.size W0 w → PrEnv w) (Fc Fq Fd : ByteArray → Int × Int) (hFq : PsNum 168 W0 Fq) (hrW : r < W.heap.size) (hqW : q < W.heap.size) :
    OptC W0 W r tb cap q l (psE Fc Fq Fd) := by
  intro st0 Q w0 h hk
  obtain ⟨sb, hsb⟩ : ∃ sb, sb = w0.heap.size := ⟨_, rfl⟩
  have hlt := h.1.rd.lt
  have hq0 := (Array.getElem?_eq_some_iff.1 h.2.1).1
  have hWsb : W.heap.size ≤ sb := by rw [hsb]; exact h.2.2.1.size
  have hW0sb : W0.heap.size ≤ sb := by rw [hsb]; exact h.1.base.size
  have hsr : sb ≠ r := by omega
  have hsq : sb ≠ q := by omega
  have hst : sb ≠ tb := by omega
  have htB : tb < sb + 1 := by omega
  have hrB : r < sb + 1 := by omega
  have hqB : q < sb + 1 := by omega
  have hmany : l.length ≤ 1000000 := by obtain ⟨_, _, _, _, _, _, _, _, hm, _⟩ := h.1.rd; exact hm
  refine ps_optionsL w0 r q (OpInv W0 W r tb cap q l (sb + 1) (psE Fc Fq Fd) Q st0 sb) _ (rdMeas l.length r) ?_ (Lib.hid fun w hw => ?_)
  · -- the start
    have hb := (Below.refl w0.heap.size w0).alloc (Nat.le_refl _) (.cells #[.bool false, .bool false, .bool false, .bool false, .bool false, .bool false] 163)
    refine ⟨st0, {}, Q.ins, ⟨hrB, hqB, nilL, h.step (h.1.below hb) (Tch.of_below hb), ?_⟩, ?_, Ps.OpI.start _ _ _ _, fun a _ => by rw [hk]; exact Nat.zero_le _⟩
    · rw [hk]; exact LkAt.nil _ _
    · rw [hsb]; exact ps_alloc_new w0 _
  · rw [← hsb]
    obtain ⟨st, s, i, hQ, hs, hI, hlk⟩ := hw
    by_cases hok : Ps.okAt l st = false
    · have n1 := ps_more hQ.rd.rd
      rw [hok] at n1
      refine .done (n1.mono ?_)
      rintro e w' ⟨rfl, k, rfl⟩
      exact ⟨rfl, st, i, (hQ.drewN k).mono (by omega) hrW hqW, hI.res hok⟩
    · have hok2 : Ps.okAt l st = true := by cases hb : Ps.okAt l st <;> simp_all
      cases st with
      | error e => cases hok2
      | ok a =>
      have hlta : a < l.length := by simpa [Ps.okAt] using hok2
      obtain ⟨t, ht⟩ : ∃ t, t = Ps.peek l a := ⟨_, rfl⟩
      have n1 := ps_more hQ.rd.rd
      rw [hok2] at n1
      -- what follows a round
      have mk : ∀ (st' : Ps.St) (s' : Ps.Seen) (i' : Ps.Ins) (w' : World), QrAt W0 W r tb cap q l (sb + 1) st' { Q with ins := i' } w' → w'.heap[sb]? = some (.cells (snCells (snL s')) 163 (0, 0)) → Ps.OpI (psE Fc Fq Fd) l Q.ins st0 st' s' i' → (∀ b, st' = .ok b → i'.links.length ≤ b) → stMeas l.length st' < stMeas l.length (.ok a) →
          OpInv W0 W r tb cap q l (sb + 1) (psE Fc Fq Fd) Q st0 sb w' ∧ rdMeas l.length r w' < rdMeas l.length r w := by
        intro st' s' i' w' c1 c2 c3 c4 c5
        refine ⟨⟨st', s', i', c1, c2, c3, c4⟩, ?_⟩
        rw [rdMeas_eq c1.rd.rd, rdMeas_eq hQ.rd.rd]
        exact c5
      have m0 : ∀ er : Ps.Er, stMeas l.length (.error er) < stMeas l.length (.ok a) := fun er => by show 0 < l.length + 1 - a; omega
      have m1 : stMeas l.length (.ok (a + 1)) < stMeas l.length (.ok a) := by show l.length + 1 - (a + 1) < l.length + 1 - a; omega
      have lke : ∀ (i' : Ps.Ins) (er : Ps.Er), ∀ b, (Except.error er : Ps.St) = .ok b → i'.links.length ≤ b := fun i' er b hb => by cases hb
      have lk1 : ∀ (i' : Ps.Ins), i'.links = i.links → ∀ b, (Except.ok (a + 1) : Ps.St) = .ok b → i'.links.length ≤ b := fun i' hi' b hb => by
        cases hb; rw [hi']; have := hlk a rfl; omega
      have N1 : Calls Tryz.prog 25 #[.pointer (some ⟨r, 0, none⟩)] w fun e W' => e = .returned (.bool true) ∧ ∃ k, W' = w.drewN k := n1
      have N2 : Hid (∀ w1, (∃ k, w1 = w.drewN k) → Calls Tryz.prog 21 #[.pointer (some ⟨r, 0, none⟩)] w1 fun e W' => e = .returned (.string t) ∧ ∃ k, W' = w.drewN k) := Lib.hid (by
        rintro w1 ⟨k, rfl⟩
        refine (ps_peek (hQ.drewN k).rd.rd).mono ?_
        rintro e w2 ⟨rfl, m, rfl⟩
        exact ⟨by rw [ht]; rfl, k + m, World.drewN_drewN _ _ _⟩)
      have N3 : Hid (∀ w1, (∃ k, w1 = w.drewN k) → Calls Tryz.prog 136 #[.string t] w1 fun e W' => e = .returned (.int .i64 (prV t)) ∧ ∃ k, W' = w.drewN k) := Lib.hid (by
        rintro w1 ⟨k, rfl⟩
        refine (ps_priority (w.drewN k) t (hpr _ (hQ.drewN k).rd.base)).mono ?_
        rintro e w2 ⟨rfl, rfl⟩
        exact ⟨rfl, k, rfl⟩)
      have N4 : ∀ (p : Nat) (hp : p < 6) (b : Bool) (hb : (snL s)[p]? = some b), Hid (∀ w1, (∃ k, w1 = w.drewN k) → Calls Tryz.prog 137 #[.pointer (some ⟨r, 0, none⟩), .pointer (some ⟨sb, 0, none⟩), .int .i64 p] w1 fun e W' => e = .returned (.bool (!b)) ∧
          (QrAt W0 W r tb cap q l (sb + 1) (if b = true then .error (Ps.offAt l a, 7) else .ok (a + 1)) { Q with ins := i } W' ∧ W'.heap[sb]? = some (.cells (snCells ((snL s).set p true)) 163 (0, 0)))) := fun p hp b hb => Lib.hid (by
        rintro w1 ⟨k, rfl⟩
        exact qr_once (hQ.drewN k) hlta (snL s) _ hs hsr hsq hst hWsb hW0sb (by omega) p hp b hb)
      have hprio : Ps.prio t.data.toList = (prM t).map fun j => (j : Int) := prM_prio t
      rw [ht] at hprio
      cases hpm : prM t with
      | some j =>
        rw [← ht, hpm] at hprio
        rw [prV_some hpm] at N3
        cases hsp : s.prio with
        | true =>
          refine .prioDup (fun w' => ∃ k, w' = w.drewN k) (fun w' => ∃ k, w' = w.drewN k) (fun w' => ∃ k, w' = w.drewN k) (fun _ => True) (fun _ => True) t j N1 N2 N3 (by omega) (Lib.hid fun w1 hw1 => ((N4 0 (by omega) true (by simp [snL, hsp])).out w1 hw1).mono ?_)
          rintro e w' ⟨rfl, c1, c2⟩
          refine ⟨rfl, mk (.error (Ps.offAt l a, 7)) { s with prio := true } i w' c1 c2 ?_ (lke _ _) (m0 _)⟩
          exact hI.prioDup hlta (by rw [← ht, hprio]; rfl) hsp _ _
        | false =>
          refine .prioOk (fun w' => ∃ k, w' = w.drewN k) (fun w' => ∃ k, w' = w.drewN k) (fun w' => ∃ k, w' = w.drewN k) _ (fun _ => True) t j N1 N2 N3 (by omega) (N4 0 (by omega) false (by simp [snL, hsp])) (Lib.hid ?_)
          rintro w' ⟨c1, c2⟩
          refine ⟨c1.cell 13 (by omega), mk (.ok (a + 1)) { s with prio := true } { i with priority := j } _ (c1.store 13 _ _ (fun lv => rfl) rfl) ?_ ?_ (lk1 _ rfl) m1⟩
          · exact (((Tch.refl q q w').setCell 13 _).block sb (Array.getElem?_eq_some_iff.1 c2).1 hsq hsq).trans c2
          · exact hI.prioOk hlta (by rw [← ht, hprio]; rfl) hsp
      | none =>
        have hpn : Ps.prio (Ps.peek l a).data.toList = none := by rw [hprio, ← ht, hpm]; rfl
        rw [prV_none hpm] at N3
        by_cases t0 : t.data.toList = Ps.sPartial
        · cases hsp : s.part with
          | true =>
            refine .partDup (fun w' => ∃ k, w' = w.drewN k) (fun w' => ∃ k, w' = w.drewN k) (fun w' => ∃ k, w' = w.drewN k) (fun _ => True) (fun _ => True) t 0 N1 N2 N3 (txt_eq t0) (Lib.hid fun w1 hw1 => ((N4 1 (by omega) true (by simp [snL, hsp])).out w1 hw1).mono ?_)
            rintro e w' ⟨rfl, c1, c2⟩
            exact ⟨rfl, mk (.error (Ps.offAt l a, 7)) { s with part := true } i w' c1 c2 (hI.partDup hlta (by rw [← ht]; exact t0) hsp _ _) (lke _ _) (m0 _)⟩
          | false =>
            refine .partOk (fun w' => ∃ k, w' = w.drewN k) (fun w' => ∃ k, w' = w.drewN k) (fun w' => ∃ k, w' = w.drewN k) _ (fun w' => QrAt W0 W r tb cap q l (sb + 1) (Ps.step (Ps.take l Fq [2]) 0 (.ok (a + 1))).2 { Q with ins := i } w' ∧ w'.heap[sb]? = some (.cells (snCells ((snL s).set 1 true)) 163 (0, 0))) t 0 (Ps.step (Ps.take l Fq [2]) 0 (.ok (a + 1))).1 N1 N2 N3 (txt_eq t0) (N4 1 (by omega) false (by simp [snL, hsp])) (Lib.hid ?_) (Lib.hid ?_)
            · rintro w' ⟨c1, c2⟩
              refine (ps_quantity hl Fq hFq w' r tb cap _ c1.rd).mono ?_
              rintro e w2 ⟨h1, h2, h3⟩
              exact ⟨h1, c1.step h2 h3, (h3.block sb (Array.getElem?_eq_some_iff.1 c2).1 hsr hsr).trans c2⟩
            · rintro w' ⟨c1, c2⟩
              have c3 := c1.store 14 (.bool true) { Q with ins := { i with partial_ := true } } (fun lv => rfl) rfl
              refine ⟨⟨c1.cell 14 (by omega), c1.cell 15 (by omega), c3.cell 15 (by omega)⟩, mk (Ps.step (Ps.take l Fq [2]) 0 (.ok (a + 1))).2 { s with part := true } { i with partial_ := true, minLot := (Ps.step (Ps.take l Fq [2]) 0 (.ok (a + 1))).1 } _ (c3.store 15 _ _ (fun lv => rfl) rfl) ?_ ?_ ?_ (stMeas_take hlta)⟩
              · have e1 := (((Tch.refl q q w').setCell 14 (.bool true)).block sb (Array.getElem?_eq_some_iff.1 c2).1 hsq hsq).trans c2
                exact (((Tch.refl q q _).setCell 15 _).block sb (Array.getElem?_eq_some_iff.1 e1).1 hsq hsq).trans e1
              · exact hI.partOk hlta (by rw [← ht]; exact t0) hsp
              · intro b hb
                have hlb : a + 1 ≤ b := by
                  cases hq : Ps.take l Fq [2] (a + 1) with
                  | error er => rw [Ps.step_er hq] at hb; cases hb
                  | ok y =>
                    obtain ⟨y, b'⟩ := y
                    rw [Ps.step_ok hq] at hb
                    cases hb
                    have := Ps.take_next hq
                    omega
                have := hlk a rfl
                show i.links.length ≤ b
                omega
        · by_cases t1 : t.data.toList = Ps.sHold
          · cases hsp : s.hold with
            | true =>
              refine .hold (fun w' => ∃ k, w' = w.drewN k) (fun w' => ∃ k, w' = w.drewN k) (fun w' => ∃ k, w' = w.drewN k) _ (fun _ => True) t 0 false N1 N2 N3 (txt_ne t0) (txt_eq t1) (N4 2 (by omega) true (by simp [snL, hsp])) (Lib.hid ?_)
              rintro w' ⟨c1, c2⟩
              refine ⟨c1.cell 16 (by omega), mk (.error (Ps.offAt l a, 7)) { s with hold := true } { i with hold := false } _ (c1.store 16 _ _ (fun lv => rfl) rfl) ?_ (hI.holdDup hlta (by rw [← ht]; exact t1) hsp _ _) (lke _ _) (m0 _)⟩
              exact (((Tch.refl q q w').setCell 16 _).block sb (Array.getElem?_eq_some_iff.1 c2).1 hsq hsq).trans c2
            | false =>
              refine .hold (fun w' => ∃ k, w' = w.drewN k) (fun w' => ∃ k, w' = w.drewN k) (fun w' => ∃ k, w' = w.drewN k) _ (fun _ => True) t 0 true N1 N2 N3 (txt_ne t0) (txt_eq t1) (N4 2 (by omega) false (by simp [snL, hsp])) (Lib.hid ?_)
              rintro w' ⟨c1, c2⟩
              refine ⟨c1.cell 16 (by omega), mk (.ok (a + 1)) { s with hold := true } { i with hold := true } _ (c1.store 16 _ _ (fun lv => rfl) rfl) ?_ (hI.holdOk hlta (by rw [← ht]; exact t1) hsp) (lk1 _ rfl) m1⟩
              exact (((Tch.refl q q w').setCell 16 _).block sb (Array.getElem?_eq_some_iff.1 c2).1 hsq hsq).trans c2
          · by_cases t2 : t.data.toList = Ps.sReserve
            · cases hsp : s.res with
              | true =>
                refine .rsv (fun w' => ∃ k, w' = w.drewN k) (fun w' => ∃ k, w' = w.drewN k) (fun w' => ∃ k, w' = w.drewN k) _ (fun _ => True) t 0 false N1 N2 N3 (txt_ne t0) (txt_ne t1) (txt_eq t2) (N4 3 (by omega) true (by simp [snL, hsp])) (Lib.hid ?_)
                rintro w' ⟨c1, c2⟩
                refine ⟨c1.cell 17 (by omega), mk (.error (Ps.offAt l a, 7)) { s with res := true } { i with reserve := false } _ (c1.store 17 _ _ (fun lv => rfl) rfl) ?_ (hI.resDup hlta (by rw [← ht]; exact t2) hsp _ _) (lke _ _) (m0 _)⟩
                exact (((Tch.refl q q w').setCell 17 _).block sb (Array.getElem?_eq_some_iff.1 c2).1 hsq hsq).trans c2
              | false =>
                refine .rsv (fun w' => ∃ k, w' = w.drewN k) (fun w' => ∃ k, w' = w.drewN k) (fun w' => ∃ k, w' = w.drewN k) _ (fun _ => True) t 0 true N1 N2 N3 (txt_ne t0) (txt_ne t1) (txt_eq t2) (N4 3 (by omega) false (by simp [snL, hsp])) (Lib.hid ?_)
                rintro w' ⟨c1, c2⟩
                refine ⟨c1.cell 17 (by omega), mk (.ok (a + 1)) { s with res := true } { i with reserve := true } _ (c1.store 17 _ _ (fun lv => rfl) rfl) ?_ (hI.resOk hlta (by rw [← ht]; exact t2) hsp) (lk1 _ rfl) m1⟩
                exact (((Tch.refl q q w').setCell 17 _).block sb (Array.getElem?_eq_some_iff.1 c2).1 hsq hsq).trans c2
            · -- links
              obtain ⟨hrB', hqB', lv, hR, hL⟩ := hQ
              obtain ⟨la, lc, rfl⟩ := hL.slice
              have hsbw : sb < w.heap.size := (Array.getElem?_eq_some_iff.1 hs).1
              have n4 : ∀ (w1 : World), (∃ k, w1 = w.drewN k) → (w1.cell? ⟨r, 1, none⟩ = some (.int .i64 a) ∧ w1.frozen? ⟨r, 1, none⟩ = false) ∧ (fun w' => RqAt W0 W r tb cap q l (.ok (a + 1)) (reqCells { Q with ins := i } (.slice la i.links.length lc)) w' ∧ LkAt w' (sb + 1) (.slice la i.links.length lc) i.links ∧ w'.heap[sb]? = some (.cells (snCells (snL s)) 163 (0, 0))) (w1.setCell ⟨r, 1, none⟩ (.int .i64 ((a : Int) + 1))) := by
                rintro w1 ⟨k, rfl⟩
                have hb := below_drewN' (Below.refl w.heap.size w) k
                have hR1 := hR.step (hR.1.below hb) (Tch.of_below hb)
                obtain ⟨c1, c2, c3⟩ := hR1.inc hlta
                exact ⟨c1, c2, (hL.keep (Tch.of_below hb) hrB hrB).keep c3 hrB hrB, (c3.block sb hsbw hsr hsr).trans hs⟩
              have n5 : ∀ (ty : Int), ((Ps.peek l a).data.toList = Ps.sWith ∧ ty = 0) ∨ ((Ps.peek l a).data.toList = Ps.sAfter ∧ ty = 1) → ∀ (w' : World), (RqAt W0 W r tb cap q l (.ok (a + 1)) (reqCells { Q with ins := i } (.slice la i.links.length lc)) w' ∧ LkAt w' (sb + 1) (.slice la i.links.length lc) i.links ∧ w'.heap[sb]? = some (.cells (snCells (snL s)) 163 (0, 0))) →
                  w'.cell? ⟨q, 18, none⟩ = some (.slice la i.links.length lc) ∧ Calls Tryz.prog 23 #[.pointer (some ⟨r, 0, none⟩)] w'.drew fun e W' => e = .returned (.string (Ps.step (psRef l) ⟨#[]⟩ (.ok (a + 1))).1) ∧ LkNext q la i.links.length lc ty (Ps.step (psRef l) ⟨#[]⟩ (.ok (a + 1))).1 (fun w' => OpInv W0 W r tb cap q l (sb + 1) (psE Fc Fq Fd) Q st0 sb w' ∧ rdMeas l.length r w' < rdMeas l.length r w) W' := by
                rintro ty hty w' ⟨d1, d2, d3⟩
                refine ⟨by rw [cell_of_row _ _ _ _ _ _ d1.2.1]; rfl, ?_⟩
                have hbd : Below w'.heap.size w' w'.drew := (Below.refl _ _).drew
                refine (ps_ref hl env w'.drew r tb cap _ (d1.1.below hbd)).mono ?_
                rintro e w5 ⟨h1, h2, h3⟩
                have hT := (Tch.of_below (r := r) (q := r) hbd).trans h3
                have d4 := d1.step h2 hT
                have d5 := d2.keep hT hrB hrB
                have d6 : w5.heap[sb]? = some (.cells (snCells (snL s)) 163 (0, 0)) := (hT.block sb (Array.getElem?_eq_some_iff.1 d3).1 hsr hsr).trans d3
                have hsz5 : sb < w5.heap.size := (Array.getElem?_eq_some_iff.1 d6).1
                refine ⟨h1, qr_link (Q := { Q with ins := i }) hrB hqB htB d4 d5 (by omega) (by omega) ?_ ty _ _ fun w9 e1 e2 => mk _ s { i with links := i.links ++ [⟨ty, (Ps.step (psRef l) ⟨#[]⟩ (.ok (a + 1))).1⟩] } w9 e1 ?_ ?_ ?_ (stMeas_take hlta)⟩
                · have := hlk a rfl
                  show i.links.length ≤ 1000000
                  omega
                · exact (e2 sb (by omega) hsq).trans d6
                · have := hI.link hlta ty hty
                  rw [psE_ref] at this
                  exact this
                · intro b hb
                  have hlb : b = a + 2 := by
                    cases hq : Ps.take l (fun s => (s, idCode 2 s)) [1, 2, 4] (a + 1) with
                    | error er =>
                      have hb2 : (Ps.step (Ps.take l (fun s => (s, idCode 2 s)) [1, 2, 4]) ⟨#[]⟩ (.ok (a + 1))).2 = .ok b := hb
                      rw [Ps.step_er hq] at hb2; cases hb2
                    | ok y =>
                      obtain ⟨y, b'⟩ := y
                      have hb2 : (Ps.step (Ps.take l (fun s => (s, idCode 2 s)) [1, 2, 4]) ⟨#[]⟩ (.ok (a + 1))).2 = .ok b := hb
                      rw [Ps.step_ok hq] at hb2
                      cases hb2
                      exact Ps.take_next hq
                  have := hlk a rfl
                  show (i.links ++ [_]).length ≤ b
                  rw [List.length_append]
                  simp only [List.length_singleton]
                  omega
              by_cases t3 : t.data.toList = Ps.sWith
              · exact .withL (fun w' => ∃ k, w' = w.drewN k) (fun w' => ∃ k, w' = w.drewN k) (fun w' => ∃ k, w' = w.drewN k) _ (fun _ => True) t 0 _ a la i.links.length lc N1 N2 N3 (txt_ne t0) (txt_ne t1) (txt_ne t2) (txt_eq t3) (by unfold wrap64; omega) (Lib.hid n4) (Lib.hid (n5 0 (.inl ⟨by rw [← ht]; exact t3, rfl⟩)))
              · by_cases t4 : t.data.toList = Ps.sAfter
                · exact .afterL (fun w' => ∃ k, w' = w.drewN k) (fun w' => ∃ k, w' = w.drewN k) (fun w' => ∃ k, w' = w.drewN k) _ (fun _ => True) t 0 _ a la i.links.length lc N1 N2 N3 (txt_ne t0) (txt_ne t1) (txt_ne t2) (txt_ne t3) (txt_eq t4) (by unfold wrap64; omega) (Lib.hid n4) (Lib.hid (n5 1 (.inr ⟨by rw [← ht]; exact t4, rfl⟩)))
                · have hQ : QrAt W0 W r tb cap q l (sb + 1) (.ok a) { Q with ins := i } w := ⟨hrB', hqB', _, hR, hL⟩
                  refine .none (fun w' => ∃ k, w' = w.drewN k) (fun w' => ∃ k, w' = w.drewN k) (fun w' => ∃ k, w' = w.drewN k) (fun _ => True) (fun _ => True) t 0 N1 N2 N3 (txt_ne t0) (txt_ne t1) (txt_ne t2) (txt_ne t3) (txt_ne t4) (Lib.hid ?_)
                  rintro w1 ⟨k, rfl⟩
                  have hQk := hQ.drewN k
                  refine (ps_fail hQk.rd.rd 30 (by decide) (fun b hb => by cases hb; exact hlta)).mono ?_
                  rintro e w' ⟨h1, h2, h3⟩
                  refine ⟨h1, mk (.error (Ps.offAt l a, 30)) s i w' (hQk.step (hQk.rd.next h2 h3) h3) ?_ ?_ (lke _ _) (m0 _)⟩
                  · exact (h3.block sb hsbw hsr hsr).trans hs
                  · exact hI.none hlta hpn (by rw [← ht]; exact t0) (by rw [← ht]; exact t1) (by rw [← ht]; exact t2) (by rw [← ht]; exact t3) (by rw [← ht]; exact t4) _ _

end Go.Proofs.YthijakidnkhbnaaGreatDoor

namespace Go.Proofs.YthijakidnkhbnaaGreatDoor
open Go.RowKit

/-- the condition of the loop of changes -/
def ChInv (W0 W : World) (r tb cap q : Nat) (l : List Ps.Tok) (B : Nat) (E : Ps.Env) (Q : Ps.Req) (st0 : Ps.St) (sb : Nat) (w : World) : Prop :=
  ∃ st s i, QrAt W0 W r tb cap q l B st { Q with amd := i } w ∧ w.heap[sb]? = some (.cells (snCells (snL s)) 163 (0, 0)) ∧ Ps.ChI E l Q.amd st0 st s i

def ChgP (E : Ps.Env) (l : List Ps.Tok) : Ps.P Ps.Amd := fun a => if l.length ≤ a then .error (Ps.short l) else Ps.changes E l (l.length + 1) {} {} a

set_option maxRecDepth 100000 in
set_option maxHeartbeats 400000 in
theorem ps_changesNo (W : World) (r q : Nat) (Post : World → Prop)
    (n1 : Calls Tryz.prog 20 #[.pointer (some ⟨r, 0, none⟩)] (W.alloc (.cells #[.bool false, .bool false, .bool false, .bool false, .bool false, .bool false] 163)) fun e W' => e = .returned (.bool false) ∧ Post W') :
    Calls Tryz.prog 96 #[.pointer (some ⟨r, 0, none⟩), .pointer (some ⟨q, 19, none⟩)] W fun e W' => e = .returned (.tuple #[]) ∧ Post W' := by
  go_enter Tryz.func96, Tryz.ntmps96
  go_wp2_with fail
  refine n1.mono ?_
  rintro e w1 ⟨rfl, p1⟩
  clear n1
  go_wp2_with fail
  refine bodyPost_ret (results_none rfl _ _ _) rfl ?_
  exact ⟨rfl, p1⟩

/-- the contract of changes -/
def ChgC (W0 W : World) (r tb cap q : Nat) (l : List Ps.Tok) (E : Ps.Env) : Prop := ∀ (st : Ps.St) (Q : Ps.Req) (w : World), RqAt W0 W r tb cap q l st (reqCells Q nilL) w → Q.ins.links = [] → Q.amd = {} →
  Calls Tryz.prog 96 #[.pointer (some ⟨r, 0, none⟩), .pointer (some ⟨q, 19, none⟩)] w fun e W' => e = .returned (.tuple #[]) ∧ ∃ st' m', QrAt W0 W r tb cap q l W.heap.size st' { Q with amd := m' } W' ∧ Ps.Res (ChgP E l) st st' m'

theorem ps_changes {W0 W : World} {r tb cap q : Nat} {l : List Ps.Tok} (hl : ToksOk l) (hpr : ∀ w, Below W0.heap.size W0 w → PrEnv w) (Fc Fq Fd : ByteArray → Int × Int) (hFc : PsNum 133 W0 Fc) (hFq : PsNum 168 W0 Fq) (hFd : PsNum 134 W0 Fd) (hd : ∀ s, (Fd s).2 = 0 ∨ Fd s = (0, 28)) (hrW : r < W.heap.size) (hqW : q < W.heap.size) :
    ChgC W0 W r tb cap q l (psE Fc Fq Fd) := by
  intro st0 Q w0 h hk hamd
  obtain ⟨sb, hsb⟩ : ∃ sb, sb = w0.heap.size := ⟨_, rfl⟩
  have hlt := h.1.rd.lt
  have hq0 := (Array.getElem?_eq_some_iff.1 h.2.1).1
  have hWsb : W.heap.size ≤ sb := by rw [hsb]; exact h.2.2.1.size
  have hW0sb : W0.heap.size ≤ sb := by rw [hsb]; exact h.1.base.size
  have hsr : sb ≠ r := by omega
  have hsq : sb ≠ q := by omega
  have hst : sb ≠ tb := by omega
  have hrB : r < sb + 1 := by omega
  have hqB : q < sb + 1 := by omega
  have hb := (Below.refl w0.heap.size w0).alloc (Nat.le_refl _) (.cells #[.bool false, .bool false, .bool false, .bool false, .bool false, .bool false] 163)
  have hQ0 : QrAt W0 W r tb cap q l (sb + 1) st0 Q (w0.alloc (.cells #[.bool false, .bool false, .bool false, .bool false, .bool false, .bool false] 163)) := ⟨hrB, hqB, nilL, h.step (h.1.below hb) (Tch.of_below hb), by rw [hk]; exact LkAt.nil _ _⟩
  have n0 := ps_need hQ0.rd.rd hl
  by_cases hok0 : Ps.okAt l st0 = false
  · rw [hok0] at n0
    refine ps_changesNo w0 r q _ (n0.mono ?_)
    rintro e w' ⟨h1, h2, h3⟩
    refine ⟨h1, Ps.needS l st0, {}, ?_, ?_⟩
    · have := (hQ0.step (hQ0.rd.next h2 h3) h3).mono (by omega) hrW hqW
      rw [← hamd]
      exact this
    · cases st0 with
      | error e => rfl
      | ok a =>
        have hge : l.length ≤ a := by simpa [Ps.okAt] using hok0
        have e1 : Ps.needS l (.ok a) = .error (Ps.short l) := by simp [Ps.needS, Nat.not_lt.2 hge]
        rw [e1]
        show ChgP _ l a = _
        unfold ChgP
        rw [if_pos hge]
  have hok01 : Ps.okAt l st0 = true := by cases hb : Ps.okAt l st0 <;> simp_all
  have hres : ∀ st' m', Ps.Res (Ps.changes (psE Fc Fq Fd) l (l.length + 1) {} Q.amd) st0 st' m' → Ps.Res (ChgP (psE Fc Fq Fd) l) st0 st' m' := by
    intro st' m' hr
    refine hr.mono fun a ha => ?_
    subst ha
    have hlt : a < l.length := by simpa [Ps.okAt] using hok01
    unfold ChgP
    rw [if_neg (Nat.not_le.2 hlt), hamd]
  have hneed : Ps.needS l st0 = st0 := by
    cases st0 with
    | error e => rfl
    | ok a => simp [Ps.needS, show a < l.length from by simpa [Ps.okAt] using hok01]
  rw [hok01, hneed] at n0
  refine ps_changesL w0 r q (ChInv W0 W r tb cap q l (sb + 1) (psE Fc Fq Fd) Q st0 sb) _ (rdMeas l.length r) (n0.mono ?_) (Lib.hid fun w hw => ?_)
  · rintro e w' ⟨h1, h2, h3⟩
    refine ⟨h1, st0, {}, Q.amd, hQ0.step (hQ0.rd.next h2 h3) h3, ?_, Ps.ChI.start _ _ _ _⟩
    have e1 : (w0.alloc (.cells #[.bool false, .bool false, .bool false, .bool false, .bool false, .bool false] 163)).heap[sb]? = some (.cells (snCells (snL {})) 163 (0, 0)) := by rw [hsb]; exact ps_alloc_new w0 _
    exact (h3.block sb (Array.getElem?_eq_some_iff.1 e1).1 hsr hsr).trans e1
  · rw [← hsb]
    obtain ⟨st, s, i, hQ, hs, hI⟩ := hw
    by_cases hok : Ps.okAt l st = false
    · have n1 := ps_more hQ.rd.rd
      rw [hok] at n1
      refine .done (n1.mono ?_)
      rintro e w' ⟨rfl, k, rfl⟩
      exact ⟨rfl, st, i, (hQ.drewN k).mono (by omega) hrW hqW, hres _ _ (hI.res hok)⟩
    · have hok2 : Ps.okAt l st = true := by cases hb : Ps.okAt l st <;> simp_all
      cases st with
      | error e => cases hok2
      | ok a =>
      have hlta : a < l.length := by simpa [Ps.okAt] using hok2
      obtain ⟨t, ht⟩ : ∃ t, t = Ps.peek l a := ⟨_, rfl⟩
      have n1 := ps_more hQ.rd.rd
      rw [hok2] at n1
      -- what follows a round
      have mk : ∀ (st' : Ps.St) (s' : Ps.Seen) (i' : Ps.Amd) (w' : World), QrAt W0 W r tb cap q l (sb + 1) st' { Q with amd := i' } w' → w'.heap[sb]? = some (.cells (snCells (snL s')) 163 (0, 0)) → Ps.ChI (psE Fc Fq Fd) l Q.amd st0 st' s' i' → stMeas l.length st' < stMeas l.length (.ok a) →
          ChInv W0 W r tb cap q l (sb + 1) (psE Fc Fq Fd) Q st0 sb w' ∧ rdMeas l.length r w' < rdMeas l.length r w := by
        intro st' s' i' w' c1 c2 c3 c5
        refine ⟨⟨st', s', i', c1, c2, c3⟩, ?_⟩
        rw [rdMeas_eq c1.rd.rd, rdMeas_eq hQ.rd.rd]
        exact c5
      have m0 : ∀ er : Ps.Er, stMeas l.length (.error er) < stMeas l.length (.ok a) := fun er => by show 0 < l.length + 1 - a; omega
      have m1 : stMeas l.length (.ok (a + 1)) < stMeas l.length (.ok a) := by show l.length + 1 - (a + 1) < l.length + 1 - a; omega
      have N1 : Calls Tryz.prog 25 #[.pointer (some ⟨r, 0, none⟩)] w fun e W' => e = .returned (.bool true) ∧ ∃ k, W' = w.drewN k := n1
      have N2 : Hid (∀ w1, (∃ k, w1 = w.drewN k) → Calls Tryz.prog 21 #[.pointer (some ⟨r, 0, none⟩)] w1 fun e W' => e = .returned (.string t) ∧ ∃ k, W' = w.drewN k) := Lib.hid (by
        rintro w1 ⟨k, rfl⟩
        refine (ps_peek (hQ.drewN k).rd.rd).mono ?_
        rintro e w2 ⟨rfl, m, rfl⟩
        exact ⟨by rw [ht]; rfl, k + m, World.drewN_drewN _ _ _⟩)
      have N3 : Hid (∀ w1, (∃ k, w1 = w.drewN k) → Calls Tryz.prog 136 #[.string t] w1 fun e W' => e = .returned (.int .i64 (prV t)) ∧ ∃ k, W' = w.drewN k) := Lib.hid (by
        rintro w1 ⟨k, rfl⟩
        refine (ps_priority (w.drewN k) t (hpr _ (hQ.drewN k).rd.base)).mono ?_
        rintro e w2 ⟨rfl, rfl⟩
        exact ⟨rfl, k, rfl⟩)
      have N4 : ∀ (p : Nat) (hp : p < 6) (b : Bool) (hb : (snL s)[p]? = some b), Hid (∀ w1, (∃ k, w1 = w.drewN k) → Calls Tryz.prog 137 #[.pointer (some ⟨r, 0, none⟩), .pointer (some ⟨sb, 0, none⟩), .int .i64 p] w1 fun e W' => e = .returned (.bool (!b)) ∧
          (QrAt W0 W r tb cap q l (sb + 1) (if b = true then .error (Ps.offAt l a, 7) else .ok (a + 1)) { Q with amd := i } W' ∧ W'.heap[sb]? = some (.cells (snCells ((snL s).set p true)) 163 (0, 0)))) := fun p hp b hb => Lib.hid (by
        rintro w1 ⟨k, rfl⟩
        exact qr_once (hQ.drewN k) hlta (snL s) _ hs hsr hsq hst hWsb hW0sb (by omega) p hp b hb)
      have hprio : Ps.prio t.data.toList = (prM t).map fun j => (j : Int) := prM_prio t
      rw [ht] at hprio
      cases hpm : prM t with
      | some j =>
        rw [← ht, hpm] at hprio
        rw [prV_some hpm] at N3
        cases hsp : s.prio with
        | true =>
          refine .prioDup (fun w' => ∃ k, w' = w.drewN k) (fun w' => ∃ k, w' = w.drewN k) (fun w' => ∃ k, w' = w.drewN k) (fun _ => True) (fun _ => True) t j N1 N2 N3 (by omega) (Lib.hid fun w1 hw1 => ((N4 0 (by omega) true (by simp [snL, hsp])).out w1 hw1).mono ?_)
          rintro e w' ⟨rfl, c1, c2⟩
          refine ⟨rfl, mk (.error (Ps.offAt l a, 7)) { s with prio := true } i w' c1 c2 ?_ (m0 _)⟩
          exact hI.prioDup hlta (by rw [← ht, hprio]; rfl) hsp _ _
        | false =>
          refine .prioOk (fun w' => ∃ k, w' = w.drewN k) (fun w' => ∃ k, w' = w.drewN k) (fun w' => ∃ k, w' = w.drewN k) _ (fun _ => True) t j N1 N2 N3 (by omega) (N4 0 (by omega) false (by simp [snL, hsp])) (Lib.hid ?_)
          rintro w' ⟨c1, c2⟩
          have c3 := c1.store 21 (.bool true) { Q with amd := { i with hasPriority := true } } (fun lv => rfl) rfl
          refine ⟨⟨c1.cell 21 (by omega), c1.cell 25 (by omega), c3.cell 25 (by omega)⟩, mk (.ok (a + 1)) { s with prio := true } { i with hasPriority := true, priority := j } _ (c3.store 25 _ _ (fun lv => rfl) rfl) ?_ ?_ m1⟩
          · have e1 := (((Tch.refl q q w').setCell 21 (.bool true)).block sb (Array.getElem?_eq_some_iff.1 c2).1 hsq hsq).trans c2
            exact (((Tch.refl q q _).setCell 25 _).block sb (Array.getElem?_eq_some_iff.1 e1).1 hsq hsq).trans e1
          · exact hI.prioOk hlta (by rw [← ht, hprio]; rfl) hsp
      | none =>
        have hpn : Ps.prio (Ps.peek l a).data.toList = none := by rw [hprio, ← ht, hpm]; rfl
        rw [prV_none hpm] at N3
        have hsbw : sb < w.heap.size := (Array.getElem?_eq_some_iff.1 hs).1
        by_cases t0 : t.data.toList = Ps.sPartial
        · cases hsp : s.part with
          | true =>
            refine .partDup (fun w' => ∃ k, w' = w.drewN k) (fun w' => ∃ k, w' = w.drewN k) (fun w' => ∃ k, w' = w.drewN k) (fun _ => True) (fun _ => True) t 0 N1 N2 N3 (txt_eq t0) (Lib.hid fun w1 hw1 => ((N4 1 (by omega) true (by simp [snL, hsp])).out w1 hw1).mono ?_)
            rintro e w' ⟨rfl, c1, c2⟩
            exact ⟨rfl, mk (.error (Ps.offAt l a, 7)) { s with part := true } i w' c1 c2 (hI.partDup hlta (by rw [← ht]; exact t0) hsp _ _) (m0 _)⟩
          | false =>
            refine .partOk (fun w' => ∃ k, w' = w.drewN k) (fun w' => ∃ k, w' = w.drewN k) (fun w' => ∃ k, w' = w.drewN k) _ (fun w' => QrAt W0 W r tb cap q l (sb + 1) (Ps.step (Ps.take l Fq [2]) 0 (.ok (a + 1))).2 { Q with amd := i } w' ∧ w'.heap[sb]? = some (.cells (snCells ((snL s).set 1 true)) 163 (0, 0))) t 0 (Ps.step (Ps.take l Fq [2]) 0 (.ok (a + 1))).1 N1 N2 N3 (txt_eq t0) (N4 1 (by omega) false (by simp [snL, hsp])) (Lib.hid ?_) (Lib.hid ?_)
            · rintro w' ⟨c1, c2⟩
              refine (ps_quantity hl Fq hFq w' r tb cap _ c1.rd).mono ?_
              rintro e w2 ⟨h1, h2, h3⟩
              exact ⟨h1, c1.step h2 h3, (h3.block sb (Array.getElem?_eq_some_iff.1 c2).1 hsr hsr).trans c2⟩
            · rintro w' ⟨c1, c2⟩
              have c3 := c1.store 22 (.bool true) { Q with amd := { i with hasPartial := true } } (fun lv => rfl) rfl
              have c4 := c3.store 26 (.bool true) { Q with amd := { i with hasPartial := true, partial_ := true } } (fun lv => rfl) rfl
              refine ⟨⟨c1.cell 22 (by omega), c1.cell 26 (by omega), c3.cell 26 (by omega), c1.cell 27 (by omega), c3.cell 27 (by omega), c4.cell 27 (by omega)⟩, mk (Ps.step (Ps.take l Fq [2]) 0 (.ok (a + 1))).2 { s with part := true } { i with hasPartial := true, partial_ := true, minLot := (Ps.step (Ps.take l Fq [2]) 0 (.ok (a + 1))).1 } _ (c4.store 27 _ _ (fun lv => rfl) rfl) ?_ ?_ (stMeas_take hlta)⟩
              · have e1 := (((Tch.refl q q w').setCell 22 (.bool true)).block sb (Array.getElem?_eq_some_iff.1 c2).1 hsq hsq).trans c2
                have e2 := (((Tch.refl q q _).setCell 26 (.bool true)).block sb (Array.getElem?_eq_some_iff.1 e1).1 hsq hsq).trans e1
                exact (((Tch.refl q q _).setCell 27 _).block sb (Array.getElem?_eq_some_iff.1 e2).1 hsq hsq).trans e2
              · exact hI.partOk hlta (by rw [← ht]; exact t0) hsp
        · by_cases t1 : t.data.toList = Ps.sWhole
          · cases hsp : s.part with
            | true =>
              refine .whole (fun w' => ∃ k, w' = w.drewN k) (fun w' => ∃ k, w' = w.drewN k) (fun w' => ∃ k, w' = w.drewN k) _ (fun _ => True) t 0 false N1 N2 N3 (txt_ne t0) (txt_eq t1) (N4 1 (by omega) true (by simp [snL, hsp])) (Lib.hid ?_)
              rintro w' ⟨c1, c2⟩
              refine ⟨c1.cell 22 (by omega), mk (.error (Ps.offAt l a, 7)) { s with part := true } { i with hasPartial := false } _ (c1.store 22 _ _ (fun lv => rfl) rfl) ?_ (hI.wholeDup hlta (by rw [← ht]; exact t1) hsp _ _) (m0 _)⟩
              exact (((Tch.refl q q w').setCell 22 _).block sb (Array.getElem?_eq_some_iff.1 c2).1 hsq hsq).trans c2
            | false =>
              refine .whole (fun w' => ∃ k, w' = w.drewN k) (fun w' => ∃ k, w' = w.drewN k) (fun w' => ∃ k, w' = w.drewN k) _ (fun _ => True) t 0 true N1 N2 N3 (txt_ne t0) (txt_eq t1) (N4 1 (by omega) false (by simp [snL, hsp])) (Lib.hid ?_)
              rintro w' ⟨c1, c2⟩
              refine ⟨c1.cell 22 (by omega), mk (.ok (a + 1)) { s with part := true } { i with hasPartial := true } _ (c1.store 22 _ _ (fun lv => rfl) rfl) ?_ (hI.wholeOk hlta (by rw [← ht]; exact t1) hsp) m1⟩
              exact (((Tch.refl q q w').setCell 22 _).block sb (Array.getElem?_eq_some_iff.1 c2).1 hsq hsq).trans c2
          · by_cases t2 : t.data.toList = Ps.sAmount
            · cases hsp : s.amount with
              | true =>
                refine .amtDup (fun w' => ∃ k, w' = w.drewN k) (fun w' => ∃ k, w' = w.drewN k) (fun w' => ∃ k, w' = w.drewN k) (fun _ => True) (fun _ => True) t 0 N1 N2 N3 (txt_ne t0) (txt_ne t1) (txt_eq t2) (Lib.hid fun w1 hw1 => ((N4 4 (by omega) true (by simp [snL, hsp])).out w1 hw1).mono ?_)
                rintro e w' ⟨rfl, c1, c2⟩
                exact ⟨rfl, mk (.error (Ps.offAt l a, 7)) { s with amount := true } i w' c1 c2 (hI.amountDup hlta (by rw [← ht]; exact t2) hsp _ _) (m0 _)⟩
              | false =>
                refine .amtOk (fun w' => ∃ k, w' = w.drewN k) (fun w' => ∃ k, w' = w.drewN k) (fun w' => ∃ k, w' = w.drewN k) _ (fun w' => QrAt W0 W r tb cap q l (sb + 1) (Ps.step (Ps.take l Fc [3]) 0 (.ok (a + 1))).2 { Q with amd := i } w' ∧ w'.heap[sb]? = some (.cells (snCells ((snL s).set 4 true)) 163 (0, 0))) t 0 (Ps.step (Ps.take l Fc [3]) 0 (.ok (a + 1))).1 N1 N2 N3 (txt_ne t0) (txt_ne t1) (txt_eq t2) (N4 4 (by omega) false (by simp [snL, hsp])) (Lib.hid ?_) (Lib.hid ?_)
                · rintro w' ⟨c1, c2⟩
                  refine (ps_cash hl Fc hFc w' r tb cap _ c1.rd).mono ?_
                  rintro e w2 ⟨h1, h2, h3⟩
                  exact ⟨h1, c1.step h2 h3, (h3.block sb (Array.getElem?_eq_some_iff.1 c2).1 hsr hsr).trans c2⟩
                · rintro w' ⟨c1, c2⟩
                  have c3 := c1.store 19 (.bool true) { Q with amd := { i with hasAmount := true } } (fun lv => rfl) rfl
                  refine ⟨⟨c1.cell 19 (by omega), c1.cell 23 (by omega), c3.cell 23 (by omega)⟩, mk (Ps.step (Ps.take l Fc [3]) 0 (.ok (a + 1))).2 { s with amount := true } { i with hasAmount := true, amount := (Ps.step (Ps.take l Fc [3]) 0 (.ok (a + 1))).1 } _ (c3.store 23 _ _ (fun lv => rfl) rfl) ?_ ?_ (stMeas_take hlta)⟩
                  · have e1 := (((Tch.refl q q w').setCell 19 (.bool true)).block sb (Array.getElem?_eq_some_iff.1 c2).1 hsq hsq).trans c2
                    exact (((Tch.refl q q _).setCell 23 _).block sb (Array.getElem?_eq_some_iff.1 e1).1 hsq hsq).trans e1
                  · have := hI.amountOk hlta (by rw [← ht]; exact t2) hsp
                    skip
                    exact this
            · by_cases t3 : t.data.toList = Ps.sDay
              · cases hsp : s.day with
                | true =>
                  refine .dayDup (fun w' => ∃ k, w' = w.drewN k) (fun w' => ∃ k, w' = w.drewN k) (fun w' => ∃ k, w' = w.drewN k) (fun _ => True) (fun _ => True) t 0 N1 N2 N3 (txt_ne t0) (txt_ne t1) (txt_ne t2) (txt_eq t3) (Lib.hid fun w1 hw1 => ((N4 5 (by omega) true (by simp [snL, hsp])).out w1 hw1).mono ?_)
                  rintro e w' ⟨rfl, c1, c2⟩
                  exact ⟨rfl, mk (.error (Ps.offAt l a, 7)) { s with day := true } i w' c1 c2 (hI.dayDup hlta (by rw [← ht]; exact t3) hsp _ _) (m0 _)⟩
                | false =>
                  refine .dayOk (fun w' => ∃ k, w' = w.drewN k) (fun w' => ∃ k, w' = w.drewN k) (fun w' => ∃ k, w' = w.drewN k) _ (fun w' => QrAt W0 W r tb cap q l (sb + 1) (Ps.step (Ps.take l Fd [4]) 0 (.ok (a + 1))).2 { Q with amd := i } w' ∧ w'.heap[sb]? = some (.cells (snCells ((snL s).set 5 true)) 163 (0, 0))) t 0 (Ps.step (Ps.take l Fd [4]) 0 (.ok (a + 1))).1 N1 N2 N3 (txt_ne t0) (txt_ne t1) (txt_ne t2) (txt_eq t3) (N4 5 (by omega) false (by simp [snL, hsp])) (Lib.hid ?_) (Lib.hid ?_)
                  · rintro w' ⟨c1, c2⟩
                    refine (ps_day hl Fd hFd w' r tb cap _ c1.rd).mono ?_
                    rintro e w2 ⟨h1, h2, h3⟩
                    exact ⟨h1, c1.step h2 h3, (h3.block sb (Array.getElem?_eq_some_iff.1 c2).1 hsr hsr).trans c2⟩
                  · rintro w' ⟨c1, c2⟩
                    have c3 := c1.store 20 (.bool true) { Q with amd := { i with hasSettleDay := true } } (fun lv => rfl) rfl
                    refine ⟨⟨c1.cell 20 (by omega), c1.cell 24 (by omega), c3.cell 24 (by omega)⟩, mk (Ps.step (Ps.take l Fd [4]) 0 (.ok (a + 1))).2 { s with day := true } { i with hasSettleDay := true, settleDay := (Ps.step (Ps.take l Fd [4]) 0 (.ok (a + 1))).1 } _ (c3.store 24 _ _ (fun lv => rfl) rfl) ?_ ?_ (stMeas_take hlta)⟩
                    · have e1 := (((Tch.refl q q w').setCell 20 (.bool true)).block sb (Array.getElem?_eq_some_iff.1 c2).1 hsq hsq).trans c2
                      exact (((Tch.refl q q _).setCell 24 _).block sb (Array.getElem?_eq_some_iff.1 e1).1 hsq hsq).trans e1
                    · have := hI.dayOk hlta (by rw [← ht]; exact t3) hsp
                      rw [psE_day _ _ _ hd] at this
                      exact this
              · refine .none (fun w' => ∃ k, w' = w.drewN k) (fun w' => ∃ k, w' = w.drewN k) (fun w' => ∃ k, w' = w.drewN k) (fun _ => True) (fun _ => True) t 0 N1 N2 N3 (txt_ne t0) (txt_ne t1) (txt_ne t2) (txt_ne t3) (Lib.hid ?_)
                rintro w1 ⟨k, rfl⟩
                have hQk := hQ.drewN k
                refine (ps_fail hQk.rd.rd 30 (by decide) (fun b hb => by cases hb; exact hlta)).mono ?_
                rintro e w' ⟨h1, h2, h3⟩
                refine ⟨h1, mk (.error (Ps.offAt l a, 30)) s i w' (hQk.step (hQk.rd.next h2 h3) h3) ?_ ?_ (m0 _)⟩
                · exact (h3.block sb hsbw hsr hsr).trans hs
                · exact hI.none hlta hpn (by rw [← ht]; exact t0) (by rw [← ht]; exact t1) (by rw [← ht]; exact t2) (by rw [← ht]; exact t3) _ _

end Go.Proofs.YthijakidnkhbnaaGreatDoor
