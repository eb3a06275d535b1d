/-
  girolaw10.Do: an operation on a disk.
  girolaw10.small: an operation within the limits of the statements.
  The methods of a nil disk.
-/
import Derived.Test.YtcbnbhlgikjbeaaGreatDoorDkTrunc
namespace Go.Proofs.YtcbnbhlgikjbeaaGreatDoor
open Go.RowKit

namespace Dk
structure Op where
  kind : Nat
  name : ByteArray
  to : ByteArray
  n : Int
  b : Bs
def D.act (d : D) (o : Op) : D × Int := match o.kind with
  | 0 => d.create o.name.data.toList
  | 1 => d.write o.name.data.toList (fun _ => o.n) o.b
  | 2 => d.write o.name.data.toList (fun n => n) o.b
  | 3 => d.truncate o.name.data.toList o.n
  | 4 => d.sync o.name.data.toList
  | 5 => d.rename o.name.data.toList o.to.data.toList
  | 6 => d.remove o.name.data.toList
  | 7 => d.setBudget o.n
  | 8 => d.crash
  | _ => d.restart o.b
/-- a disk within the bounds of the walks -/
structure D.Fits (d : D) : Prop where
  bud : d.bud ≤ 9223372036854775807
  many : d.fs.length ≤ 1073741824
  names : ∀ p ∈ d.fs, p.1.length ≤ maxLen
  pend : ∀ n f, find n d.fs = some f → f.pend.length < 65536
end Dk

/-- an operation as a value -/
def opVal (o : Dk.Op) (bv : Value) : Value := .agg #[.int .i64 o.kind, .string o.name, .string o.to, .int .i64 o.n, bv]

end Go.Proofs.YtcbnbhlgikjbeaaGreatDoor

namespace Go.Proofs.YtcbnbhlgikjbeaaGreatDoor
open Go.RowKit

/-- an operation as it came in -/
structure Dk.Raw where
  kind : Int
  name : ByteArray
  to : ByteArray
  n : Int
  b : Dk.Bs
def rawVal (o : Dk.Raw) (bv : Value) : Value := .agg #[.int .i64 o.kind, .string o.name, .string o.to, .int .i64 o.n, bv]
def Dk.small (o : Dk.Raw) : Dk.Op := ⟨(o.kind % 18446744073709551616 % 10).toNat, o.name, o.to, if 3000 < o.n ∧ o.n ≤ 16777216 then 3000 else o.n, o.b.take 1500⟩
theorem Dk.small_kind (o : Dk.Raw) : (Dk.small o).kind < 10 := by unfold Dk.small; simp only []; omega

/-- a slice's first n bytes -/
theorem RdB.form4 {W : World} {B : Nat} {v : Value} {l : Dk.Bs} (h : RdB W B v l) : ∃ a cap, v = .slice a l.length cap ∧ l.length ≤ cap ∧ ∀ n, n ≤ l.length → RdB W B (.slice a n cap) (l.take n) := by
  rcases h with ⟨rfl, a, cap, rfl⟩ | ⟨g, off, cap, hv, hc, hg, hgs, hx⟩
  · refine ⟨a, cap, rfl, Nat.zero_le _, fun n hn => ?_⟩
    obtain rfl : n = 0 := by simpa using hn
    exact .inl ⟨by simp, a, cap, rfl⟩
  · refine ⟨some ⟨g, off, none⟩, cap, hv, hc, fun n hn => .inr ⟨g, off, cap, by rw [List.length_take, Nat.min_eq_left hn], by rw [List.length_take]; omega, hg, hgs, fun j c hj => hx j c ?_⟩⟩
    rw [List.getElem?_take] at hj
    split at hj
    · exact hj
    · cases hj

end Go.Proofs.YtcbnbhlgikjbeaaGreatDoor

namespace Go.Proofs.YtcbnbhlgikjbeaaGreatDoor
open Go.RowKit

theorem nil_modify (W : World) (f1 f2 : Value) : Calls Tryz.prog 32 #[.pointer none, f1, f2] W fun e W' => e = .returned (.int .i64 1) ∧ W = W' := by
  have hr := dk_ready_nil W
  go_enter Tryz.func32, Tryz.ntmps32
  go_wp2_with fail
  refine hr.mono ?_
  rintro e w1 ⟨rfl, rfl⟩
  go_wp2_with fail
  go_ret
  exact ⟨rfl, rfl⟩

set_option maxHeartbeats 1000000 in
theorem nil_Create (W : World) (s : ByteArray) : Calls Tryz.prog 11 #[.pointer none, .string s] W fun e W' => e = .returned (.int .i64 1) ∧ Below W.heap.size W W' := by
  have hm := nil_modify
  go_enter Tryz.func11, Tryz.ntmps11
  go_wp2_with fail
  refine (hm _ _ _).mono ?_
  rintro e w1 ⟨rfl, rfl⟩
  go_wp2_with fail
  go_ret
  exact ⟨rfl, (((Below.refl _ _).alloc (by simp; try omega) _).alloc (by simp; try omega) _)⟩

set_option maxHeartbeats 1000000 in
theorem nil_Truncate (W : World) (s : ByteArray) (k : Int) : Calls Tryz.prog 56 #[.pointer none, .string s, .int .i64 k] W fun e W' => e = .returned (.int .i64 1) ∧ Below W.heap.size W W' := by
  have hm := nil_modify
  go_enter Tryz.func56, Tryz.ntmps56
  go_wp2_with fail
  refine (hm _ _ _).mono ?_
  rintro e w1 ⟨rfl, rfl⟩
  go_wp2_with fail
  go_ret
  exact ⟨rfl, ((((Below.refl _ _).alloc (by simp; try omega) _).alloc (by simp; try omega) _).alloc (by simp; try omega) _)⟩

set_option maxHeartbeats 1000000 in
theorem nil_Sync (W : World) (s : ByteArray) : Calls Tryz.prog 15 #[.pointer none, .string s] W fun e W' => e = .returned (.int .i64 1) ∧ Below W.heap.size W W' := by
  have hm := nil_modify
  go_enter Tryz.func15, Tryz.ntmps15
  go_wp2_with fail
  refine (hm _ _ _).mono ?_
  rintro e w1 ⟨rfl, rfl⟩
  go_wp2_with fail
  go_ret
  exact ⟨rfl, (((Below.refl _ _).alloc (by simp; try omega) _).alloc (by simp; try omega) _)⟩

set_option maxHeartbeats 1000000 in
theorem nil_Remove (W : World) (s : ByteArray) : Calls Tryz.prog 55 #[.pointer none, .string s] W fun e W' => e = .returned (.int .i64 1) ∧ Below W.heap.size W W' := by
  have hm := nil_modify
  go_enter Tryz.func55, Tryz.ntmps55
  go_wp2_with fail
  refine (hm _ _ _).mono ?_
  rintro e w1 ⟨rfl, rfl⟩
  go_wp2_with fail
  go_ret
  exact ⟨rfl, (((Below.refl _ _).alloc (by simp; try omega) _).alloc (by simp; try omega) _)⟩

set_option maxHeartbeats 1000000 in
theorem nil_SetBudget (W : World) (n : Int) : Calls Tryz.prog 30 #[.pointer none, .int .i64 n] W fun e W' => e = .returned (.int .i64 1) ∧ W = W' := by
  have hr := dk_ready_nil W
  go_enter Tryz.func30, Tryz.ntmps30
  go_wp2_with fail
  refine hr.mono ?_
  rintro e w1 ⟨rfl, rfl⟩
  go_wp2_with fail
  go_ret
  exact ⟨rfl, rfl⟩

set_option maxHeartbeats 1000000 in
theorem nil_Crash (W : World)  : Calls Tryz.prog 26 #[.pointer none] W fun e W' => e = .returned (.int .i64 1) ∧ W = W' := by
  have hr := dk_ready_nil W
  go_enter Tryz.func26, Tryz.ntmps26
  go_wp2_with fail
  refine hr.mono ?_
  rintro e w1 ⟨rfl, rfl⟩
  go_wp2_with fail
  go_ret
  exact ⟨rfl, rfl⟩

set_option maxHeartbeats 1000000 in
theorem nil_Read (W : World) (s : ByteArray) : Calls Tryz.prog 52 #[.pointer none, .string s] W fun e W' => e = .returned (.tuple #[.slice none 0 0, .int .i64 1]) ∧ W = W' := by
  have hr := dk_ready_nil W
  go_enter Tryz.func52, Tryz.ntmps52
  go_wp2_with fail
  refine hr.mono ?_
  rintro e w1 ⟨rfl, rfl⟩
  go_wp2_with fail
  go_ret2
  exact ⟨rfl, rfl⟩

set_option maxHeartbeats 1000000 in
theorem nil_Size (W : World) (s : ByteArray) : Calls Tryz.prog 59 #[.pointer none, .string s] W fun e W' => e = .returned (.tuple #[.int .i64 0, .int .i64 1]) ∧ W = W' := by
  have hr := dk_ready_nil W
  go_enter Tryz.func59, Tryz.ntmps59
  go_wp2_with fail
  refine hr.mono ?_
  rintro e w1 ⟨rfl, rfl⟩
  go_wp2_with fail
  go_ret2
  exact ⟨rfl, rfl⟩

set_option maxHeartbeats 1000000 in
theorem nil_List (W : World)  : Calls Tryz.prog 25 #[.pointer none] W fun e W' => e = .returned (.slice none 0 0) ∧ W = W' := by
  have hr := dk_ready_nil W
  go_enter Tryz.func25, Tryz.ntmps25
  go_wp2_with fail
  refine hr.mono ?_
  rintro e w1 ⟨rfl, rfl⟩
  go_wp2_with fail
  go_ret
  exact ⟨rfl, rfl⟩

set_option maxHeartbeats 1000000 in
theorem nil_Pending (W : World) (s : ByteArray) : Calls Tryz.prog 89 #[.pointer none, .string s] W fun e W' => e = .returned (.int .i64 0) ∧ W = W' := by
  have hr := dk_ready_nil W
  go_enter Tryz.func89, Tryz.ntmps89
  go_wp2_with fail
  refine hr.mono ?_
  rintro e w1 ⟨rfl, rfl⟩
  go_wp2_with fail
  go_ret
  exact ⟨rfl, rfl⟩

set_option maxHeartbeats 1000000 in
theorem nil_Budget (W : World)  : Calls Tryz.prog 88 #[.pointer none] W fun e W' => e = .returned (.int .i64 (-1)) ∧ W = W' := by
  go_enter Tryz.func88, Tryz.ntmps88
  go_wp2_with fail
  go_ret
  exact ⟨rfl, rfl⟩

set_option maxHeartbeats 1000000 in
theorem nil_Down (W : World)  : Calls Tryz.prog 49 #[.pointer none] W fun e W' => e = .returned (.bool false) ∧ W = W' := by
  go_enter Tryz.func49, Tryz.ntmps49
  go_wp2_with fail
  go_ret
  exact ⟨rfl, rfl⟩

set_option maxHeartbeats 1000000 in
theorem nil_Restart (W : World) (v : Value) : Calls Tryz.prog 31 #[.pointer none, v] W fun e W' => e = .returned (.int .i64 1) ∧ W = W' := by
  go_enter Tryz.func31, Tryz.ntmps31
  go_wp2_with fail
  go_ret
  exact ⟨rfl, rfl⟩

set_option maxHeartbeats 1000000 in
theorem nil_write (W : World) (s : ByteArray) (k : FuncId) (cap : Array Value) (a : Option Addr) (n c : Nat) : Calls Tryz.prog 38 #[.pointer none, .string s, .func (.func k) #[] cap, .slice a n c] W fun e W' => e = .returned (.int .i64 1) ∧ Below W.heap.size W W' := by
  have hr := dk_ready_nil
  have hm := nil_modify
  rcases Nat.eq_zero_or_pos n with h0 | h0
  · subst h0
    go_enter Tryz.func38, Tryz.ntmps38
    go_wp2_with fail
    refine (hr _).mono ?_
    rintro e w1 ⟨rfl, rfl⟩
    go_wp2_with fail
    go_ret
    exact ⟨rfl, by repeat (first | exact Below.refl _ _ | refine Below.alloc ?_ (by simp; try omega) _)⟩
  · have hz : n ≠ 0 := by omega
    go_enter Tryz.func38, Tryz.ntmps38
    go_wp2_with fail
    refine (hm _ _ _).mono ?_
    rintro e w1 ⟨rfl, rfl⟩
    go_wp2_with fail
    go_ret
    exact ⟨rfl, by repeat (first | exact Below.refl _ _ | refine Below.alloc ?_ (by simp; try omega) _)⟩

set_option maxHeartbeats 1000000 in
theorem nil_Append (W : World) (s : ByteArray) (a : Option Addr) (n c : Nat) : Calls Tryz.prog 62 #[.pointer none, .string s, .slice a n c] W fun e W' => e = .returned (.int .i64 1) ∧ Below W.heap.size W W' := by
  have hw := nil_write
  go_enter Tryz.func62, Tryz.ntmps62
  go_wp2_with fail
  refine (hw _ _ _ _ _ _ _).mono ?_
  rintro e w1 ⟨rfl, hb⟩
  go_wp2_with fail
  go_ret
  exact ⟨rfl, hb⟩

set_option maxHeartbeats 1000000 in
theorem nil_WriteAt (W : World) (s : ByteArray) (off : Int) (a : Option Addr) (n c : Nat) : Calls Tryz.prog 13 #[.pointer none, .string s, .int .i64 off, .slice a n c] W fun e W' => e = .returned (.int .i64 1) ∧ Below W.heap.size W W' := by
  have hw := nil_write
  go_enter Tryz.func13, Tryz.ntmps13
  go_wp2_with fail
  refine (hw _ _ _ _ _ _ _).mono ?_
  rintro e w1 ⟨rfl, hb⟩
  go_wp2_with fail
  go_ret
  exact ⟨rfl, ((Below.refl _ W).alloc (Nat.le_refl _) _).trans (hb.mono (by simp))⟩

end Go.Proofs.YtcbnbhlgikjbeaaGreatDoor
