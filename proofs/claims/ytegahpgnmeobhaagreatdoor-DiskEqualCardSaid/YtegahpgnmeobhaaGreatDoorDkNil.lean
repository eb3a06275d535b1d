/-
  girolaw10.Do: an operation on a disk.
  girolaw10.small: an operation within the limits of the statements.
  The methods of a nil disk.
-/
import Derived.Test.YtegahpgnmeobhaaGreatDoorDkTrunc
namespace Go.Proofs.YtegahpgnmeobhaaGreatDoor
open Go.RowKit

namespace Dk
structure Op where
  kind : Nat
  name : ByteArray
  to : ByteArray
  n : Int
  b : Bs
def D.act (d : D) (o : Op) : D × Int := match o.kind with
  | 0 => d.create o.name.data.toList
  | 1 => d.write o.name.data.toList (fun _ => o.n) o.b
  | 2 => d.write o.name.data.toList (fun n => n) o.b
  | 3 => d.truncate o.name.data.toList o.n
  | 4 => d.sync o.name.data.toList
  | 5 => d.rename o.name.data.toList o.to.data.toList
  | 6 => d.remove o.name.data.toList
  | 7 => d.setBudget o.n
  | 8 => d.crash
  | _ => d.restart o.b
/-- a disk within the bounds of the walks -/
structure D.Fits (d : D) : Prop where
  bud : d.bud ≤ 9223372036854775807
  many : d.fs.length ≤ 1073741824
  names : ∀ p ∈ d.fs, p.1.length ≤ maxLen
  pend : ∀ n f, find n d.fs = some f → f.pend.length < 65536
end Dk

/-- an operation as a value -/
def opVal (o : Dk.Op) (bv : Value) : Value := .agg #[.int .i64 o.kind, .string o.name, .string o.to, .int .i64 o.n, bv]

set_option maxRecDepth 100000 in
set_option maxHeartbeats 4000000 in
theorem dk_Do {i : Nat} {c : Nat → Nat} {W : World} {g : Nat} {D : Dk.D} (h : DiskAt i c W g D) (hf : D.Fits) (o : Dk.Op) (hk : o.kind < 10) (hn : o.name.size ≤ 9223372036854775807) (ht : o.to.size ≤ 9223372036854775807) (bv : Value) (hrd : RdC c W bv o.b) (hb : o.b.length ≤ 1073741824) :
    Calls Tryz.prog 29 #[.pointer (some ⟨g, 0, none⟩), opVal o bv] W (DkPost i c W g (D.act o)) := by
  obtain ⟨kind, name, to, n, b⟩ := o
  simp only [] at hk hn ht hrd hb
  have D1 := h.chg (Chg.alloc (i := i + 1) (.cells #[.int .i64 kind, .string name, .string to, .int .i64 n, bv] 54) 0) (by omega) (by omega)
  have R1 := hrd.chg (Chg.alloc (i := i + 1) (.cells #[.int .i64 kind, .string name, .string to, .int .i64 n, bv] 54) 0) (by omega)
  have HA := Lib.hid (fun e W' r (hp : DkPost i (pnt c W.heap.size 0) (W.alloc (.cells #[.int .i64 kind, .string name, .string to, .int .i64 n, bv] 54)) g r e W') => hp.after (Chg.alloc (i := i) (c := c) (.cells #[.int .i64 kind, .string name, .string to, .int .i64 n, bv] 54) 0))
  have hkk : kind = 0 ∨ kind = 1 ∨ kind = 2 ∨ kind = 3 ∨ kind = 4 ∨ kind = 5 ∨ kind = 6 ∨ kind = 7 ∨ kind = 8 ∨ kind = 9 := by omega
  clear h hrd hk
  unfold opVal
  rcases hkk with rfl | rfl | rfl | rfl | rfl | rfl | rfl | rfl | rfl | rfl
  · have hc := Lib.hid (dk_create D1 name hn hf.bud hf.many)
    have HE : Hid (Dk.D.act D ⟨0, name, to, n, b⟩ = _) := Lib.hid rfl
    clear D1 R1 hf
    go_enter Tryz.func29, Tryz.ntmps29
    go_wp2_with fail
    refine hc.out.mono ?_
    intro e W' hp
    have HP := Lib.hid (HA.out _ _ _ hp)
    obtain ⟨c', rfl, _⟩ := hp
    go_wp2_with fail
    go_ret
    exact HP.out
  · have hc := Lib.hid (dk_WriteAt D1 name hn hf.bud n b bv R1 (by omega) (hf.pend _))
    have HE : Hid (Dk.D.act D ⟨1, name, to, n, b⟩ = _) := Lib.hid rfl
    clear D1 R1 hf
    go_enter Tryz.func29, Tryz.ntmps29
    go_wp2_with fail
    refine hc.out.mono ?_
    intro e W' hp
    have HP := Lib.hid (HA.out _ _ _ hp)
    obtain ⟨c', rfl, _⟩ := hp
    go_wp2_with fail
    go_ret
    exact HP.out
  · have hc := Lib.hid (dk_Append D1 name hn hf.bud b bv R1 (by omega) (hf.pend _))
    have HE : Hid (Dk.D.act D ⟨2, name, to, n, b⟩ = _) := Lib.hid rfl
    clear D1 R1 hf
    go_enter Tryz.func29, Tryz.ntmps29
    go_wp2_with fail
    refine hc.out.mono ?_
    intro e W' hp
    have HP := Lib.hid (HA.out _ _ _ hp)
    obtain ⟨c', rfl, _⟩ := hp
    go_wp2_with fail
    go_ret
    exact HP.out
  · have hc := Lib.hid (dk_Truncate D1 name hn n hf.bud)
    have HE : Hid (Dk.D.act D ⟨3, name, to, n, b⟩ = _) := Lib.hid rfl
    clear D1 R1 hf
    go_enter Tryz.func29, Tryz.ntmps29
    go_wp2_with fail
    refine hc.out.mono ?_
    intro e W' hp
    have HP := Lib.hid (HA.out _ _ _ hp)
    obtain ⟨c', rfl, _⟩ := hp
    go_wp2_with fail
    go_ret
    exact HP.out
  · have hc := Lib.hid (dk_Sync D1 name hn hf.bud)
    have HE : Hid (Dk.D.act D ⟨4, name, to, n, b⟩ = _) := Lib.hid rfl
    clear D1 R1 hf
    go_enter Tryz.func29, Tryz.ntmps29
    go_wp2_with fail
    refine hc.out.mono ?_
    intro e W' hp
    have HP := Lib.hid (HA.out _ _ _ hp)
    obtain ⟨c', rfl, _⟩ := hp
    go_wp2_with fail
    go_ret
    exact HP.out
  · have hc := Lib.hid (dk_Rename D1 name to hn ht hf.bud hf.many)
    have HE : Hid (Dk.D.act D ⟨5, name, to, n, b⟩ = _) := Lib.hid rfl
    clear D1 R1 hf
    go_enter Tryz.func29, Tryz.ntmps29
    go_wp2_with fail
    refine hc.out.mono ?_
    intro e W' hp
    have HP := Lib.hid (HA.out _ _ _ hp)
    obtain ⟨c', rfl, _⟩ := hp
    go_wp2_with fail
    go_ret
    exact HP.out
  · have hc := Lib.hid (dk_Remove D1 name hn hf.bud)
    have HE : Hid (Dk.D.act D ⟨6, name, to, n, b⟩ = _) := Lib.hid rfl
    clear D1 R1 hf
    go_enter Tryz.func29, Tryz.ntmps29
    go_wp2_with fail
    refine hc.out.mono ?_
    intro e W' hp
    have HP := Lib.hid (HA.out _ _ _ hp)
    obtain ⟨c', rfl, _⟩ := hp
    go_wp2_with fail
    go_ret
    exact HP.out
  · have hc := Lib.hid (dk_SetBudget D1 n)
    have HE : Hid (Dk.D.act D ⟨7, name, to, n, b⟩ = _) := Lib.hid rfl
    clear D1 R1 hf
    go_enter Tryz.func29, Tryz.ntmps29
    go_wp2_with fail
    refine hc.out.mono ?_
    intro e W' hp
    have HP := Lib.hid (HA.out _ _ _ hp)
    obtain ⟨c', rfl, _⟩ := hp
    go_wp2_with fail
    go_ret
    exact HP.out
  · have hc := Lib.hid (dk_Crash D1)
    have HE : Hid (Dk.D.act D ⟨8, name, to, n, b⟩ = _) := Lib.hid rfl
    clear D1 R1 hf
    go_enter Tryz.func29, Tryz.ntmps29
    go_wp2_with fail
    refine hc.out.mono ?_
    intro e W' hp
    have HP := Lib.hid (HA.out _ _ _ hp)
    obtain ⟨c', rfl, _⟩ := hp
    go_wp2_with fail
    go_ret
    exact HP.out
  · have hc := Lib.hid (dk_Restart D1 bv b R1 (by omega) hf.many hf.names)
    have HE : Hid (Dk.D.act D ⟨9, name, to, n, b⟩ = _) := Lib.hid rfl
    clear D1 R1 hf
    go_enter Tryz.func29, Tryz.ntmps29
    go_wp2_with fail
    refine hc.out.mono ?_
    intro e W' hp
    have HP := Lib.hid (HA.out _ _ _ hp)
    obtain ⟨c', rfl, _⟩ := hp
    go_wp2_with fail
    go_ret
    exact HP.out

end Go.Proofs.YtegahpgnmeobhaaGreatDoor

namespace Go.Proofs.YtegahpgnmeobhaaGreatDoor
open Go.RowKit

/-- an operation as it came in -/
structure Dk.Raw where
  kind : Int
  name : ByteArray
  to : ByteArray
  n : Int
  b : Dk.Bs
def rawVal (o : Dk.Raw) (bv : Value) : Value := .agg #[.int .i64 o.kind, .string o.name, .string o.to, .int .i64 o.n, bv]
def Dk.small (o : Dk.Raw) : Dk.Op := ⟨(o.kind % 18446744073709551616 % 10).toNat, o.name, o.to, if 3000 < o.n ∧ o.n ≤ 16777216 then 3000 else o.n, o.b.take 1500⟩
theorem Dk.small_kind (o : Dk.Raw) : (Dk.small o).kind < 10 := by unfold Dk.small; simp only []; omega

/-- a slice's first n bytes -/
theorem RdB.form4 {W : World} {B : Nat} {v : Value} {l : Dk.Bs} (h : RdB W B v l) : ∃ a cap, v = .slice a l.length cap ∧ l.length ≤ cap ∧ ∀ n, n ≤ l.length → RdB W B (.slice a n cap) (l.take n) := by
  rcases h with ⟨rfl, a, cap, rfl⟩ | ⟨g, off, cap, hv, hc, hg, hgs, hx⟩
  · refine ⟨a, cap, rfl, Nat.zero_le _, fun n hn => ?_⟩
    obtain rfl : n = 0 := by simpa using hn
    exact .inl ⟨by simp, a, cap, rfl⟩
  · refine ⟨some ⟨g, off, none⟩, cap, hv, hc, fun n hn => .inr ⟨g, off, cap, by rw [List.length_take, Nat.min_eq_left hn], by rw [List.length_take]; omega, hg, hgs, fun j c hj => hx j c ?_⟩⟩
    rw [List.getElem?_take] at hj
    split at hj
    · exact hj
    · cases hj

set_option maxRecDepth 100000 in
set_option maxHeartbeats 4000000 in
theorem dk_small (W : World) (o : Dk.Raw) (hk1 : -9223372036854775808 ≤ o.kind) (hk2 : o.kind ≤ 9223372036854775807) (bv : Value) (B : Nat) (hrd : RdB W B bv o.b) :
    Calls Tryz.prog 27 #[rawVal o bv] W fun e W' => ∃ bv', e = .returned (opVal (Dk.small o) bv') ∧ RdB W B bv' (o.b.take 1500) ∧ Below W.heap.size W W' := by
  obtain ⟨kind, name, to, n, b⟩ := o
  simp only [] at hk1 hk2 hrd
  obtain ⟨a, cap, rfl, hcap, ht⟩ := hrd.form4
  have hkI : (kind % 18446744073709551616 % 10) = (((kind % 18446744073709551616 % 10).toNat : Nat) : Int) := by omega
  have HK : Hid ((kind % 18446744073709551616 % 10) = (((kind % 18446744073709551616 % 10).toNat : Nat) : Int)) := Lib.hid hkI
  have HT := Lib.hid ht
  have HH := Lib.hid hrd
  clear ht hrd hkI
  unfold rawVal opVal Dk.small
  simp only []
  have hw64 : IntKind.u64.wrap kind = kind % 18446744073709551616 := by unfold IntKind.wrap; simp [IntKind.signed, IntKind.bits]
  have HW : Hid (wrap64 ((IntKind.u64.wrap kind).tmod 10) = (((kind % 18446744073709551616 % 10).toNat : Nat) : Int)) := by
    show _ = _
    rw [hw64, Int.tmod_eq_emod_of_nonneg (by omega)]
    unfold wrap64
    omega
  clear hw64 HK
  generalize (kind % 18446744073709551616 % 10).toNat = kn at *
  by_cases hb : 1500 < b.length
  · have hc15 : 1500 ≤ cap := by omega
    have HF := Lib.hid (HT.out 1500 (by omega))
    by_cases hn1 : 3000 < n
    · by_cases hn2 : n ≤ 16777216
      · rw [if_pos ⟨hn1, hn2⟩]
        go_enter Tryz.func27, Tryz.ntmps27
        go_wp2_with fail
        refine bodyPost_ret (results_cell_row rfl _ _ (W.heap.size + 1) _ _ (0, 0) _ rfl (heap_alloc2_new _ _ _) Tryz.underlying54 rfl (by kernel_rfl)) rfl ?_
        rw [HW.out]
        exact ⟨_, rfl, HF.out, ((Below.refl _ _).alloc (Nat.le_refl _) _).alloc (by simp) _⟩
      · rw [if_neg (fun h => hn2 h.2)]
        go_enter Tryz.func27, Tryz.ntmps27
        go_wp2_with fail
        refine bodyPost_ret (results_cell_row rfl _ _ (W.heap.size + 1) _ _ (0, 0) _ rfl (heap_alloc2_new _ _ _) Tryz.underlying54 rfl (by kernel_rfl)) rfl ?_
        rw [HW.out]
        exact ⟨_, rfl, HF.out, ((Below.refl _ _).alloc (Nat.le_refl _) _).alloc (by simp) _⟩
    · rw [if_neg (fun h => hn1 h.1)]
      go_enter Tryz.func27, Tryz.ntmps27
      go_wp2_with fail
      refine bodyPost_ret (results_cell_row rfl _ _ (W.heap.size + 1) _ _ (0, 0) _ rfl (heap_alloc2_new _ _ _) Tryz.underlying54 rfl (by kernel_rfl)) rfl ?_
      rw [HW.out]
      exact ⟨_, rfl, HF.out, ((Below.refl _ _).alloc (Nat.le_refl _) _).alloc (by simp) _⟩
  · have HF : Hid (RdB W B (.slice a b.length cap) (b.take 1500)) := by rw [List.take_of_length_le (show b.length ≤ 1500 by omega)]; exact HH
    by_cases hn1 : 3000 < n
    · by_cases hn2 : n ≤ 16777216
      · rw [if_pos ⟨hn1, hn2⟩]
        go_enter Tryz.func27, Tryz.ntmps27
        go_wp2_with fail
        refine bodyPost_ret (results_cell_row rfl _ _ (W.heap.size + 1) _ _ (0, 0) _ rfl (heap_alloc2_new _ _ _) Tryz.underlying54 rfl (by kernel_rfl)) rfl ?_
        rw [HW.out]
        exact ⟨_, rfl, HF.out, ((Below.refl _ _).alloc (Nat.le_refl _) _).alloc (by simp) _⟩
      · rw [if_neg (fun h => hn2 h.2)]
        go_enter Tryz.func27, Tryz.ntmps27
        go_wp2_with fail
        refine bodyPost_ret (results_cell_row rfl _ _ (W.heap.size + 1) _ _ (0, 0) _ rfl (heap_alloc2_new _ _ _) Tryz.underlying54 rfl (by kernel_rfl)) rfl ?_
        rw [HW.out]
        exact ⟨_, rfl, HF.out, ((Below.refl _ _).alloc (Nat.le_refl _) _).alloc (by simp) _⟩
    · rw [if_neg (fun h => hn1 h.1)]
      go_enter Tryz.func27, Tryz.ntmps27
      go_wp2_with fail
      refine bodyPost_ret (results_cell_row rfl _ _ (W.heap.size + 1) _ _ (0, 0) _ rfl (heap_alloc2_new _ _ _) Tryz.underlying54 rfl (by kernel_rfl)) rfl ?_
      rw [HW.out]
      exact ⟨_, rfl, HF.out, ((Below.refl _ _).alloc (Nat.le_refl _) _).alloc (by simp) _⟩

end Go.Proofs.YtegahpgnmeobhaaGreatDoor

namespace Go.Proofs.YtegahpgnmeobhaaGreatDoor
open Go.RowKit

theorem nil_modify (W : World) (f1 f2 : Value) : Calls Tryz.prog 48 #[.pointer none, f1, f2] W fun e W' => e = .returned (.int .i64 1) ∧ W = W' := by
  have hr := dk_ready_nil W
  go_enter Tryz.func48, Tryz.ntmps48
  go_wp2_with fail
  refine hr.mono ?_
  rintro e w1 ⟨rfl, rfl⟩
  go_wp2_with fail
  go_ret
  exact ⟨rfl, rfl⟩

set_option maxHeartbeats 1000000 in
theorem nil_Create (W : World) (s : ByteArray) : Calls Tryz.prog 36 #[.pointer none, .string s] W fun e W' => e = .returned (.int .i64 1) ∧ Below W.heap.size W W' := by
  have hm := nil_modify
  go_enter Tryz.func36, Tryz.ntmps36
  go_wp2_with fail
  refine (hm _ _ _).mono ?_
  rintro e w1 ⟨rfl, rfl⟩
  go_wp2_with fail
  go_ret
  exact ⟨rfl, (((Below.refl _ _).alloc (by simp; try omega) _).alloc (by simp; try omega) _)⟩

set_option maxHeartbeats 1000000 in
theorem nil_Truncate (W : World) (s : ByteArray) (k : Int) : Calls Tryz.prog 58 #[.pointer none, .string s, .int .i64 k] W fun e W' => e = .returned (.int .i64 1) ∧ Below W.heap.size W W' := by
  have hm := nil_modify
  go_enter Tryz.func58, Tryz.ntmps58
  go_wp2_with fail
  refine (hm _ _ _).mono ?_
  rintro e w1 ⟨rfl, rfl⟩
  go_wp2_with fail
  go_ret
  exact ⟨rfl, ((((Below.refl _ _).alloc (by simp; try omega) _).alloc (by simp; try omega) _).alloc (by simp; try omega) _)⟩

set_option maxHeartbeats 1000000 in
theorem nil_Sync (W : World) (s : ByteArray) : Calls Tryz.prog 20 #[.pointer none, .string s] W fun e W' => e = .returned (.int .i64 1) ∧ Below W.heap.size W W' := by
  have hm := nil_modify
  go_enter Tryz.func20, Tryz.ntmps20
  go_wp2_with fail
  refine (hm _ _ _).mono ?_
  rintro e w1 ⟨rfl, rfl⟩
  go_wp2_with fail
  go_ret
  exact ⟨rfl, (((Below.refl _ _).alloc (by simp; try omega) _).alloc (by simp; try omega) _)⟩

set_option maxHeartbeats 1000000 in
theorem nil_Rename (W : World) (s t : ByteArray) : Calls Tryz.prog 23 #[.pointer none, .string s, .string t] W fun e W' => e = .returned (.int .i64 1) ∧ Below W.heap.size W W' := by
  have hm := nil_modify
  go_enter Tryz.func23, Tryz.ntmps23
  go_wp2_with fail
  refine (hm _ _ _).mono ?_
  rintro e w1 ⟨rfl, rfl⟩
  go_wp2_with fail
  go_ret
  exact ⟨rfl, ((((Below.refl _ _).alloc (by simp; try omega) _).alloc (by simp; try omega) _).alloc (by simp; try omega) _)⟩

set_option maxHeartbeats 1000000 in
theorem nil_Remove (W : World) (s : ByteArray) : Calls Tryz.prog 59 #[.pointer none, .string s] W fun e W' => e = .returned (.int .i64 1) ∧ Below W.heap.size W W' := by
  have hm := nil_modify
  go_enter Tryz.func59, Tryz.ntmps59
  go_wp2_with fail
  refine (hm _ _ _).mono ?_
  rintro e w1 ⟨rfl, rfl⟩
  go_wp2_with fail
  go_ret
  exact ⟨rfl, (((Below.refl _ _).alloc (by simp; try omega) _).alloc (by simp; try omega) _)⟩

set_option maxHeartbeats 1000000 in
theorem nil_SetBudget (W : World) (n : Int) : Calls Tryz.prog 18 #[.pointer none, .int .i64 n] W fun e W' => e = .returned (.int .i64 1) ∧ W = W' := by
  have hr := dk_ready_nil W
  go_enter Tryz.func18, Tryz.ntmps18
  go_wp2_with fail
  refine hr.mono ?_
  rintro e w1 ⟨rfl, rfl⟩
  go_wp2_with fail
  go_ret
  exact ⟨rfl, rfl⟩

set_option maxHeartbeats 1000000 in
theorem nil_Crash (W : World)  : Calls Tryz.prog 12 #[.pointer none] W fun e W' => e = .returned (.int .i64 1) ∧ W = W' := by
  have hr := dk_ready_nil W
  go_enter Tryz.func12, Tryz.ntmps12
  go_wp2_with fail
  refine hr.mono ?_
  rintro e w1 ⟨rfl, rfl⟩
  go_wp2_with fail
  go_ret
  exact ⟨rfl, rfl⟩

set_option maxHeartbeats 1000000 in
theorem nil_Read (W : World) (s : ByteArray) : Calls Tryz.prog 14 #[.pointer none, .string s] W fun e W' => e = .returned (.tuple #[.slice none 0 0, .int .i64 1]) ∧ W = W' := by
  have hr := dk_ready_nil W
  go_enter Tryz.func14, Tryz.ntmps14
  go_wp2_with fail
  refine hr.mono ?_
  rintro e w1 ⟨rfl, rfl⟩
  go_wp2_with fail
  go_ret2
  exact ⟨rfl, rfl⟩

set_option maxHeartbeats 1000000 in
theorem nil_Size (W : World) (s : ByteArray) : Calls Tryz.prog 24 #[.pointer none, .string s] W fun e W' => e = .returned (.tuple #[.int .i64 0, .int .i64 1]) ∧ W = W' := by
  have hr := dk_ready_nil W
  go_enter Tryz.func24, Tryz.ntmps24
  go_wp2_with fail
  refine hr.mono ?_
  rintro e w1 ⟨rfl, rfl⟩
  go_wp2_with fail
  go_ret2
  exact ⟨rfl, rfl⟩

set_option maxHeartbeats 1000000 in
theorem nil_List (W : World)  : Calls Tryz.prog 19 #[.pointer none] W fun e W' => e = .returned (.slice none 0 0) ∧ W = W' := by
  have hr := dk_ready_nil W
  go_enter Tryz.func19, Tryz.ntmps19
  go_wp2_with fail
  refine hr.mono ?_
  rintro e w1 ⟨rfl, rfl⟩
  go_wp2_with fail
  go_ret
  exact ⟨rfl, rfl⟩

set_option maxHeartbeats 1000000 in
theorem nil_Pending (W : World) (s : ByteArray) : Calls Tryz.prog 22 #[.pointer none, .string s] W fun e W' => e = .returned (.int .i64 0) ∧ W = W' := by
  have hr := dk_ready_nil W
  go_enter Tryz.func22, Tryz.ntmps22
  go_wp2_with fail
  refine hr.mono ?_
  rintro e w1 ⟨rfl, rfl⟩
  go_wp2_with fail
  go_ret
  exact ⟨rfl, rfl⟩

set_option maxHeartbeats 1000000 in
theorem nil_Budget (W : World)  : Calls Tryz.prog 33 #[.pointer none] W fun e W' => e = .returned (.int .i64 (-1)) ∧ W = W' := by
  go_enter Tryz.func33, Tryz.ntmps33
  go_wp2_with fail
  go_ret
  exact ⟨rfl, rfl⟩

set_option maxHeartbeats 1000000 in
theorem nil_Down (W : World)  : Calls Tryz.prog 31 #[.pointer none] W fun e W' => e = .returned (.bool false) ∧ W = W' := by
  go_enter Tryz.func31, Tryz.ntmps31
  go_wp2_with fail
  go_ret
  exact ⟨rfl, rfl⟩

set_option maxHeartbeats 1000000 in
theorem nil_Restart (W : World) (v : Value) : Calls Tryz.prog 13 #[.pointer none, v] W fun e W' => e = .returned (.int .i64 1) ∧ W = W' := by
  go_enter Tryz.func13, Tryz.ntmps13
  go_wp2_with fail
  go_ret
  exact ⟨rfl, rfl⟩

set_option maxHeartbeats 1000000 in
theorem nil_Clone (W : World)  : Calls Tryz.prog 21 #[.pointer none] W fun e W' => e = .returned (.pointer none) ∧ W = W' := by
  go_enter Tryz.func21, Tryz.ntmps21
  go_wp2_with fail
  go_ret
  exact ⟨rfl, rfl⟩

set_option maxHeartbeats 1000000 in
theorem nil_Equal (W : World) (p : Option Addr) : Calls Tryz.prog 34 #[.pointer none, .pointer p] W fun e W' => e = .returned (.bool p.isNone) ∧ W = W' := by
  go_enter Tryz.func34, Tryz.ntmps34
  go_wp2_with fail
  go_ret
  exact ⟨rfl, rfl⟩

set_option maxHeartbeats 1000000 in
theorem nil_write (W : World) (s : ByteArray) (k : FuncId) (cap : Array Value) (a : Option Addr) (n c : Nat) : Calls Tryz.prog 70 #[.pointer none, .string s, .func (.func k) #[] cap, .slice a n c] W fun e W' => e = .returned (.int .i64 1) ∧ Below W.heap.size W W' := by
  have hr := dk_ready_nil
  have hm := nil_modify
  rcases Nat.eq_zero_or_pos n with h0 | h0
  · subst h0
    go_enter Tryz.func70, Tryz.ntmps70
    go_wp2_with fail
    refine (hr _).mono ?_
    rintro e w1 ⟨rfl, rfl⟩
    go_wp2_with fail
    go_ret
    exact ⟨rfl, by repeat (first | exact Below.refl _ _ | refine Below.alloc ?_ (by simp; try omega) _)⟩
  · have hz : n ≠ 0 := by omega
    go_enter Tryz.func70, Tryz.ntmps70
    go_wp2_with fail
    refine (hm _ _ _).mono ?_
    rintro e w1 ⟨rfl, rfl⟩
    go_wp2_with fail
    go_ret
    exact ⟨rfl, by repeat (first | exact Below.refl _ _ | refine Below.alloc ?_ (by simp; try omega) _)⟩

set_option maxHeartbeats 1000000 in
theorem nil_Append (W : World) (s : ByteArray) (a : Option Addr) (n c : Nat) : Calls Tryz.prog 38 #[.pointer none, .string s, .slice a n c] W fun e W' => e = .returned (.int .i64 1) ∧ Below W.heap.size W W' := by
  have hw := nil_write
  go_enter Tryz.func38, Tryz.ntmps38
  go_wp2_with fail
  refine (hw _ _ _ _ _ _ _).mono ?_
  rintro e w1 ⟨rfl, hb⟩
  go_wp2_with fail
  go_ret
  exact ⟨rfl, hb⟩

set_option maxHeartbeats 1000000 in
theorem nil_WriteAt (W : World) (s : ByteArray) (off : Int) (a : Option Addr) (n c : Nat) : Calls Tryz.prog 57 #[.pointer none, .string s, .int .i64 off, .slice a n c] W fun e W' => e = .returned (.int .i64 1) ∧ Below W.heap.size W W' := by
  have hw := nil_write
  go_enter Tryz.func57, Tryz.ntmps57
  go_wp2_with fail
  refine (hw _ _ _ _ _ _ _).mono ?_
  rintro e w1 ⟨rfl, hb⟩
  go_wp2_with fail
  go_ret
  exact ⟨rfl, ((Below.refl _ W).alloc (Nat.le_refl _) _).trans (hb.mono (by simp))⟩

set_option maxRecDepth 100000 in
set_option maxHeartbeats 4000000 in
theorem nil_Do (W : World) (o : Dk.Op) (hk : o.kind < 10) (a : Option Addr) (l cap : Nat) : Calls Tryz.prog 29 #[.pointer none, opVal o (.slice a l cap)] W fun e W' => e = .returned (.int .i64 1) ∧ Below W.heap.size W W' := by
  obtain ⟨kind, name, to, n, b⟩ := o
  simp only [] at hk
  have hkk : kind = 0 ∨ kind = 1 ∨ kind = 2 ∨ kind = 3 ∨ kind = 4 ∨ kind = 5 ∨ kind = 6 ∨ kind = 7 ∨ kind = 8 ∨ kind = 9 := by omega
  clear hk
  unfold opVal
  have bA := fun (t : TypeId) (cs : Array Value) => (Below.refl W.heap.size W).alloc (Nat.le_refl _) (.cells cs t)
  have HB := Lib.hid bA
  clear bA
  rcases hkk with rfl | rfl | rfl | rfl | rfl | rfl | rfl | rfl | rfl | rfl
  · go_enter Tryz.func29, Tryz.ntmps29
    go_wp2_with fail
    refine (nil_Create _ _).mono ?_
    rintro e w1 ⟨rfl, hb⟩
    go_wp2_with fail
    go_ret
    exact ⟨rfl, (HB.out _ _).trans (hb.mono (by simp))⟩
  · go_enter Tryz.func29, Tryz.ntmps29
    go_wp2_with fail
    refine (nil_WriteAt _ _ _ _ _ _).mono ?_
    rintro e w1 ⟨rfl, hb⟩
    go_wp2_with fail
    go_ret
    exact ⟨rfl, (HB.out _ _).trans (hb.mono (by simp))⟩
  · go_enter Tryz.func29, Tryz.ntmps29
    go_wp2_with fail
    refine (nil_Append _ _ _ _ _).mono ?_
    rintro e w1 ⟨rfl, hb⟩
    go_wp2_with fail
    go_ret
    exact ⟨rfl, (HB.out _ _).trans (hb.mono (by simp))⟩
  · go_enter Tryz.func29, Tryz.ntmps29
    go_wp2_with fail
    refine (nil_Truncate _ _ _).mono ?_
    rintro e w1 ⟨rfl, hb⟩
    go_wp2_with fail
    go_ret
    exact ⟨rfl, (HB.out _ _).trans (hb.mono (by simp))⟩
  · go_enter Tryz.func29, Tryz.ntmps29
    go_wp2_with fail
    refine (nil_Sync _ _).mono ?_
    rintro e w1 ⟨rfl, hb⟩
    go_wp2_with fail
    go_ret
    exact ⟨rfl, (HB.out _ _).trans (hb.mono (by simp))⟩
  · go_enter Tryz.func29, Tryz.ntmps29
    go_wp2_with fail
    refine (nil_Rename _ _ _).mono ?_
    rintro e w1 ⟨rfl, hb⟩
    go_wp2_with fail
    go_ret
    exact ⟨rfl, (HB.out _ _).trans (hb.mono (by simp))⟩
  · go_enter Tryz.func29, Tryz.ntmps29
    go_wp2_with fail
    refine (nil_Remove _ _).mono ?_
    rintro e w1 ⟨rfl, hb⟩
    go_wp2_with fail
    go_ret
    exact ⟨rfl, (HB.out _ _).trans (hb.mono (by simp))⟩
  · go_enter Tryz.func29, Tryz.ntmps29
    go_wp2_with fail
    refine (nil_SetBudget _ _).mono ?_
    rintro e w1 ⟨rfl, rfl⟩
    go_wp2_with fail
    go_ret
    exact ⟨rfl, HB.out _ _⟩
  · go_enter Tryz.func29, Tryz.ntmps29
    go_wp2_with fail
    refine (nil_Crash _).mono ?_
    rintro e w1 ⟨rfl, rfl⟩
    go_wp2_with fail
    go_ret
    exact ⟨rfl, HB.out _ _⟩
  · go_enter Tryz.func29, Tryz.ntmps29
    go_wp2_with fail
    refine (nil_Restart _ _).mono ?_
    rintro e w1 ⟨rfl, rfl⟩
    go_wp2_with fail
    go_ret
    exact ⟨rfl, HB.out _ _⟩

end Go.Proofs.YtegahpgnmeobhaaGreatDoor
