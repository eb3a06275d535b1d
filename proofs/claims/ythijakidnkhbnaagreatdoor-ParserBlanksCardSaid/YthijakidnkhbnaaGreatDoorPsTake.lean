/-
  The parser's reader: take.
  The parser's reader: take in any state; identifiers.
-/
import Derived.Test.YthijakidnkhbnaaGreatDoorPsMem
import Derived.Deep.RegionHeld3
import Derived.Deep.RegionLaw
import Derived.RangeFuncBox

namespace Go.Proofs.YthijakidnkhbnaaGreatDoor
open Go.RowKit

set_option maxRecDepth 100000 in
set_option maxHeartbeats 400000 in
theorem ps_takeNo (W : World) (r : Nat) (f : Value) (ka : Option Addr) (kn kc : Nat) (P : World → Prop)
    (n1 : Calls Tryz.prog 20 #[.pointer (some ⟨r, 0, none⟩)] W fun e W' => e = .returned (.bool false) ∧ P W') :
    Calls Tryz.prog 97 #[.pointer (some ⟨r, 0, none⟩), f, .slice ka kn kc] W fun e W' => e = .returned (.tuple #[]) ∧ P W' := by
  go_enter Tryz.func97, Tryz.ntmps97
  go_wp2_with fail
  refine n1.mono ?_
  rintro x w ⟨rfl, hp⟩
  clear n1
  go_wp2_with fail
  refine bodyPost_ret (results_none rfl _ _ _) rfl ?_
  exact ⟨rfl, hp⟩

theorem ps_S5_drew {w : World} {p1 p2 p3 p4 p5 : Addr} {v1 v2 v3 v4 v5 : Value} (h : w.cell? p1 = some v1 ∧ w.cell? p2 = some v2 ∧ w.cell? p3 = some v3 ∧ w.cell? p4 = some v4 ∧ w.cell? p5 = some v5) : w.drew.cell? p1 = some v1 ∧ w.drew.cell? p2 = some v2 ∧ w.drew.cell? p3 = some v3 ∧ w.drew.cell? p4 = some v4 ∧ w.drew.cell? p5 = some v5 := h
theorem ps_S5_alloc {w : World} {p1 p2 p3 p4 p5 : Addr} {v1 v2 v3 v4 v5 : Value} (h : w.cell? p1 = some v1 ∧ w.cell? p2 = some v2 ∧ w.cell? p3 = some v3 ∧ w.cell? p4 = some v4 ∧ w.cell? p5 = some v5) (o : Obj) : (w.alloc o).cell? p1 = some v1 ∧ (w.alloc o).cell? p2 = some v2 ∧ (w.alloc o).cell? p3 = some v3 ∧ (w.alloc o).cell? p4 = some v4 ∧ (w.alloc o).cell? p5 = some v5 :=
  ⟨Lib.cell?_alloc_some _ h.1, Lib.cell?_alloc_some _ h.2.1, Lib.cell?_alloc_some _ h.2.2.1, Lib.cell?_alloc_some _ h.2.2.2.1, Lib.cell?_alloc_some _ h.2.2.2.2⟩

/-- what holds in take behind its test: the reader's row, the token at hand, the kinds -/
def TkAt (W : World) (r tb n cap a : Nat) (o : Int) (kd : Int) (t : ByteArray) (at_ : Int) (kb : Nat) (ks : List Int) (w : World) : Prop :=
  w.heap[r]? = some (.cells (rdCells tb n cap a o 0) 68 (0, 0)) ∧
  (w.cell? ⟨tb, a * 3, none⟩ = some (.int .i64 kd) ∧ w.cell? ⟨tb, a * 3 + 1, none⟩ = some (.string t) ∧ w.cell? ⟨tb, a * 3 + 2, none⟩ = some (.int .i64 at_)) ∧
  (∀ (j : Nat) (k : Int), ks[j]? = some k → w.cell? ⟨kb, j, none⟩ = some (.int .i64 k)) ∧ Tch r r W w

theorem ps_alloc_new (w : World) (o : Obj) : (w.alloc o).heap[w.heap.size]? = some o := World.alloc_heap_new w o

theorem TkAt.below {W : World} {r tb n cap a : Nat} {o kd at_ : Int} {t : ByteArray} {kb : Nat} {ks : List Int} {w w' : World} (h : TkAt W r tb n cap a o kd t at_ kb ks w) (hb : Below w.heap.size w w') : TkAt W r tb n cap a o kd t at_ kb ks w' := by
  obtain ⟨hr, ⟨t0, t1, t2⟩, hk, hT⟩ := h
  have up : ∀ {p : Addr} {v : Value}, w.cell? p = some v → w'.cell? p = some v := fun hp => (hb.cell (World.block_lt_of_cell? w _ hp)).trans hp
  exact ⟨(hb.block r (Array.getElem?_eq_some_iff.1 hr).1).trans hr, ⟨up t0, up t1, up t2⟩, fun j k hj => up (hk j k hj), hT.trans (Tch.of_below hb)⟩

set_option maxRecDepth 100000 in
set_option maxHeartbeats 400000 in
theorem ps_takeBad (W : World) (r tb n cap a : Nat) (o kd at_ : Int) (t : ByteArray) (f : Value) (kb kc : Nat) (ks : List Int) (hlt : (a : Int) < (n : Int)) (hks : ∀ k ∈ ks, (kd == k) = false) (_hkc : ks.length ≤ kc) (hkl : ks.length ≤ 100) (P : World → Prop)
    (n1 : Calls Tryz.prog 20 #[.pointer (some ⟨r, 0, none⟩)] W fun e W' => e = .returned (.bool true) ∧ TkAt W r tb n cap a o kd t at_ kb ks W')
    (n3 : Hid (∀ w, TkAt W r tb n cap a o kd t at_ kb ks w → Calls Tryz.prog 24 #[.pointer (some ⟨r, 0, none⟩), .int .i64 30] w fun e W' => e = .returned (.tuple #[]) ∧ P W')) :
    Calls Tryz.prog 97 #[.pointer (some ⟨r, 0, none⟩), f, .slice (some ⟨kb, 0, none⟩) ks.length kc] W fun e W' => e = .returned (.tuple #[]) ∧ P W' := by
  have HK := Lib.hid hks
  clear hks
  go_enter Tryz.func97, Tryz.ntmps97
  go_wp2_with fail
  refine n1.mono ?_
  rintro x w ⟨rfl, hT⟩
  have HT := Lib.hid hT
  obtain ⟨hr, ⟨t0, t1, t2⟩, -, -⟩ := hT
  obtain ⟨k0, k1, -, -, -⟩ := ps_rows hr
  have d0 : w.drew.cell? ⟨r, 0, none⟩ = some (.slice (some ⟨tb, 0, none⟩) n cap) := k0
  have d1 : w.drew.cell? ⟨r, 1, none⟩ = some (.int .i64 a) := k1
  have e0 : w.drew.cell? ⟨tb, a * 3, none⟩ = some (.int .i64 kd) := t0
  have e1 : w.drew.cell? ⟨tb, a * 3 + 1, none⟩ = some (.string t) := t1
  have e2 : w.drew.cell? ⟨tb, a * 3 + 2, none⟩ = some (.int .i64 at_) := t2
  have a0 := fun o => Lib.cell?_alloc_some (W := w) o t0
  have a1 := fun o => Lib.cell?_alloc_some (W := w) o t1
  have a2 := fun o => Lib.cell?_alloc_some (W := w) o t2
  have a3 := fun o => Lib.cell?_alloc_some (W := w) o k0
  have a4 := fun o => Lib.cell?_alloc_some (W := w) o k1
  clear n1 hr
  go_wp2_with fail
  have hS0 := And.intro k0 (And.intro k1 (And.intro t0 (And.intro t1 t2)))
  go_region_held3 (fun w' => w'.cell? ⟨r, 0, none⟩ = some (.slice (some ⟨tb, 0, none⟩) n cap) ∧ w'.cell? ⟨r, 1, none⟩ = some (.int .i64 a) ∧ w'.cell? ⟨tb, a * 3, none⟩ = some (.int .i64 kd) ∧ w'.cell? ⟨tb, a * 3 + 1, none⟩ = some (.string t) ∧ w'.cell? ⟨tb, a * 3 + 2, none⟩ = some (.int .i64 at_))
    (first | assumption | exact ps_S5_drew (by assumption) | exact ps_S5_alloc (by assumption) _)
    (fail)
  obtain ⟨w9, hw9⟩ : ∃ w9, w9 = (w.alloc (Obj.cells #[.int .i64 kd, .string t, .int .i64 at_] 78)).drew := ⟨_, rfl⟩
  obtain ⟨q, hq⟩ : ∃ q, q = w.heap.size := ⟨_, rfl⟩
  have HT9 : Hid (TkAt W r tb n cap a o kd t at_ kb ks w9) := Lib.hid (HT.out.below (by rw [hw9]; exact ((Below.refl _ _).alloc (Nat.le_refl _) _).drew))
  have hrow9 : w9.heap[q]? = some (.cells #[.int .i64 kd, .string t, .int .i64 at_] 78 (0, 0)) := by rw [hw9, hq]; exact ps_alloc_new w _
  have y0 : w9.cell? ⟨q, 0, none⟩ = some (.int .i64 kd) := by rw [cell_of_row _ _ _ _ _ _ hrow9]; rfl
  rw [← hw9, ← hq]
  clear hrow9 hw9 hq HT d0 d1 e0 e1 e2 a0 a1 a2 a3 a4 k0 k1 t0 t1 t2 hS0
  have n4 := n3.out w9 HT9.out
  go_wp2_with fail
  go_loopw [8, 25] (fun kv iv wr => ∃ j : Nat, j ≤ ks.length ∧ iv = .int .i64 j ∧ wr = w9) (fun _ iv _ => ks.length - (RowKit.intOf iv).toNat)
  case atStart => exact ⟨0, Nat.zero_le _, rfl, rfl⟩
  case round =>
    obtain ⟨j, hj, rfl, rfl⟩ := hrel
    by_cases hlt2 : j < ks.length
    · obtain ⟨k, hk⟩ : ∃ k, ks[j]? = some k := ⟨_, List.getElem?_eq_getElem hlt2⟩
      have x0 := HT9.out.2.2.1 j k hk
      have hkk := HK.out k (List.mem_of_getElem? hk)
      have hltI : (j : Int) < (ks.length : Int) := by omega
      clear hk n4 n3
      go_wp2_with fail
      refine ⟨⟨j + 1, by omega, by go_num, trivial⟩, by simp [RowKit.intOf] <;> omega⟩
    · have hltI : ¬ (j : Int) < (ks.length : Int) := by omega
      clear hlt2 n3
      go_wp2_with fail
      refine n4.mono ?_
      rintro x w5 ⟨rfl, hp⟩
      clear n4
      go_wp2_with fail
      go_end0
      exact ⟨rfl, hp⟩

set_option maxRecDepth 100000 in
set_option maxHeartbeats 400000 in
theorem ps_takeRej (W : World) (r tb n cap a : Nat) (o kd at_ : Int) (t : ByteArray) (g : Nat) (c1 c2 : Value) (kb kc : Nat) (ks : List Int) (hlt : (a : Int) < (n : Int)) (j0 : Nat) (hj0 : ks[j0]? = some kd) (hks : ∀ j k, j < j0 → ks[j]? = some k → (kd == k) = false) (_hkc : ks.length ≤ kc) (hkl : ks.length ≤ 100) (code : Int) (T2 P : World → Prop)
    (n1 : Calls Tryz.prog 20 #[.pointer (some ⟨r, 0, none⟩)] W fun e W' => e = .returned (.bool true) ∧ TkAt W r tb n cap a o kd t at_ kb ks W')
    (eg : ∀ args w, (callFunc g args).run Tryz.prog w = .ok (.enter g args) w)
    (acc : Hid (∀ w, TkAt W r tb n cap a o kd t at_ kb ks w → Calls Tryz.prog g #[.string t, c1, c2] w fun e W' => e = .returned (.int .i64 code) ∧ T2 W'))
    (hcode : (code == 0) = false)
    (n3 : Hid (∀ w, T2 w → Calls Tryz.prog 24 #[.pointer (some ⟨r, 0, none⟩), .int .i64 code] w fun e W' => e = .returned (.tuple #[]) ∧ P W')) :
    Calls Tryz.prog 97 #[.pointer (some ⟨r, 0, none⟩), .func (.func g) #[] #[c1, c2], .slice (some ⟨kb, 0, none⟩) ks.length kc] W fun e W' => e = .returned (.tuple #[]) ∧ P W' := by
  have HK := Lib.hid hks
  clear hks
  go_enter Tryz.func97, Tryz.ntmps97
  go_wp2_with fail
  refine n1.mono ?_
  rintro x w ⟨rfl, hT⟩
  have HT := Lib.hid hT
  obtain ⟨hr, ⟨t0, t1, t2⟩, -, -⟩ := hT
  obtain ⟨k0, k1, -, -, -⟩ := ps_rows hr
  have d0 : w.drew.cell? ⟨r, 0, none⟩ = some (.slice (some ⟨tb, 0, none⟩) n cap) := k0
  have d1 : w.drew.cell? ⟨r, 1, none⟩ = some (.int .i64 a) := k1
  have e0 : w.drew.cell? ⟨tb, a * 3, none⟩ = some (.int .i64 kd) := t0
  have e1 : w.drew.cell? ⟨tb, a * 3 + 1, none⟩ = some (.string t) := t1
  have e2 : w.drew.cell? ⟨tb, a * 3 + 2, none⟩ = some (.int .i64 at_) := t2
  have a0 := fun o => Lib.cell?_alloc_some (W := w) o t0
  have a1 := fun o => Lib.cell?_alloc_some (W := w) o t1
  have a2 := fun o => Lib.cell?_alloc_some (W := w) o t2
  have a3 := fun o => Lib.cell?_alloc_some (W := w) o k0
  have a4 := fun o => Lib.cell?_alloc_some (W := w) o k1
  clear n1 hr
  go_wp2_with fail
  have hS0 := And.intro k0 (And.intro k1 (And.intro t0 (And.intro t1 t2)))
  go_region_held3 (fun w' => w'.cell? ⟨r, 0, none⟩ = some (.slice (some ⟨tb, 0, none⟩) n cap) ∧ w'.cell? ⟨r, 1, none⟩ = some (.int .i64 a) ∧ w'.cell? ⟨tb, a * 3, none⟩ = some (.int .i64 kd) ∧ w'.cell? ⟨tb, a * 3 + 1, none⟩ = some (.string t) ∧ w'.cell? ⟨tb, a * 3 + 2, none⟩ = some (.int .i64 at_))
    (first | assumption | exact ps_S5_drew (by assumption) | exact ps_S5_alloc (by assumption) _)
    (fail)
  obtain ⟨w9, hw9⟩ : ∃ w9, w9 = (w.alloc (Obj.cells #[.int .i64 kd, .string t, .int .i64 at_] 78)).drew := ⟨_, rfl⟩
  obtain ⟨q, hq⟩ : ∃ q, q = w.heap.size := ⟨_, rfl⟩
  have HT9 : Hid (TkAt W r tb n cap a o kd t at_ kb ks w9) := Lib.hid (HT.out.below (by rw [hw9]; exact ((Below.refl _ _).alloc (Nat.le_refl _) _).drew))
  have hrow9 : w9.heap[q]? = some (.cells #[.int .i64 kd, .string t, .int .i64 at_] 78 (0, 0)) := by rw [hw9, hq]; exact ps_alloc_new w _
  have y0 : w9.cell? ⟨q, 0, none⟩ = some (.int .i64 kd) := by rw [cell_of_row _ _ _ _ _ _ hrow9]; rfl
  have y1 : w9.cell? ⟨q, 1, none⟩ = some (.string t) := by rw [cell_of_row _ _ _ _ _ _ hrow9]; rfl
  rw [← hw9, ← hq]
  clear hrow9 hw9 hq HT d0 d1 e0 e1 e2 a0 a1 a2 a3 a4 k0 k1 t0 t1 t2 hS0
  have n4 := acc.out w9 HT9.out
  clear acc
  go_wp2_with fail
  go_loopw [8, 25] (fun kv iv wr => ∃ j : Nat, j ≤ j0 ∧ iv = .int .i64 j ∧ wr = w9) (fun _ iv _ => ks.length - (RowKit.intOf iv).toNat)
  case atStart => exact ⟨0, Nat.zero_le _, rfl, rfl⟩
  case round =>
    obtain ⟨j, hj, rfl, rfl⟩ := hrel
    have hl0 : j0 < ks.length := (List.getElem?_eq_some_iff.1 hj0).1
    have hltI : (j : Int) < (ks.length : Int) := by omega
    have hltN : j < ks.length := by omega
    by_cases hlt2 : j < j0
    · obtain ⟨k, hk⟩ : ∃ k, ks[j]? = some k := ⟨_, List.getElem?_eq_getElem (by omega)⟩
      have x0 := HT9.out.2.2.1 j k hk
      have hkk := HK.out j k hlt2 hk
      clear hk n4 hj0
      go_wp2_with fail
      refine ⟨⟨j + 1, by omega, by go_num, trivial⟩, by simp [RowKit.intOf] <;> omega⟩
    · obtain rfl : j = j0 := by omega
      have x0 := HT9.out.2.2.1 j kd hj0
      clear hlt2 hj hj0
      go_wp2_with (go_at_fn g; refine n4.mono ?_; rintro x w5 ⟨rfl, hp⟩)
      refine (n3.out w5 hp).mono ?_
      rintro x w6 ⟨rfl, hp2⟩
      clear n3 n4 hp
      go_wp2_with fail
      refine bodyPost_ret (results_none rfl _ _ _) rfl ?_
      exact ⟨rfl, hp2⟩

set_option maxRecDepth 100000 in
set_option maxHeartbeats 400000 in
theorem ps_takeAcc (W : World) (r tb n cap a : Nat) (o kd at_ : Int) (t : ByteArray) (g : Nat) (c1 c2 : Value) (kb kc : Nat) (ks : List Int) (hlt : (a : Int) < (n : Int)) (j0 : Nat) (hj0 : ks[j0]? = some kd) (hks : ∀ j k, j < j0 → ks[j]? = some k → (kd == k) = false) (_hkc : ks.length ≤ kc) (hkl : ks.length ≤ 100) (hw1 : wrap64 ((a : Int) + 1) = ((a + 1 : Nat) : Int)) (T2 : World → Prop)
    (n1 : Calls Tryz.prog 20 #[.pointer (some ⟨r, 0, none⟩)] W fun e W' => e = .returned (.bool true) ∧ TkAt W r tb n cap a o kd t at_ kb ks W')
    (eg : ∀ args w, (callFunc g args).run Tryz.prog w = .ok (.enter g args) w)
    (acc : Hid (∀ w, TkAt W r tb n cap a o kd t at_ kb ks w → Calls Tryz.prog g #[.string t, c1, c2] w fun e W' => e = .returned (.int .i64 0) ∧ T2 W'))
    (hT : Hid (∀ w, T2 w → w.heap[r]? = some (.cells (rdCells tb n cap a o 0) 68 (0, 0)))) :
    Calls Tryz.prog 97 #[.pointer (some ⟨r, 0, none⟩), .func (.func g) #[] #[c1, c2], .slice (some ⟨kb, 0, none⟩) ks.length kc] W fun e W' => e = .returned (.tuple #[]) ∧ ∃ w5, T2 w5 ∧ W' = w5.setCell ⟨r, 1, none⟩ (.int .i64 ((a + 1 : Nat) : Int)) := by
  have HK := Lib.hid hks
  clear hks
  go_enter Tryz.func97, Tryz.ntmps97
  go_wp2_with fail
  refine n1.mono ?_
  rintro x w ⟨rfl, hT⟩
  have HT := Lib.hid hT
  obtain ⟨hr, ⟨t0, t1, t2⟩, -, -⟩ := hT
  obtain ⟨k0, k1, -, -, -⟩ := ps_rows hr
  have d0 : w.drew.cell? ⟨r, 0, none⟩ = some (.slice (some ⟨tb, 0, none⟩) n cap) := k0
  have d1 : w.drew.cell? ⟨r, 1, none⟩ = some (.int .i64 a) := k1
  have e0 : w.drew.cell? ⟨tb, a * 3, none⟩ = some (.int .i64 kd) := t0
  have e1 : w.drew.cell? ⟨tb, a * 3 + 1, none⟩ = some (.string t) := t1
  have e2 : w.drew.cell? ⟨tb, a * 3 + 2, none⟩ = some (.int .i64 at_) := t2
  have a0 := fun o => Lib.cell?_alloc_some (W := w) o t0
  have a1 := fun o => Lib.cell?_alloc_some (W := w) o t1
  have a2 := fun o => Lib.cell?_alloc_some (W := w) o t2
  have a3 := fun o => Lib.cell?_alloc_some (W := w) o k0
  have a4 := fun o => Lib.cell?_alloc_some (W := w) o k1
  clear n1 hr
  go_wp2_with fail
  have hS0 := And.intro k0 (And.intro k1 (And.intro t0 (And.intro t1 t2)))
  go_region_held3 (fun w' => w'.cell? ⟨r, 0, none⟩ = some (.slice (some ⟨tb, 0, none⟩) n cap) ∧ w'.cell? ⟨r, 1, none⟩ = some (.int .i64 a) ∧ w'.cell? ⟨tb, a * 3, none⟩ = some (.int .i64 kd) ∧ w'.cell? ⟨tb, a * 3 + 1, none⟩ = some (.string t) ∧ w'.cell? ⟨tb, a * 3 + 2, none⟩ = some (.int .i64 at_))
    (first | assumption | exact ps_S5_drew (by assumption) | exact ps_S5_alloc (by assumption) _)
    (fail)
  obtain ⟨w9, hw9⟩ : ∃ w9, w9 = (w.alloc (Obj.cells #[.int .i64 kd, .string t, .int .i64 at_] 78)).drew := ⟨_, rfl⟩
  obtain ⟨q, hq⟩ : ∃ q, q = w.heap.size := ⟨_, rfl⟩
  have HT9 : Hid (TkAt W r tb n cap a o kd t at_ kb ks w9) := Lib.hid (HT.out.below (by rw [hw9]; exact ((Below.refl _ _).alloc (Nat.le_refl _) _).drew))
  have hrow9 : w9.heap[q]? = some (.cells #[.int .i64 kd, .string t, .int .i64 at_] 78 (0, 0)) := by rw [hw9, hq]; exact ps_alloc_new w _
  have y0 : w9.cell? ⟨q, 0, none⟩ = some (.int .i64 kd) := by rw [cell_of_row _ _ _ _ _ _ hrow9]; rfl
  have y1 : w9.cell? ⟨q, 1, none⟩ = some (.string t) := by rw [cell_of_row _ _ _ _ _ _ hrow9]; rfl
  rw [← hw9, ← hq]
  clear hrow9 hw9 hq HT d0 d1 e0 e1 e2 a0 a1 a2 a3 a4 k0 k1 t0 t1 t2 hS0
  have n4 := acc.out w9 HT9.out
  clear acc
  go_wp2_with fail
  go_loopw [8, 25] (fun kv iv wr => ∃ j : Nat, j ≤ j0 ∧ iv = .int .i64 j ∧ wr = w9) (fun _ iv _ => ks.length - (RowKit.intOf iv).toNat)
  case atStart => exact ⟨0, Nat.zero_le _, rfl, rfl⟩
  case round =>
    obtain ⟨j, hj, rfl, rfl⟩ := hrel
    have hl0 : j0 < ks.length := (List.getElem?_eq_some_iff.1 hj0).1
    have hltI : (j : Int) < (ks.length : Int) := by omega
    have hltN : j < ks.length := by omega
    by_cases hlt2 : j < j0
    · obtain ⟨k, hk⟩ : ∃ k, ks[j]? = some k := ⟨_, List.getElem?_eq_getElem (by omega)⟩
      have x0 := HT9.out.2.2.1 j k hk
      have hkk := HK.out j k hlt2 hk
      clear hk n4 hj0
      go_wp2_with fail
      refine ⟨⟨j + 1, by omega, by go_num, trivial⟩, by simp [RowKit.intOf] <;> omega⟩
    · obtain rfl : j = j0 := by omega
      have x0 := HT9.out.2.2.1 j kd hj0
      clear hlt2 hj hj0
      go_wp2_with (go_at_fn g; refine n4.mono ?_; rintro x w5 ⟨rfl, hp⟩; have HP := Lib.hid hp; have HR5 := Lib.hid (hT.out w5 hp); have z1 := (ps_rows HR5.out).2.1; have f1 := ps_frozen 1 HR5.out; clear hp)
      refine bodyPost_ret (results_none rfl _ _ _) rfl ?_
      refine ⟨rfl, w5, HP.out, ?_⟩
      first | rfl | rw [hw1]

end Go.Proofs.YthijakidnkhbnaaGreatDoor

namespace Go.Proofs.YthijakidnkhbnaaGreatDoor
open Go.RowKit

/-- the text that take hands to its function -/
def takenS (l : List Ps.Tok) (ks : List Int) (st : Ps.St) : Option ByteArray := match st with
  | .ok a => match l[a]? with
    | some t => if t.1 ∈ ks then some t.2.1 else none
    | none => none
  | .error _ => none

theorem first_hit (ks : List Int) (k : Int) (h : k ∈ ks) : ∃ j : Nat, ks[j]? = some k ∧ ∀ (i : Nat) (x : Int), i < j → ks[i]? = some x → (k == x) = false := by
  induction ks with
  | nil => cases h
  | cons y ks ih =>
    by_cases hy : k = y
    · subst hy
      exact ⟨0, rfl, fun i x hi => by omega⟩
    · obtain ⟨j, hj, hb⟩ := ih (by simpa [hy] using h)
      refine ⟨j + 1, by simpa using hj, fun i x hi hx => ?_⟩
      cases i with
      | zero =>
        obtain rfl : y = x := by simpa using hx
        rw [beq_eq_false_iff_ne]; exact hy
      | succ i => exact hb i x (by omega) (by simpa using hx)

theorem ps_take {W : World} {r tb cap : Nat} {l : List Ps.Tok} {st : Ps.St} (h : RdSt W r tb cap l st) (hl : ToksOk l) (g : Nat) (c1 c2 : Value) (kb kc ob : Nat) (ks : List Int) (_hkb : kb ≠ r) (hkc : ks.length ≤ kc) (hkl : ks.length ≤ 100)
    (hk : ∀ (j : Nat) (k : Int), ks[j]? = some k → W.cell? ⟨kb, j, none⟩ = some (.int .i64 k)) (hob : ob ≠ r) (hot : ob ≠ tb) (code : ByteArray → Int) (X : Option ByteArray → World → Prop) (hX : ∀ s w w', X s w → Tch r r w w' → X s w') (h0 : X none W)
    (eg : ∀ args w, (callFunc g args).run Tryz.prog w = .ok (.enter g args) w)
    (hacc : ∀ s w, X none w → s.size ≤ 1000000 → Calls Tryz.prog g #[.string s, c1, c2] w fun e W' => e = .returned (.int .i64 (code s)) ∧ X (some s) W' ∧ Tch ob ob w W') :
    Calls Tryz.prog 97 #[.pointer (some ⟨r, 0, none⟩), .func (.func g) #[] #[c1, c2], .slice (some ⟨kb, 0, none⟩) ks.length kc] W fun e W' =>
      e = .returned (.tuple #[]) ∧ RdSt W' r tb cap l (Ps.step (Ps.take l (fun s => (s, code s)) ks) ⟨#[]⟩ st).2 ∧ Tch r ob W W' ∧ X (takenS l ks st) W' := by
  have n1 := ps_need h hl
  cases hb : Ps.okAt l st with
  | false =>
    rw [hb] at n1
    have e1 : Ps.needS l st = (Ps.step (Ps.take l (fun s => (s, code s)) ks) ⟨#[]⟩ st).2 ∧ takenS l ks st = none := by
      cases st with
      | error er => exact ⟨rfl, rfl⟩
      | ok a =>
        have hge : l.length ≤ a := by simpa [Ps.okAt] using hb
        have hn : l[a]? = none := List.getElem?_eq_none hge
        have hw : Ps.take l (fun s => (s, code s)) ks a = .error (Ps.short l) := by simp only [Ps.take, hn]
        rw [Ps.step_er hw]
        exact ⟨by simp [Ps.needS, Nat.not_lt.2 hge], by simp only [takenS, hn]⟩
    rw [e1.1] at n1
    rw [e1.2]
    refine (ps_takeNo W r _ _ _ _ _ n1).mono ?_
    rintro x w ⟨rfl, hs, hT⟩
    exact ⟨rfl, hs, hT.left, hX _ _ _ h0 hT⟩
  | true =>
    cases st with
    | error er => cases hb
    | ok a =>
      have hlt : a < l.length := by simpa [Ps.okAt] using hb
      obtain ⟨t, hta⟩ : ∃ t, l[a]? = some t := ⟨_, List.getElem?_eq_getElem hlt⟩
      have htok := hl t (List.mem_of_getElem? hta)
      have hm := ps_more h
      rw [hb] at hm
      obtain ⟨a', o, e, hr, ht, hne, hpos, hcap, hmany, hs⟩ := h
      obtain ⟨rfl, rfl, hle⟩ := hs
      obtain ⟨t0, t1, t2⟩ := ht a' t hta
      have m1 : Calls Tryz.prog 20 #[.pointer (some ⟨r, 0, none⟩)] W fun e W' => e = .returned (.bool true) ∧ TkAt W r tb l.length cap a' o t.1 t.2.1 t.2.2 kb ks W' := by
        refine (ps_needOk W r hm).mono ?_
        rintro x w ⟨rfl, k, rfl⟩
        exact ⟨rfl, hr, ⟨t0, t1, t2⟩, hk, Tch.drewN _ _ _ _⟩
      have back : ∀ w, TkAt W r tb l.length cap a' o t.1 t.2.1 t.2.2 kb ks w → RdSt w r tb cap l (.ok a') ∧ Tch r r W w := fun w hw =>
        ⟨⟨a', o, 0, hw.1, ht.tch hw.2.2.2 hne hne, hne, hpos, hcap, hmany, rfl, rfl, hle⟩, hw.2.2.2⟩
      by_cases hkd : t.1 ∈ ks
      · have htk : takenS l ks (.ok a') = some t.2.1 := by simp only [takenS, hta, if_pos hkd]
        obtain ⟨j0, hj0, hbef⟩ := first_hit ks t.1 hkd
        rw [htk]
        have acc : ∀ w, TkAt W r tb l.length cap a' o t.1 t.2.1 t.2.2 kb ks w → Calls Tryz.prog g #[.string t.2.1, c1, c2] w fun e W' => e = .returned (.int .i64 (code t.2.1)) ∧ (W'.heap[r]? = some (.cells (rdCells tb l.length cap a' o 0) 68 (0, 0)) ∧ Tch r ob W W' ∧ X (some t.2.1) W') := fun w hw => by
          refine (hacc t.2.1 w (hX _ _ _ h0 hw.2.2.2) htok.1).mono ?_
          rintro x w2 ⟨h1, h2, h3⟩
          exact ⟨h1, (h3.block r (Array.getElem?_eq_some_iff.1 hw.1).1 (Ne.symm hob) (Ne.symm hob)).trans hw.1, hw.2.2.2.left.trans h3.right, h2⟩
        by_cases hcode : code t.2.1 = 0
        · have hw : Ps.take l (fun s => (s, code s)) ks a' = .ok (t.2.1, a' + 1) := by simp only [Ps.take, hta, if_pos hkd, if_pos hcode]
          rw [Ps.step_ok hw]
          simp only [hcode] at acc
          refine (ps_takeAcc W r tb l.length cap a' o t.1 t.2.2 t.2.1 g c1 c2 kb kc ks (by omega) j0 hj0 hbef hkc hkl (by unfold wrap64; omega) _ m1 eg (Lib.hid acc) (Lib.hid fun w hw => hw.1)).mono ?_
          rintro x w ⟨rfl, w5, ⟨hr5, hT5, hX5⟩, rfl⟩
          have hT6 : Tch r r w5 (w5.setCell ⟨r, 1, none⟩ (.int .i64 ((a' + 1 : Nat) : Int))) := (Tch.refl _ _ _).setCell 1 _
          exact ⟨rfl, ⟨a' + 1, o, 0, ps_setCell w5 r 1 _ _ _ hr5, (ht.tch hT5 hne (Ne.symm hot)).tch hT6 hne hne, hne, hpos, hcap, hmany, rfl, rfl, hlt⟩, hT5.trans hT6.left, hX _ _ _ hX5 hT6⟩
        · have hw : Ps.take l (fun s => (s, code s)) ks a' = .error (Ps.offAt l a', code t.2.1) := by simp only [Ps.take, hta, if_pos hkd, if_neg hcode]
          rw [Ps.step_er hw]
          refine ps_takeRej W r tb l.length cap a' o t.1 t.2.2 t.2.1 g c1 c2 kb kc ks (by omega) j0 hj0 hbef hkc hkl (code t.2.1) _ _ m1 eg (Lib.hid acc) (by rw [beq_eq_false_iff_ne]; exact hcode) (Lib.hid fun w hw => ?_)
          have hs5 : RdSt w r tb cap l (.ok a') := ⟨a', o, 0, hw.1, ht.tch hw.2.1 hne (Ne.symm hot), hne, hpos, hcap, hmany, rfl, rfl, hle⟩
          refine (ps_fail hs5 (code t.2.1) hcode (fun b hb => by cases hb; exact hlt)).mono ?_
          rintro x w6 ⟨h1, h2, h3⟩
          exact ⟨h1, h2, hw.2.1.trans h3.left, hX _ _ _ hw.2.2 h3⟩
      · have htk : takenS l ks (.ok a') = none := by simp only [takenS, hta, if_neg hkd]
        rw [htk]
        have hw : Ps.take l (fun s => (s, code s)) ks a' = .error (Ps.offAt l a', 30) := by simp only [Ps.take, hta, if_neg hkd]
        rw [Ps.step_er hw]
        refine ps_takeBad W r tb l.length cap a' o t.1 t.2.2 t.2.1 _ kb kc ks (by omega) (fun k hk => by rw [beq_eq_false_iff_ne]; rintro rfl; exact hkd hk) hkc hkl _ m1 (Lib.hid fun w hw => ?_)
        refine (ps_fail (back w hw).1 30 (by decide) (fun b hb => by cases hb; exact hlt)).mono ?_
        rintro x w6 ⟨h1, h2, h3⟩
        exact ⟨h1, h2, ((back w hw).2.trans h3).left, hX _ _ _ h0 ((back w hw).2.trans h3)⟩

end Go.Proofs.YthijakidnkhbnaaGreatDoor
