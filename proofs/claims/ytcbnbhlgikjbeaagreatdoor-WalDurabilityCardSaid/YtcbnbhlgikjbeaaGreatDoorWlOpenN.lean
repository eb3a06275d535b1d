/-
  Open: the four early ways.
  Open's parts: the deferred closure, slices.Backward over nothing.
  Open on an empty disk.
-/
import Derived.Test.YtcbnbhlgikjbeaaGreatDoorWlAppend2
import Derived.Test.YtcbnbhlgikjbeaaGreatDoorWlValid2
import Derived.TacticsInMore
import Derived.Deep.CutBlock

namespace Go.Proofs.YtcbnbhlgikjbeaaGreatDoor
open Go.RowKit

set_option maxRecDepth 100000 in
theorem open_results (tmps : Array Value) (w : World) (b6 b7 b8 : Nat) (v6 v7 v8 : Value) (h6 : tmps.getD 6 undef = .pointer (some ⟨b6, 0, none⟩)) (h7 : tmps.getD 7 undef = .pointer (some ⟨b7, 0, none⟩)) (h8 : tmps.getD 8 undef = .pointer (some ⟨b8, 0, none⟩))
    (c6 : w.cell? ⟨b6, 0, none⟩ = some v6) (c7 : w.cell? ⟨b7, 0, none⟩ = some v7) (c8 : w.cell? ⟨b8, 0, none⟩ = some v8) : (results Tryz.f17 tmps).run Tryz.prog w = .ok (.tuple #[v6, v7, v8]) w := by
  have hr : Tryz.f17.results = #[.cell 6 32, .cell 7 53, .cell 8 42] := rfl
  simp only [results, hr]
  rw [Array.getD_eq_getD_getElem?] at h6 h7 h8
  simp [h6, h7, h8, go_sem, c6, c7, c8]

/-- the end of an early way -/
theorem open_end {w : World} {tmps : Array Value} {R : Ending → World → Prop} (b6 b7 b8 : Nat) (e : Int) (h6 : tmps.getD 6 undef = .pointer (some ⟨b6, 0, none⟩)) (h7 : tmps.getD 7 undef = .pointer (some ⟨b7, 0, none⟩)) (h8 : tmps.getD 8 undef = .pointer (some ⟨b8, 0, none⟩))
    (c6 : w.cell? ⟨b6, 0, none⟩ = some (.pointer none)) (c7 : w.cell? ⟨b7, 0, none⟩ = some (.slice none 0 0)) (c8 : w.cell? ⟨b8, 0, none⟩ = some (.int .i64 e)) (hR : R (.returned (.tuple #[.pointer none, .slice none 0 0, .int .i64 e])) w) :
    bodyPostM Fence.wide 5 Tryz.prog Tryz.f17 R .ret { tmps := tmps, defers := [] } w :=
  leavesM_end (open_results tmps w b6 b7 b8 _ _ _ h6 h7 h8 c6 c7 c8) hR
theorem open_cells {W w : World} {o3 : Obj} {v6 v7 v8 : Value} {t6 t7 t8 : TypeId} (hw : w = (((W.alloc o3).alloc (.cells #[v6] t6)).alloc (.cells #[v7] t7)).alloc (.cells #[v8] t8)) :
    w.cell? ⟨W.heap.size + 1, 0, none⟩ = some v6 ∧ w.cell? ⟨W.heap.size + 1 + 1, 0, none⟩ = some v7 ∧ w.cell? ⟨W.heap.size + 1 + 1 + 1, 0, none⟩ = some v8 ∧ Below W.heap.size W w := by
  subst hw
  have s1 : (W.alloc o3).heap.size = W.heap.size + 1 := by simp
  have s2 : ((W.alloc o3).alloc (.cells #[v6] t6)).heap.size = W.heap.size + 1 + 1 := by simp
  have s3 : (((W.alloc o3).alloc (.cells #[v6] t6)).alloc (.cells #[v7] t7)).heap.size = W.heap.size + 1 + 1 + 1 := by simp
  have r6 := heap_alloc_new (W.alloc o3) (.cells #[v6] t6)
  have r7 := heap_alloc_new ((W.alloc o3).alloc (.cells #[v6] t6)) (.cells #[v7] t7)
  have r8 := heap_alloc_new (((W.alloc o3).alloc (.cells #[v6] t6)).alloc (.cells #[v7] t7)) (.cells #[v8] t8)
  rw [s1] at r6
  rw [s2] at r7
  rw [s3] at r8
  refine ⟨Lib.cell?_alloc_some _ (Lib.cell?_alloc_some _ (by rw [cell_of_row _ _ _ _ _ _ r6]; rfl)), Lib.cell?_alloc_some _ (by rw [cell_of_row _ _ _ _ _ _ r7]; rfl), by rw [cell_of_row _ _ _ _ _ _ r8]; rfl, ?_⟩
  exact ((((Below.refl _ _).alloc (Nat.le_refl _) _).alloc (by omega) _).alloc (by omega) _).alloc (by omega) _

set_option maxRecDepth 100000 in
set_option maxHeartbeats 1000000 in
theorem wl_Open_nil (W : World) (p : ByteArray) (n : Int) :
    Calls Tryz.prog 17 #[.pointer none, .string p, .int .i64 n] W fun e W' => e = .returned (.tuple #[.pointer none, .slice none 0 0, .int .i64 1]) ∧ Below W.heap.size W W' := by
  refine calls_of_wp_marks Tryz.func17 rfl ?_
  simp only [Tryz.ntmps17, List.size_toArray, List.length_cons, List.length_nil, Nat.reduceAdd, Nat.reduceSub, Array.replicate_succ, Array.replicate_zero, List.push_toArray, List.append_toArray, List.nil_append, List.cons_append]
  go_wp2_with fail
  obtain ⟨c6, c7, c8, hb⟩ := open_cells (W := W) rfl
  exact open_end _ _ _ _ rfl rfl rfl c6 c7 c8 ⟨rfl, hb⟩

/-- the row of the argument's box ahead of the three results' -/
theorem open_boxes {W w : World} {o3 : Obj} {v6 v7 v8 : Value} {t6 t7 t8 : TypeId} (hw : w = (((W.alloc o3).alloc (.cells #[v6] t6)).alloc (.cells #[v7] t7)).alloc (.cells #[v8] t8)) : w.heap[W.heap.size]? = some o3 := by
  subst hw
  rw [Below.heap_alloc _ _ _ (by simp; omega), Below.heap_alloc _ _ _ (by simp; omega), Below.heap_alloc _ _ _ (by simp)]
  exact World.alloc_heap_new W o3

set_option maxRecDepth 100000 in
set_option maxHeartbeats 1000000 in
theorem wl_Open_prefix (W : World) (g : Nat) (p : ByteArray) (n : Int) (hp : Wl.validP p.data.toList = false) (hps : p.size ≤ 9223372036854775807) :
    Calls Tryz.prog 17 #[.pointer (some ⟨g, 0, none⟩), .string p, .int .i64 n] W fun e W' => e = .returned (.tuple #[.pointer none, .slice none 0 0, .int .i64 6]) ∧ Below W.heap.size W W' := by
  have nV := fun o => wl_validPrefix p o hps
  rw [hp] at nV
  refine calls_of_wp_marks Tryz.func17 rfl ?_
  simp only [Tryz.ntmps17, List.size_toArray, List.length_cons, List.length_nil, Nat.reduceAdd, Nat.reduceSub, Array.replicate_succ, Array.replicate_zero, List.push_toArray, List.append_toArray, List.nil_append, List.cons_append]
  go_wp2_with (go_at_call 48; refine (nV _).mono ?_; rintro e w1 ⟨rfl, rfl⟩)
  obtain ⟨c6, c7, c8, hb⟩ := open_cells (W := W) rfl
  exact open_end _ _ _ _ rfl rfl rfl c6 c7 c8 ⟨rfl, hb⟩

set_option maxRecDepth 100000 in
set_option maxHeartbeats 1000000 in
theorem wl_Open_size (W : World) (g : Nat) (p : ByteArray) (n : Int) (hp : Wl.validP p.data.toList = true) (hps : p.size ≤ 9223372036854775807) (hn : n < 64 ∨ 1048576 < n) :
    Calls Tryz.prog 17 #[.pointer (some ⟨g, 0, none⟩), .string p, .int .i64 n] W fun e W' => e = .returned (.tuple #[.pointer none, .slice none 0 0, .int .i64 2]) ∧ Below W.heap.size W W' := by
  have nV := fun o => wl_validPrefix p o hps
  rw [hp] at nV
  by_cases h64 : n < 64
  · clear hn
    refine calls_of_wp_marks Tryz.func17 rfl ?_
    simp only [Tryz.ntmps17, List.size_toArray, List.length_cons, List.length_nil, Nat.reduceAdd, Nat.reduceSub, Array.replicate_succ, Array.replicate_zero, List.push_toArray, List.append_toArray, List.nil_append, List.cons_append]
    go_wp2_with (go_at_call 48; refine (nV _).mono ?_; rintro e w1 ⟨rfl, rfl⟩)
    obtain ⟨c6, c7, c8, hb⟩ := open_cells (W := W) rfl
    exact open_end _ _ _ _ rfl rfl rfl c6 c7 c8 ⟨rfl, hb⟩
  · have h65 : 1048576 < n := by omega
    clear hn
    refine calls_of_wp_marks Tryz.func17 rfl ?_
    simp only [Tryz.ntmps17, List.size_toArray, List.length_cons, List.length_nil, Nat.reduceAdd, Nat.reduceSub, Array.replicate_succ, Array.replicate_zero, List.push_toArray, List.append_toArray, List.nil_append, List.cons_append]
    go_wp2_with (go_at_call 48; refine (nV _).mono ?_; rintro e w1 ⟨rfl, rfl⟩)
    obtain ⟨c6, c7, c8, hb⟩ := open_cells (W := W) rfl
    exact open_end _ _ _ _ rfl rfl rfl c6 c7 c8 ⟨rfl, hb⟩

set_option maxRecDepth 100000 in
set_option maxHeartbeats 1000000 in
theorem wl_Open_down {i : Nat} {c : Nat → Nat} {W : World} {g : Nat} {D : Dk.D} (hd : DiskAt i c W g D) (hdn : D.down = true) (p : ByteArray) (n : Int) (hp : Wl.validP p.data.toList = true) (hps : p.size ≤ 9223372036854775807) (h64 : ¬ n < 64) (h65 : ¬ 1048576 < n) :
    Calls Tryz.prog 17 #[.pointer (some ⟨g, 0, none⟩), .string p, .int .i64 n] W fun e W' => e = .returned (.tuple #[.pointer none, .slice none 0 0, .int .i64 32]) ∧ Below W.heap.size W W' := by
  have nV := fun o => wl_validPrefix p o hps
  rw [hp] at nV
  have nD : Hid (∀ o, Below W.heap.size W o → Calls Tryz.prog 49 #[.pointer (some ⟨g, 0, none⟩)] o fun e W' => e = .returned (.bool true) ∧ o = W') := Lib.hid (fun o ho => by have := dk_Down (hd.keepW ho); rw [hdn] at this; exact this)
  clear hd
  refine calls_of_wp_marks Tryz.func17 rfl ?_
  simp only [Tryz.ntmps17, List.size_toArray, List.length_cons, List.length_nil, Nat.reduceAdd, Nat.reduceSub, Array.replicate_succ, Array.replicate_zero, List.push_toArray, List.append_toArray, List.nil_append, List.cons_append]
  go_wp2_with (first | (go_at_call 48; refine (nV _).mono ?_; rintro e w1 ⟨rfl, rfl⟩) | (go_at_call 49; refine (nD.out _ (open_cells (W := W) rfl).2.2.2).mono ?_; rintro e w1 ⟨rfl, rfl⟩))
  obtain ⟨c6, c7, c8, hb⟩ := open_cells (W := W) rfl
  exact open_end _ _ _ _ rfl rfl rfl c6 c7 c8 ⟨rfl, hb⟩

end Go.Proofs.YtcbnbhlgikjbeaaGreatDoor

namespace Go.Proofs.YtcbnbhlgikjbeaaGreatDoor
open Go.RowKit

set_option maxRecDepth 100000 in
theorem wl_closure (w : World) (b6 b7 b8 : Nat) (c8 : w.cell? ⟨b8, 0, none⟩ = some (.int .i64 0)) :
    CallsDIn Fence.wide 4 Tryz.prog 50 #[.pointer (some ⟨b8, 0, none⟩), .pointer (some ⟨b6, 0, none⟩), .pointer (some ⟨b7, 0, none⟩)] .returning w fun e u' w' => u' = .returning ∧ ((∃ v, e = .returned v) ∧ w' = w) := by
  refine callsDIn_of_wp Tryz.func50 rfl trivial (wpIn_wide.2 ?_)
  simp only [Tryz.ntmps50, List.size_toArray, List.length_cons, List.length_nil, Nat.reduceAdd, Nat.reduceSub, Array.replicate_succ, Array.replicate_zero, List.push_toArray, List.append_toArray, List.nil_append, List.cons_append]
  go_wp2_with fail
  go_end0
  exact ⟨⟨_, rfl⟩, rfl⟩

set_option maxRecDepth 100000 in
theorem wl_Backward (w : World) (a : Option Addr) (n cap : Nat) : Calls Tryz.prog 54 #[.slice a n cap] w fun e w' => e = .returned (.func (.func 92) #[] #[.pointer (some ⟨w.heap.size, 0, none⟩)]) ∧ w' = w.alloc (.cells #[.slice a n cap] 23) := by
  have hmf : ∀ (fn : Fn) (first cap : Array Value) (w : World), (Instr.makeFunc fn first cap).run Tryz.prog w = .ok (.func fn first cap) w := fun _ _ _ _ => rfl
  go_enter Tryz.func54, Tryz.ntmps54
  go_wp2_with fail
  go_ret
  exact ⟨rfl, rfl⟩

set_option maxRecDepth 100000 in
theorem wl_Backward0 (w : World) (b l : Nat) (hb : w.cell? ⟨b, 0, none⟩ = some (.slice none 0 0)) :
    Calls Tryz.prog 92 (#[.func (.yield l) #[] #[]] ++ #[.pointer (some ⟨b, 0, none⟩)]) w fun e w' => (∃ v, e = .returned v) ∧ w' = w := by
  show Calls Tryz.prog 92 #[.func (.yield l) #[] #[], .pointer (some ⟨b, 0, none⟩)] w fun e w' => (∃ v, e = .returned v) ∧ w' = w
  go_enter Tryz.func92, Tryz.ntmps92
  go_wp2_with fail
  go_loopw [3] (fun iv wr => iv = .int .i64 (-1) ∧ wr = w) (fun _ _ => 0)
  case atStart => exact ⟨rfl, rfl⟩
  case round =>
    obtain ⟨rfl, rfl⟩ := hrel
    go_wp2_with fail
    go_end0
    exact ⟨⟨_, rfl⟩, rfl⟩

end Go.Proofs.YtcbnbhlgikjbeaaGreatDoor

namespace Go.Proofs.YtcbnbhlgikjbeaaGreatDoor
open Go.RowKit

theorem create_new (p : Wl.Bs) (hp : Wl.validP p = true) : Dk.D.create ⟨[], -1, false⟩ (Wl.name p 0) = (⟨[(Wl.name p 0, ⟨[], []⟩)], -1, false⟩, 0) := by
  have hv := Wl.valid_name (n := 0) hp (by omega)
  unfold Dk.D.create Dk.createCheck
  simp [hv, Dk.find, Dk.D.modify, Dk.ins, Dk.insBy]

theorem open_row1 (w : World) : (w.alloc (.cells #[.int .i64 0, .int .i64 0] 101)).ownsRow 0 101 2 (.slice (some ⟨w.heap.size, 0, none⟩) 1 1) (([] : List (Nat × Nat)).length + 1) (segCells [] ++ [.int .i64 (((0, 0) : Nat × Nat).1 : Nat), .int .i64 (((0, 0) : Nat × Nat).2 : Nat)]) :=
  ⟨by simp [segCells], .inr ⟨w.heap.size, 1, #[.int .i64 0, .int .i64 0], rfl, Nat.zero_le _, heap_alloc_new w _, by simp, by unfold maxLen; omega, by simp, rfl⟩⟩

theorem open_stores {w8 w9 : World} {b6 b7 b8 : Nat} {v6 v7 v8 : Value} {t6 t7 t8 : TypeId} (hw9 : w9 = (((w8.setCell ⟨b6, 0, none⟩ v6).setCell ⟨b7, 0, none⟩ v7).setCell ⟨b8, 0, none⟩ v8).drew)
    (h6 : w8.heap[b6]? = some (.cells #[v6] t6 (0, 0))) (h7 : w8.heap[b7]? = some (.cells #[v7] t7 (0, 0))) (h8 : w8.heap[b8]? = some (.cells #[v8] t8 (0, 0))) (n1 : ¬ b6 = b7) (n2 : ¬ b6 = b8) (n3 : ¬ b7 = b8) :
    w9.cell? ⟨b6, 0, none⟩ = some v6 ∧ w9.cell? ⟨b7, 0, none⟩ = some v7 ∧ w9.cell? ⟨b8, 0, none⟩ = some v8 ∧ (∀ b : Nat, w9.heap[b]? = w8.heap[b]?) ∧ (w9.heap.size = w8.heap.size ∧ w9.os = w8.os ∧ w9.tape = w8.tape ∧ w9.output = w8.output) := by
  have s6 := dk_setCell w8 b6 0 _ _ v6 h6
  have e7 : (w8.setCell ⟨b6, 0, none⟩ v6).heap[b7]? = w8.heap[b7]? := Below.heap_setCell w8 ⟨b6, 0, none⟩ _ b7 (fun e => n1 e.symm)
  have s7 := dk_setCell (w8.setCell ⟨b6, 0, none⟩ v6) b7 0 _ _ v7 (e7.trans h7)
  have e8 : ((w8.setCell ⟨b6, 0, none⟩ v6).setCell ⟨b7, 0, none⟩ v7).heap[b8]? = w8.heap[b8]? := (Below.heap_setCell _ ⟨b7, 0, none⟩ _ b8 (fun e => n3 e.symm)).trans (Below.heap_setCell _ ⟨b6, 0, none⟩ _ b8 (fun e => n2 e.symm))
  have s8 := dk_setCell ((w8.setCell ⟨b6, 0, none⟩ v6).setCell ⟨b7, 0, none⟩ v7) b8 0 _ _ v8 (e8.trans h8)
  have all : ∀ b : Nat, w9.heap[b]? = w8.heap[b]? := fun b => by
    rw [hw9]
    show (((w8.setCell ⟨b6, 0, none⟩ v6).setCell ⟨b7, 0, none⟩ v7).setCell ⟨b8, 0, none⟩ v8).heap[b]? = _
    by_cases hb8 : b = b8
    · subst hb8; rw [s8, h8]; rfl
    · rw [Below.heap_setCell _ ⟨b8, 0, none⟩ _ b hb8]
      by_cases hb7 : b = b7
      · subst hb7; rw [s7, h7]; rfl
      · rw [Below.heap_setCell _ ⟨b7, 0, none⟩ _ b hb7]
        by_cases hb6 : b = b6
        · subst hb6; rw [s6, h6]; rfl
        · exact Below.heap_setCell _ ⟨b6, 0, none⟩ _ b hb6
  refine ⟨by rw [cell_of_row _ _ _ _ _ _ ((all b6).trans h6)]; rfl, by rw [cell_of_row _ _ _ _ _ _ ((all b7).trans h7)]; rfl, by rw [cell_of_row _ _ _ _ _ _ ((all b8).trans h8)]; rfl, all, ?_⟩
  rw [hw9]
  refine ⟨?_, rfl, rfl, rfl⟩
  show (((w8.setCell ⟨b6, 0, none⟩ v6).setCell ⟨b7, 0, none⟩ v7).setCell ⟨b8, 0, none⟩ v8).heap.size = _
  simp

/-- storing what is there -/
theorem open_again {w : World} {a : Nat} {v : Value} {t : TypeId} (ha : w.heap[a]? = some (.cells #[v] t (0, 0))) : ∀ b : Nat, (w.setCell ⟨a, 0, none⟩ v).heap[b]? = w.heap[b]? := fun b => by
  by_cases h : b = a
  · subst h; rw [dk_setCell w b 0 _ _ v ha, ha]; rfl
  · exact Below.heap_setCell w ⟨a, 0, none⟩ _ b h

theorem wl_grownPut (w : World) (D : Nat) : w.grownBy (w.putObj D (.deferred none)) (some D) := grownBy_putObj' w D (.deferred none)

theorem open_world {W w : World} {o1 o2 o3 o4 o5 : Obj} (hw : w = (((((W.alloc o1).alloc o2).alloc o3).alloc o4).alloc o5)) :
    Below W.heap.size W w ∧ w.heap[W.heap.size]? = some o1 ∧ w.heap[W.heap.size + 1]? = some o2 ∧ w.heap[W.heap.size + 1 + 1]? = some o3 ∧ w.heap[W.heap.size + 1 + 1 + 1]? = some o4 ∧ w.heap[W.heap.size + 1 + 1 + 1 + 1]? = some o5 ∧ w.heap.size = W.heap.size + 1 + 1 + 1 + 1 + 1 := by
  subst hw
  have e1 := World.alloc_heap_new W o1
  have e2 := World.alloc_heap_new (W.alloc o1) o2
  have e3 := World.alloc_heap_new ((W.alloc o1).alloc o2) o3
  have e4 := World.alloc_heap_new (((W.alloc o1).alloc o2).alloc o3) o4
  have e5 := World.alloc_heap_new ((((W.alloc o1).alloc o2).alloc o3).alloc o4) o5
  simp only [World.size_alloc] at e2 e3 e4 e5
  refine ⟨(((((Below.refl _ _).alloc (Nat.le_refl _) _).alloc (by simp) _).alloc (by simp <;> omega) _).alloc (by simp <;> omega) _).alloc (by simp <;> omega) _, ?_, ?_, ?_, ?_, e5, by simp⟩
  · rw [Below.heap_alloc _ _ _ (by simp <;> omega), Below.heap_alloc _ _ _ (by simp <;> omega), Below.heap_alloc _ _ _ (by simp <;> omega), Below.heap_alloc _ _ _ (by simp)]; exact e1
  · rw [Below.heap_alloc _ _ _ (by simp <;> omega), Below.heap_alloc _ _ _ (by simp <;> omega), Below.heap_alloc _ _ _ (by simp)]; exact e2
  · rw [Below.heap_alloc _ _ _ (by simp <;> omega), Below.heap_alloc _ _ _ (by simp)]; exact e3
  · rw [Below.heap_alloc _ _ _ (by simp)]; exact e4

set_option maxRecDepth 100000 in
set_option maxHeartbeats 2000000 in
theorem wl_Open_new {i j : Nat} {c : Nat → Nat} {W : World} {g : Nat} (hd : DiskAt i c W g ⟨[], -1, false⟩) (hij : i ≠ j) (hj0 : j ≠ 0) (p : ByteArray) (n : Nat) (hp : Wl.validP p.data.toList = true) (hps : p.size ≤ 16) (h64 : ¬ (n : Int) < 64) (h65 : ¬ (1048576 : Int) < (n : Int)) :
    Calls Tryz.prog 17 #[.pointer (some ⟨g, 0, none⟩), .string p, .int .i64 n] W fun e W' => ∃ h c', e = .returned (.tuple #[.pointer (some ⟨h, 0, none⟩), .slice none 0 0, .int .i64 0]) ∧
      DiskAt i c' W' g (Dk.D.create ⟨[], -1, false⟩ (Wl.name p.data.toList 0)).1 ∧ LogAt j c' W' h g ⟨p.data.toList, n, [(0, 0)], 0, 0⟩ ∧ Chg i c c' W W' := by
  have nV := fun o => wl_validPrefix p o (show p.size ≤ 9223372036854775807 by omega)
  rw [hp] at nV
  have hmf : ∀ (fn : Fn) (first cap : Array Value) (w : World), (Instr.makeFunc fn first cap).run Tryz.prog w = .ok (.func fn first cap) w := fun _ _ _ _ => rfl
  have nD : Hid (∀ o, Below W.heap.size W o → Calls Tryz.prog 49 #[.pointer (some ⟨g, 0, none⟩)] o fun e W' => e = .returned (.bool false) ∧ o = W') := Lib.hid (fun o ho => dk_Down (hd.keepW ho))
  have nL : Hid (∀ o, Below W.heap.size W o → Calls Tryz.prog 25 #[.pointer (some ⟨g, 0, none⟩)] o fun e W' => ∃ a cap, e = .returned (.slice a 0 cap) ∧ Below o.heap.size o W') := Lib.hid (fun o ho => by
    refine (dk_List (hd.keepW ho) (by simp)).mono ?_
    rintro e W' ⟨v, rfl, ho', hb⟩
    obtain ⟨_, ⟨rfl, _⟩ | ⟨g', cap, cur, rfl, _⟩⟩ := ho'
    · exact ⟨none, 0, rfl, hb⟩
    · exact ⟨_, cap, rfl, hb⟩)
  have HD := Lib.hid hd
  clear hd
  refine calls_of_wp_marks Tryz.func17 rfl ?_
  simp only [Tryz.ntmps17, List.size_toArray, List.length_cons, List.length_nil, Nat.reduceAdd, Nat.reduceSub, Array.replicate_succ, Array.replicate_zero, List.push_toArray, List.append_toArray, List.nil_append, List.cons_append]
  go_upto_region 9 with (first | (go_at_call 48; refine (nV _).mono ?_; rintro e w1 ⟨rfl, rfl⟩) | (go_at_call 49; refine (nD.out _ (open_cells (W := W) rfl).2.2.2).mono ?_; rintro e w1 ⟨rfl, rfl⟩))
  --@1
  go_upto_region 13 with fail
  obtain ⟨W1, hW1⟩ : ∃ W1, W1 = (((((W.alloc (.cells #[.pointer (some ⟨g, 0, none⟩)] 26)).alloc (.cells #[.pointer (some ⟨W.heap.size + 1 + 1 + 1 + 1, 0, none⟩)] 32)).alloc (.cells #[.slice none 0 0] 53)).alloc (.cells #[.int .i64 0] 42)).alloc
      (.cells #[.pointer (some ⟨g, 0, none⟩), .string p, .int .i64 n, .slice none 0 0, .int .i64 0, .int .i64 0] 93)) := ⟨_, rfl⟩
  obtain ⟨hb1, rB, r6, r7, r8, rh, hs1⟩ := open_world hW1
  have HW1 := Lib.hid hW1
  have RB := Lib.hid rB
  have R6 := Lib.hid r6
  have R7 := Lib.hid r7
  have R8 := Lib.hid r8
  have RH := Lib.hid rh
  have HB1 := Lib.hid hb1
  have cB : W1.cell? ⟨W.heap.size, 0, none⟩ = some (.pointer (some ⟨g, 0, none⟩)) := by rw [cell_of_row _ _ _ _ _ _ rB]; rfl
  have n2 := nL.out W1 hb1
  clear hW1 rB r6 r7 r8 rh hb1 nV nD
  rw [← HW1.out]
  go_upto_block 1 with (go_at_call 25; refine n2.mono ?_; rintro e w2 ⟨la, lc, rfl, b2⟩)
  have HB2 := Lib.hid (HB1.out.trans (b2.mono HB1.out.size))
  have R6b := Lib.hid ((b2.block _ (by omega)).trans R6.out)
  have R7b := Lib.hid ((b2.block _ (by omega)).trans R7.out)
  have R8b := Lib.hid ((b2.block _ (by omega)).trans R8.out)
  have RHb := Lib.hid ((b2.block _ (by omega)).trans RH.out)
  have cB2 := (b2.cell (p := ⟨W.heap.size, 0, none⟩) (by show W.heap.size < _; omega)).trans cB
  have hs2 : W.heap.size + 1 + 1 + 1 + 1 + 1 ≤ w2.heap.size := by have := b2.size; omega
  clear n2 cB b2 R6 R7 R8 RH RB HW1
  go_wp2_with fail
  go_loopw [9, 10, 11, 12, 55] (fun v9 v10 v11 v12 iv wr => v9 = .slice none 0 0 ∧ v10 = .string ⟨#[]⟩ ∧ v11 = .int .i64 0 ∧ v12 = .bool false ∧ iv = .int .i64 0 ∧ wr = w2) (fun _ _ _ _ _ _ => 0)
  case atStart => exact ⟨rfl, rfl, rfl, rfl, rfl, rfl⟩
  case round =>
    obtain ⟨rfl, rfl, rfl, rfl, rfl, rfl⟩ := hrel
    --@2
    have n3 := wl_Backward wr none 0 0
    go_wp2_with (go_at_call 54; refine n3.mono ?_; rintro e w3 ⟨rfl, rfl⟩)
    obtain ⟨w3, hw3⟩ : ∃ w3, w3 = wr.alloc (.cells #[.slice none 0 0] 23) := ⟨_, rfl⟩
    have hb3 : Below wr.heap.size wr w3 := by rw [hw3]; exact (Below.refl _ _).alloc (Nat.le_refl _) _
    have hc3 : w3.cell? ⟨wr.heap.size, 0, none⟩ = some (.slice none 0 0) := by rw [hw3, cell_of_row _ _ _ _ _ _ (heap_alloc_new wr _)]; rfl
    have hlt3 : wr.heap.size < w3.heap.size := by rw [hw3]; simp
    rw [← hw3]
    refine wp_rangeFunc_none (gf := 92) (lb := #[.pointer (some ⟨wr.heap.size, 0, none⟩)]) rfl (enters_of Tryz.func92 (by kernel_rfl) rfl) (fun l W' hW' => wl_Backward0 W' wr.heap.size l ((hW'.cell (p := ⟨wr.heap.size, 0, none⟩) hlt3).trans hc3)) ?_
    intro D w4 hD hb4 hdef
    have hb24 : Below wr.heap.size wr w4 := hb3.trans (hb4.mono hb3.size)
    have HB4 := Lib.hid (HB2.out.trans (hb24.mono HB2.out.size))
    have R6 := Lib.hid ((hb24.block _ (by omega)).trans R6b.out)
    have R7 := Lib.hid ((hb24.block _ (by omega)).trans R7b.out)
    have R8 := Lib.hid ((hb24.block _ (by omega)).trans R8b.out)
    have RH := Lib.hid ((hb24.block _ (by omega)).trans RHb.out)
    have cB4 := (hb24.cell (p := ⟨W.heap.size, 0, none⟩) (by show W.heap.size < _; omega)).trans cB2
    have c6 : w4.cell? ⟨W.heap.size + 1, 0, none⟩ = some (.pointer (some ⟨W.heap.size + 1 + 1 + 1 + 1, 0, none⟩)) := by rw [cell_of_row _ _ _ _ _ _ R6.out]; rfl
    have c3 : w4.cell? ⟨W.heap.size + 1 + 1 + 1 + 1, 3, none⟩ = some (.slice none 0 0) := (row_cells6 RH.out).2.2.2.1
    have HDF := Lib.hid hdef
    have hDB : W.heap.size + 1 + 1 + 1 + 1 + 1 ≤ D := by omega
    clear HB1 HB2 R6b R7b R8b RHb cB2 n3 hw3 hb3 hc3 hlt3 hb4 hdef hb24 hs1 hs2
    --@3
    go_wp2_with fail
    go_loopw [166] (fun iv wr => iv = .int .i64 0 ∧ wr = w4) (fun _ _ => 0)
    case atStart => exact ⟨rfl, rfl⟩
    case round =>
      obtain ⟨rfl, rfl⟩ := hrel
      rename_i w4x
      --@4
      go_upto_region 49 with fail
      obtain ⟨nm, hnm⟩ : ∃ nm, nm = Wl.name p.data.toList 0 := ⟨_, rfl⟩
      have hcr := create_new p.data.toList hp
      have HNM := Lib.hid hnm
      rw [← hnm] at hcr
      have hns : (⟨nm.toArray⟩ : ByteArray).size ≤ 9223372036854775807 := by
        have := Wl.name_length (p := p.data.toList) (n := 0) (by omega)
        rw [← hnm] at this
        have h5 : p.data.toList.length = p.size := by rw [Array.length_toList]; rfl
        show nm.toArray.size ≤ _
        simp; omega
      have HD1 := Lib.hid (HD.out.below HB4.out j)
      have nN : Hid (∀ o, Calls Tryz.prog 58 #[.string p, .int .i64 0] o fun e W' => e = .returned (.string ⟨nm.toArray⟩) ∧ Below o.heap.size o W') :=
        Lib.hid (fun o => by rw [hnm]; exact wl_name o p 0 (by decide) (by omega))
      have nC : Hid (∀ o, Below wr.heap.size wr o → Calls Tryz.prog 11 #[.pointer (some ⟨g, 0, none⟩), .string ⟨nm.toArray⟩] o (DkPost i (pnt c W.heap.size j) o g (⟨[(nm, ⟨[], []⟩)], -1, false⟩, 0))) := Lib.hid (fun o ho => by rw [← hcr]; exact dk_create (HD1.out.keepW ho) ⟨nm.toArray⟩ hns (by decide) (by simp))
      have HCR := Lib.hid hcr
      clear hns hcr hnm c6 c3
      go_region_held3 (fun w' => w'.cell? ⟨W.heap.size, 0, none⟩ = some (.pointer (some ⟨g, 0, none⟩)))
        (first | assumption | go_keep)
        (first
          | (go_at_call 58; refine (nN.out _).mono ?_; rintro e w5 ⟨rfl, hb5⟩; have hB5 : Below wr.heap.size wr w5 := (Below.drew (Below.refl _ _)).trans hb5; have cB5 := (hb5.cell (p := ⟨W.heap.size, 0, none⟩) (World.block_lt_of_cell? _ _ (by assumption))).trans (by assumption))
          | (go_at_call 11; refine (nC.out _ hB5).mono ?_; rintro e w6 ⟨c6x, rfl, hd6, hc6⟩; have cB6 := ap_cell_chg cB5 hc6 (by rw [pnt_new (Nat.le_refl _)]; exact Ne.symm hij)))
      --@5
      have hws := HB4.out.size
      have hlth : W.heap.size + 1 + 1 + 1 + 1 < wr.heap.size := (Array.getElem?_eq_some_iff.1 RH.out).1
      have hltD : D < wr.heap.size := (Array.getElem?_eq_some_iff.1 HDF.out).1
      have hk6 : ∀ b, W.heap.size ≤ b → b < wr.heap.size → w6.heap[b]? = wr.heap[b]? ∧ c6x b = j := fun b hb1 hb2 =>
        ⟨(hc6.block b (Nat.lt_of_lt_of_le hb2 hB5.size) (by rw [pnt_new hb1]; exact Ne.symm hij)).trans (hB5.block b hb2), by rw [hc6.col b (Nat.lt_of_lt_of_le hb2 hB5.size), pnt_new hb1]⟩
      have hk0 : ∀ b, b < W.heap.size → c b ≠ i → w6.heap[b]? = W.heap[b]? := fun b hb1 hb2 =>
        (hc6.block b (by have := hB5.size; omega) (by rw [pnt_old hb1]; exact hb2)).trans ((hB5.block b (by omega)).trans (HB4.out.block b hb1))
      have hkc : ∀ b, b < W.heap.size → c6x b = c b := fun b hb => by rw [hc6.col b (by have := hB5.size; omega), pnt_old hb]
      have hs6 : wr.heap.size ≤ w6.heap.size := Nat.le_trans hB5.size hc6.size
      have hos : w6.os = W.os ∧ w6.tape = W.tape ∧ w6.output = W.output := ⟨hc6.os.trans (hB5.os.trans HB4.out.os), hc6.tape.trans (hB5.tape.trans HB4.out.tape), hc6.output.trans (hB5.output.trans HB4.out.output)⟩
      have q6 := (hk6 _ (by omega) (by omega)).1.trans R6.out
      have q7 := (hk6 _ (by omega) (by omega)).1.trans R7.out
      have q8 := (hk6 _ (by omega) (by omega)).1.trans R8.out
      have qh := (hk6 _ (by omega) hlth).1.trans RH.out
      have qD := (hk6 D (by omega) hltD).1.trans HDF.out
      obtain ⟨h, hh⟩ : ∃ h, h = W.heap.size + 1 + 1 + 1 + 1 := ⟨_, rfl⟩
      obtain ⟨b6, hb6⟩ : ∃ b6, b6 = W.heap.size + 1 := ⟨_, rfl⟩
      obtain ⟨b7, hb7⟩ : ∃ b7, b7 = W.heap.size + 1 + 1 := ⟨_, rfl⟩
      obtain ⟨b8, hb8⟩ : ∃ b8, b8 = W.heap.size + 1 + 1 + 1 := ⟨_, rfl⟩
      have HK6 := Lib.hid hk6
      have HK0 := Lib.hid hk0
      have HKC := Lib.hid hkc
      have HOS := Lib.hid hos
      have HD6 := Lib.hid hd6
      rw [← hh] at q6 qh hlth hDB ⊢
      rw [← hb8] at q8 ⊢
      rw [← hb7] at q7 ⊢
      rw [← hb6] at q6 ⊢
      have Q6 := Lib.hid q6
      have Q7 := Lib.hid q7
      have Q8 := Lib.hid q8
      have QH := Lib.hid qh
      have QD := Lib.hid qD
      have HHS := Lib.hid (And.intro hh (And.intro hb6 (And.intro hb7 hb8)))
      have hne1 : ¬ h = b6 := by omega
      have hne2 : ¬ h = b7 := by omega
      have hne3 : ¬ h = b8 := by omega
      have hne4 : ¬ b6 = h := by omega
      have hne5 : ¬ b7 = h := by omega
      have hne6 : ¬ b8 = h := by omega
      have hne7 : ¬ b6 = b7 := by omega
      have hne8 : ¬ b6 = b8 := by omega
      have hne9 : ¬ b7 = b8 := by omega
      clear hk6 hk0 hkc hos hd6 hc6 hb5 hB5 cB5 cB6 cB4 nN nC HD1 HB4 R6 R7 R8 RH HDF hws hh hb6 hb7 hb8
      --@6
      have c6 : w6.cell? ⟨b6, 0, none⟩ = some (.pointer (some ⟨h, 0, none⟩)) := by rw [cell_of_row _ _ _ _ _ _ q6]; rfl
      have qha : (w6.alloc (.cells #[.int .i64 0, .int .i64 0] 101)).heap[h]? = _ := (Below.heap_alloc w6 _ h (Array.getElem?_eq_some_iff.1 qh).1).trans qh
      have f3 : (w6.alloc (.cells #[.int .i64 0, .int .i64 0] 101)).frozen? ⟨h, 3, none⟩ = false := dk_frozen _ _ _ _ _ qha
      have c3 : (w6.alloc (.cells #[.int .i64 0, .int .i64 0] 101)).cell? ⟨h, 3, none⟩ = some (.slice none 0 0) := (row_cells6 qha).2.2.2.1
      clear q6 q7 q8 qh qD qha
      go_upto_region 53 with fail
      obtain ⟨w7, hw7⟩ : ∃ w7, w7 = (w6.alloc (.cells #[.int .i64 0, .int .i64 0] 101)).setCell ⟨h, 3, none⟩ (.slice (some ⟨w6.heap.size, 0, none⟩) 1 1) := ⟨_, rfl⟩
      have HCH := Lib.hid (HK6.out h (by have := HHS.out.1; omega) hlth).2
      have hl6 : LogIs j c6x w6 h g ⟨p.data.toList, n, [], 0, 0⟩ (.slice none 0 0) := ⟨QH.out, World.ownsRow_nil _ _ _ _, HCH.out, fun b hb => by cases hb⟩
      obtain ⟨hl7, hc7⟩ := hl6.more (w1 := w6) (w2 := w6.alloc (.cells #[.int .i64 0, .int .i64 0] 101)) (v2 := .slice (some ⟨w6.heap.size, 0, none⟩) 1 1) (s := (0, 0)) (Below.refl _ _) (Nat.le_refl _)
        (open_row1 w6) (World.grownBy_alloc w6 _ none) (.inr rfl)
      rw [← hw7] at hl7 hc7 ⊢
      have hg7 : ∀ b, b < w6.heap.size → b ≠ h → w7.heap[b]? = w6.heap[b]? := fun b hb hne => by
        rw [hw7, (wl_set _ h 3 _).block b (by simp; omega) (fun e => hne (by cases e; rfl)), Below.heap_alloc _ _ _ hb]
      have HG7 := Lib.hid hg7
      have hs6D : w6.heap.size > D := (Array.getElem?_eq_some_iff.1 QD.out).1
      have e6 := (hg7 b6 (Array.getElem?_eq_some_iff.1 Q6.out).1 hne4).trans Q6.out
      have e7 := (hg7 b7 (Array.getElem?_eq_some_iff.1 Q7.out).1 hne5).trans Q7.out
      have e8 := (hg7 b8 (Array.getElem?_eq_some_iff.1 Q8.out).1 hne6).trans Q8.out
      have eD := (hg7 D hs6D (by omega)).trans QD.out
      have HL7 := Lib.hid hl7
      have HC7 := Lib.hid hc7
      have c6 : w7.cell? ⟨b6, 0, none⟩ = some (.pointer (some ⟨h, 0, none⟩)) := by rw [cell_of_row _ _ _ _ _ _ e6]; rfl
      have c4 : w7.cell? ⟨h, 4, none⟩ = some (.int .i64 0) := (row_cells6 hl7.row).2.2.2.2.1
      have f5 : w7.frozen? ⟨h, 5, none⟩ = false := dk_frozen _ _ _ _ _ hl7.row
      have f5d : w7.drew.frozen? ⟨h, 5, none⟩ = false := f5
      have c5 : w7.cell? ⟨h, 5, none⟩ = some (.int .i64 0) := (row_cells6 hl7.row).2.2.2.2.2
      have c5d : w7.drew.cell? ⟨h, 5, none⟩ = some (.int .i64 0) := c5
      have E6 := Lib.hid e6
      have E7 := Lib.hid e7
      have E8 := Lib.hid e8
      have ED := Lib.hid eD
      clear hl6 hl7 hc7 hg7 e6 e7 e8 eD hw7 f3 c3
      obtain ⟨hl8, hc8⟩ := HL7.out.syncedAt
      have hb8d : Below (w7.setCell ⟨h, 5, none⟩ (.int .i64 ((0 : Nat) : Int))).heap.size (w7.setCell ⟨h, 5, none⟩ (.int .i64 ((0 : Nat) : Int))) (w7.setCell ⟨h, 5, none⟩ (.int .i64 ((0 : Nat) : Int))).drew := (Below.refl _ _).drew
      obtain ⟨w8, hw8⟩ : ∃ w8, w8 = (w7.setCell ⟨h, 5, none⟩ (.int .i64 0)).drew := ⟨_, rfl⟩
      have HL8 : Hid (LogIs j (pnt c6x w6.heap.size j) w8 h g ⟨p.data.toList, n, [(0, 0)], 0, 0⟩ (.slice (some ⟨w6.heap.size, 0, none⟩) 1 1)) := Lib.hid (by rw [hw8]; exact hl8.below hb8d)
      have HC8 : Hid (Chg j c6x (pnt c6x w6.heap.size j) w6 w8) := Lib.hid (by rw [hw8]; exact HC7.out.trans (hc8.trans (chg_same hb8d)))
      have hg8 : ∀ b, b ≠ h → w8.heap[b]? = w7.heap[b]? := fun b hne => by
        rw [hw8]
        show (w7.setCell ⟨h, 5, none⟩ (.int .i64 0)).heap[b]? = _
        exact Below.heap_setCell w7 ⟨h, 5, none⟩ _ b hne
      have HS8 : Hid (w8.heap.size = w7.heap.size) := Lib.hid (by rw [hw8]; show (w7.setCell ⟨h, 5, none⟩ (.int .i64 0)).heap.size = _; simp)
      have HW8 := Lib.hid hw8
      have c48 : (w7.setCell ⟨h, 5, none⟩ (.int .i64 0)).drew.cell? ⟨h, 4, none⟩ = some (.int .i64 0) := (row_cells6 hl8.row).2.2.2.2.1
      have g6 := (hg8 b6 hne4).trans E6.out
      have g7 := (hg8 b7 hne5).trans E7.out
      have g8 := (hg8 b8 hne6).trans E8.out
      have GD := Lib.hid ((hg8 D (by omega)).trans ED.out)
      have HG8 := Lib.hid hg8
      have G6 := Lib.hid g6
      have G7 := Lib.hid g7
      have G8 := Lib.hid g8
      clear hl8 hc8 hb8d hw8 hg8 HL7 HC7 g6 g7 g8 E6 E7 E8 ED
      --@7
      go_region_held3 (fun w' => w'.cell? ⟨b6, 0, none⟩ = some (.pointer (some ⟨h, 0, none⟩)) ∧ w'.cell? ⟨h, 4, none⟩ = some (.int .i64 0))
        (first | assumption | (refine ⟨?_, ?_⟩ <;> first | assumption | go_keep) | go_keep)
        (fail)
      rw [← HW8.out]
      clear c6 c4 f5 f5d c5 c5d c48
      have c6 : w8.cell? ⟨b6, 0, none⟩ = some (.pointer (some ⟨h, 0, none⟩)) := by rw [cell_of_row _ _ _ _ _ _ G6.out]; rfl
      have c7 : w8.cell? ⟨b7, 0, none⟩ = some (.slice none 0 0) := by rw [cell_of_row _ _ _ _ _ _ G7.out]; rfl
      have c8 : w8.cell? ⟨b8, 0, none⟩ = some (.int .i64 0) := by rw [cell_of_row _ _ _ _ _ _ G8.out]; rfl
      --@8
      go_upto_region 54 with fail
      have f6 : w8.frozen? ⟨b6, 0, none⟩ = false := dk_frozen _ _ _ _ _ G6.out
      have f7 : w8.frozen? ⟨b7, 0, none⟩ = false := dk_frozen _ _ _ _ _ G7.out
      have f8 : w8.frozen? ⟨b8, 0, none⟩ = false := dk_frozen _ _ _ _ _ G8.out
      have f6d : w8.drew.frozen? ⟨b6, 0, none⟩ = false := f6
      have f7d : w8.drew.frozen? ⟨b7, 0, none⟩ = false := f7
      have f8d : w8.drew.frozen? ⟨b8, 0, none⟩ = false := f8
      obtain ⟨w9, hw9⟩ : ∃ w9, w9 = (((w8.setCell ⟨b6, 0, none⟩ (.pointer (some ⟨h, 0, none⟩))).setCell ⟨b7, 0, none⟩ (.slice none 0 0)).setCell ⟨b8, 0, none⟩ (.int .i64 0)).drew := ⟨_, rfl⟩
      obtain ⟨k6, k7, k8, k9, k10⟩ := open_stores hw9 G6.out G7.out G8.out hne7 hne8 hne9
      have p1 := open_again G6.out
      have p2 := fun b => (open_again ((p1 b7).trans G7.out) b).trans (p1 b)
      have p3 := fun b => (open_again ((p2 b8).trans G8.out) b).trans (p2 b)
      have S1 : (w8.setCell ⟨b6, 0, none⟩ (.pointer (some ⟨h, 0, none⟩))).drew.cell? ⟨b6, 0, none⟩ = some (.pointer (some ⟨h, 0, none⟩)) ∧ (w8.setCell ⟨b6, 0, none⟩ (.pointer (some ⟨h, 0, none⟩))).drew.cell? ⟨b7, 0, none⟩ = some (.slice none 0 0) ∧ (w8.setCell ⟨b6, 0, none⟩ (.pointer (some ⟨h, 0, none⟩))).drew.cell? ⟨b8, 0, none⟩ = some (.int .i64 0) :=
        ⟨(World.cell?_of_block (a := ⟨b6, 0, none⟩) (p1 b6)).trans c6, (World.cell?_of_block (a := ⟨b7, 0, none⟩) (p1 b7)).trans c7, (World.cell?_of_block (a := ⟨b8, 0, none⟩) (p1 b8)).trans c8⟩
      have S2 : ((w8.setCell ⟨b6, 0, none⟩ (.pointer (some ⟨h, 0, none⟩))).setCell ⟨b7, 0, none⟩ (.slice none 0 0)).drew.cell? ⟨b6, 0, none⟩ = some (.pointer (some ⟨h, 0, none⟩)) ∧ ((w8.setCell ⟨b6, 0, none⟩ (.pointer (some ⟨h, 0, none⟩))).setCell ⟨b7, 0, none⟩ (.slice none 0 0)).drew.cell? ⟨b7, 0, none⟩ = some (.slice none 0 0) ∧ ((w8.setCell ⟨b6, 0, none⟩ (.pointer (some ⟨h, 0, none⟩))).setCell ⟨b7, 0, none⟩ (.slice none 0 0)).drew.cell? ⟨b8, 0, none⟩ = some (.int .i64 0) :=
        ⟨(World.cell?_of_block (a := ⟨b6, 0, none⟩) (p2 b6)).trans c6, (World.cell?_of_block (a := ⟨b7, 0, none⟩) (p2 b7)).trans c7, (World.cell?_of_block (a := ⟨b8, 0, none⟩) (p2 b8)).trans c8⟩
      have S3 : (((w8.setCell ⟨b6, 0, none⟩ (.pointer (some ⟨h, 0, none⟩))).setCell ⟨b7, 0, none⟩ (.slice none 0 0)).setCell ⟨b8, 0, none⟩ (.int .i64 0)).drew.cell? ⟨b6, 0, none⟩ = some (.pointer (some ⟨h, 0, none⟩)) ∧ (((w8.setCell ⟨b6, 0, none⟩ (.pointer (some ⟨h, 0, none⟩))).setCell ⟨b7, 0, none⟩ (.slice none 0 0)).setCell ⟨b8, 0, none⟩ (.int .i64 0)).drew.cell? ⟨b7, 0, none⟩ = some (.slice none 0 0) ∧ (((w8.setCell ⟨b6, 0, none⟩ (.pointer (some ⟨h, 0, none⟩))).setCell ⟨b7, 0, none⟩ (.slice none 0 0)).setCell ⟨b8, 0, none⟩ (.int .i64 0)).drew.cell? ⟨b8, 0, none⟩ = some (.int .i64 0) :=
        ⟨(World.cell?_of_block (a := ⟨b6, 0, none⟩) (p3 b6)).trans c6, (World.cell?_of_block (a := ⟨b7, 0, none⟩) (p3 b7)).trans c7, (World.cell?_of_block (a := ⟨b8, 0, none⟩) (p3 b8)).trans c8⟩
      clear p1 p2 p3
      have HW9 := Lib.hid hw9
      have K9 := Lib.hid k9
      have K10 := Lib.hid k10
      have K6 := Lib.hid k6
      have K7 := Lib.hid k7
      have K8 := Lib.hid k8
      clear hw9 k6 k7 k8 k9 k10
      --@9
      go_region_held3 (fun w' => w'.cell? ⟨b6, 0, none⟩ = some (.pointer (some ⟨h, 0, none⟩)) ∧ w'.cell? ⟨b7, 0, none⟩ = some (.slice none 0 0) ∧ w'.cell? ⟨b8, 0, none⟩ = some (.int .i64 0))
        (first | assumption | (refine ⟨?_, ?_, ?_⟩ <;> first | assumption | go_keep) | go_keep)
        (fail)
      rw [← HW9.out]
      obtain ⟨hh1, hh6, hh7, hh8⟩ := HHS.out
      have hD9 : w9.heap[D]? = some (.deferred (some [])) := (K9.out D).trans GD.out
      have hD8 : D < w8.heap.size := (Array.getElem?_eq_some_iff.1 GD.out).1
      obtain ⟨w10, hw10⟩ : ∃ w10, w10 = w9.putObj D (.deferred none) := ⟨_, rfl⟩
      have k10 : ∀ b : Nat, b ≠ D → w10.heap[b]? = w8.heap[b]? := fun b hne => by rw [hw10, World.putObj_heap_other (fun e => hne (by first | exact e | exact e.symm))]; exact K9.out b
      have m6 : w10.cell? ⟨b6, 0, none⟩ = some (.pointer (some ⟨h, 0, none⟩)) := (World.cell?_of_block (a := ⟨b6, 0, none⟩) (k10 b6 (by omega))).trans c6
      have m7 : w10.cell? ⟨b7, 0, none⟩ = some (.slice none 0 0) := (World.cell?_of_block (a := ⟨b7, 0, none⟩) (k10 b7 (by omega))).trans c7
      have m8 : w10.cell? ⟨b8, 0, none⟩ = some (.int .i64 0) := (World.cell?_of_block (a := ⟨b8, 0, none⟩) (k10 b8 (by omega))).trans c8
      have hDj : pnt c6x w6.heap.size j D = j := by rw [pnt_old (by omega)]; exact (HK6.out D (by omega) hltD).2
      have hgW := wl_grownPut w9 D
      have hCj : Chg j (pnt c6x w6.heap.size j) (pnt c6x w6.heap.size j) w8 w10 := by
        refine ⟨?_, ?_, ?_, ?_, fun b hb hne => k10 b (fun e => hne (by rw [e]; exact hDj)), fun _ _ => rfl⟩
        · rw [hw10]; exact hgW.os.trans K10.out.2.1
        · rw [hw10]; exact hgW.tape.trans K10.out.2.2.1
        · rw [hw10]; exact hgW.output.trans K10.out.2.2.2
        · rw [hw10, ← K10.out.1]; exact hgW.size
      have hCJ := HC8.out.trans hCj
      have hlog : LogIs j (pnt c6x w6.heap.size j) w10 h g ⟨p.data.toList, n, [(0, 0)], 0, 0⟩ (.slice (some ⟨w6.heap.size, 0, none⟩) 1 1) :=
        ⟨(k10 h (by omega)).trans HL8.out.row, own_keep HL8.out.seg (fun b hb => k10 b (by have h9 : w6.heap.size = b := (by simpa [Value.ownBlock] using hb); omega)), HL8.out.colh, HL8.out.cols⟩
      have hCI : Chg i c (pnt c6x w6.heap.size j) W w10 := by
        refine ⟨hCJ.os.trans HOS.out.1, hCJ.tape.trans HOS.out.2.1, hCJ.output.trans HOS.out.2.2, ?_, fun b hb hne => ?_, fun b hb => ?_⟩
        · have := hCJ.size; omega
        · rw [k10 b (by omega), HG8.out b (by omega), HG7.out b (by omega) (by omega)]; exact HK0.out b hb hne
        · rw [pnt_old (by omega)]; exact HKC.out b hb
      have HLOG := Lib.hid hlog
      have HCI := Lib.hid hCI
      have HDD := Lib.hid (HD6.out.chg hCJ (Ne.symm hij) hj0)
      have HW10 := Lib.hid hw10
      clear hlog hCI hCJ hCj hDj hgW k10 hw10 S1 S2 S3 c6 c7 c8 f6 f7 f8 f6d f7d f8d
      --@a
      go_wp2_with fail
      show LeavesInM Fence.wide 5 _ _ _ _ _ .returning w9
      refine leavesM_mark hD9 ?_
      rw [← HW10.out]
      refine leavesM_call (f := 50) (args := #[.pointer (some ⟨b8, 0, none⟩), .pointer (some ⟨b6, 0, none⟩), .pointer (some ⟨b7, 0, none⟩)]) rfl (by simp [go_sem]) ?_
      refine ⟨(wl_closure w10 b6 b7 b8 m8).1, fun cf cs hu hr => ?_⟩
      obtain ⟨e, u', w', fr, ⟨rfl, hv, rfl⟩, h1, h2⟩ := (wl_closure w10 b6 b7 b8 m8).2 cf cs hu hr
      refine ⟨e, _, _, fr, ⟨rfl, hv, ?_⟩, h1, h2⟩
      refine leavesM_end (open_results _ _ b6 b7 b8 _ _ _ rfl rfl rfl m6 m7 m8) ?_
      rw [← HNM.out, HCR.out]
      exact ⟨h, _, rfl, HDD.out, ⟨_, HLOG.out⟩, HCI.out⟩

end Go.Proofs.YtcbnbhlgikjbeaaGreatDoor
