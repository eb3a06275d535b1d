/-
  date: leap years, the start of a year.
  date: the lengths of months; the number of a day.
  date.FromCivil.
  date.fields: a text in the form of a pattern.
  date.Parse.
-/
import Derived.Test.YthijakidnkhbnaaGreatDoorPsPay
import Derived.Test.YthijakidnkhbnaaGreatDoorPsPlain
import Derived.Deep.RegionHeld3
import Derived.Deep.QuietTactic
import Derived.BigQuiet
import Derived.PlainAid

namespace Go.Proofs.YthijakidnkhbnaaGreatDoor
open Go.RowKit

set_option maxRecDepth 100000 in
set_option maxHeartbeats 400000 in
theorem dt_leap (w : World) (y : Int) :
    Calls Tryz.prog 195 #[.int .i64 y] w fun e w' => e = .returned (.bool (decide (y.tmod 4 = 0) && !decide (y.tmod 100 = 0) || decide (y.tmod 400 = 0))) ∧ w = w' := by
  obtain ⟨b, hb⟩ : ∃ b, b = (decide (y.tmod 4 = 0) && !decide (y.tmod 100 = 0) || decide (y.tmod 400 = 0)) := ⟨_, rfl⟩
  rw [← hb]
  have HB := Lib.hid hb
  clear hb
  by_cases h4 : y.tmod 4 = 0
  all_goals by_cases h100 : y.tmod 100 = 0
  all_goals by_cases h400 : y.tmod 400 = 0
  all_goals
    have HV := HB.out
    simp only [h4, h100, h400, decide_true, decide_false, Bool.not_true, Bool.not_false, Bool.and_true, Bool.and_false, Bool.or_true, Bool.or_false] at HV
    subst HV
    clear HB
    go_enter Tryz.func195, Tryz.ntmps195
    go_wp2_with fail
    go_ret
    first
      | exact ⟨rfl, rfl⟩
      | (refine ⟨?_, rfl⟩
         show Ending.returned (.bool (y.tmod 400 == 0)) = _
         rw [show (y.tmod 400 == 0) = false from by rw [beq_eq_false_iff_ne]; exact h400])

/-- the first day of a year -/
def yearS (p : Int) : Int := 365 * p + ((p + 3) / 4 - (p + 99) / 100 + (p + 399) / 400)

theorem dt_wrap {x : Int} (h : -1000000000 ≤ x ∧ x ≤ 1000000000) : IntKind.i64.wrap x = x := IntWalk.i64_in _ (by omega)
theorem dt_tdiv {x y : Int} (h : 0 ≤ x) : x.tdiv y = x / y := Int.tdiv_eq_ediv_of_nonneg h

set_option maxRecDepth 100000 in
set_option maxHeartbeats 400000 in
theorem dt_yearL (w : World) (y p a b c : Int) (h0 : ¬ y < 2000) (h1 : IntKind.i64.wrap (y - 2000) = p) (ha : (p + 3).tdiv 4 = a) (hb : (p + 99).tdiv 100 = b) (hc : (p + 399).tdiv 400 = c)
    (w1 : IntKind.i64.wrap (p + 3) = p + 3) (w2 : IntKind.i64.wrap (p + 99) = p + 99) (w3 : IntKind.i64.wrap (p + 399) = p + 399) (w4 : IntKind.i64.wrap a = a) (w5 : IntKind.i64.wrap b = b) (w6 : IntKind.i64.wrap c = c) (w7 : IntKind.i64.wrap (a - b) = a - b) (w8 : IntKind.i64.wrap (a - b + c) = a - b + c)
    (w9 : IntKind.i64.wrap (365 * p) = 365 * p) (v : Int) (w10 : IntKind.i64.wrap (365 * p + (a - b + c)) = v) :
    Calls Tryz.prog 183 #[.int .i64 y] w fun e w' => e = .returned (.int .i64 v) ∧ w = w' := by
  go_enter Tryz.func183, Tryz.ntmps183
  go_wp2_with fail
  go_ret
  exact ⟨rfl, rfl⟩

theorem dt_yearStart (w : World) (y : Int) (h0 : 2000 ≤ y) (h1 : y ≤ 3000) :
    Calls Tryz.prog 183 #[.int .i64 y] w fun e w' => e = .returned (.int .i64 (yearS (y - 2000))) ∧ w = w' := by
  refine dt_yearL w y (y - 2000) ((y - 2000 + 3) / 4) ((y - 2000 + 99) / 100) ((y - 2000 + 399) / 400) (by omega) (dt_wrap (by omega)) (dt_tdiv (by omega)) (dt_tdiv (by omega)) (dt_tdiv (by omega)) (dt_wrap (by omega)) (dt_wrap (by omega)) (dt_wrap (by omega)) (dt_wrap (by omega)) (dt_wrap (by omega)) (dt_wrap (by omega)) (dt_wrap (by omega)) (dt_wrap (by omega)) (dt_wrap (by omega)) _ ?_
  unfold yearS
  exact dt_wrap (by omega)

end Go.Proofs.YthijakidnkhbnaaGreatDoor

namespace Go.Proofs.YthijakidnkhbnaaGreatDoor
open Go.RowKit

set_option maxRecDepth 100000 in
set_option maxHeartbeats 400000 in
theorem dt_dimBad (w : World) (y m : Int) (h : y < 2000 ∨ 2199 < y ∨ m < 1 ∨ 12 < m) :
    Calls Tryz.prog 182 #[.int .i64 y, .int .i64 m] w fun e w' => e = .returned (.int .i64 0) ∧ Below w.heap.size w w' := by
  by_cases h1 : y < 2000
  all_goals by_cases h2 : 2199 < y
  all_goals by_cases h3 : m < 1
  all_goals by_cases h4 : 12 < m
  all_goals try (exfalso; omega)
  all_goals
    clear h
    go_enter Tryz.func182, Tryz.ntmps182
    go_wp2_with fail
    go_ret
    exact ⟨rfl, Below.refl _ _⟩

theorem dt_tdiv_mod {y : Int} (h : 0 ≤ y) (n : Int) : y.tmod n = y % n := Int.tmod_eq_emod_of_nonneg h
set_option maxRecDepth 100000 in
set_option maxHeartbeats 400000 in
theorem dt_dimL (w : World) (y m : Int) (k : Nat) (n : Int) (h1 : ¬ y < 2000) (h2 : ¬ 2199 < y) (h3 : ¬ m < 1) (h4 : ¬ 12 < m) (h5 : ¬ m = 2) (hm : IntKind.i64.wrap (m - 1) = (k : Int)) (_hk : k < 12) (hkI : (k : Int) < 12)
    (hn : ∀ w : World, (w.alloc (.cells #[.int .i64 31, .int .i64 28, .int .i64 31, .int .i64 30, .int .i64 31, .int .i64 30, .int .i64 31, .int .i64 31, .int .i64 30, .int .i64 31, .int .i64 30, .int .i64 31] 216)).cell? ⟨w.heap.size, k, none⟩ = some (.int .i64 n)) :
    Calls Tryz.prog 182 #[.int .i64 y, .int .i64 m] w fun e w' => e = .returned (.int .i64 n) ∧ Below w.heap.size w w' := by
  go_enter Tryz.func182, Tryz.ntmps182
  go_wp2_with fail
  go_ret
  exact ⟨rfl, (Below.refl _ _).alloc (Nat.le_refl _) _⟩

set_option maxRecDepth 100000 in
set_option maxHeartbeats 400000 in
theorem dt_dimFeb (w : World) (y : Int) (b : Bool) (h1 : ¬ y < 2000) (h2 : ¬ 2199 < y) (n1 : ∀ w, Calls Tryz.prog 195 #[.int .i64 y] w fun e w' => e = .returned (.bool b) ∧ w = w') :
    Calls Tryz.prog 182 #[.int .i64 y, .int .i64 2] w fun e w' => e = .returned (.int .i64 (if b = true then 29 else 28)) ∧ Below w.heap.size w w' := by
  cases b
  all_goals
    go_enter Tryz.func182, Tryz.ntmps182
    go_wp2_with (go_at_call 195; refine (n1 _).mono ?_; rintro e w1 ⟨rfl, rfl⟩)
    go_ret
    exact ⟨rfl, (Below.refl _ _).alloc (Nat.le_refl _) _⟩

theorem dt_leapP (w : World) (y : Int) (h : 0 ≤ y) : Calls Tryz.prog 195 #[.int .i64 y] w fun e w' => e = .returned (.bool (Ps.leap y)) ∧ w = w' := by
  have := dt_leap w y
  rw [dt_tdiv_mod h 4, dt_tdiv_mod h 100, dt_tdiv_mod h 400] at this
  exact this

theorem dt_dim (w : World) (y m : Int) : Calls Tryz.prog 182 #[.int .i64 y, .int .i64 m] w fun e w' => e = .returned (.int .i64 (Ps.dim y m)) ∧ Below w.heap.size w w' := by
  by_cases h : y < 2000 ∨ 2199 < y ∨ m < 1 ∨ 12 < m
  · unfold Ps.dim
    rw [if_pos h]
    exact dt_dimBad w y m h
  · unfold Ps.dim
    rw [if_neg h]
    by_cases h5 : m = 2
    · subst h5
      rw [if_pos rfl]
      exact dt_dimFeb w y _ (by omega) (by omega) (fun w => dt_leapP w y (by omega))
    · rw [if_neg h5]
      obtain ⟨k, hk⟩ : ∃ k : Nat, m = (k : Int) + 1 := ⟨(m - 1).toNat, by omega⟩
      have hkl : k < 12 := by omega
      refine dt_dimL w y m k _ (by omega) (by omega) (by omega) (by omega) h5 (by rw [hk, show (k : Int) + 1 - 1 = k from by omega]; exact dt_wrap (x := (k : Int)) (by omega)) hkl (by omega) (fun w => ?_)
      rw [cell_of_row _ _ _ _ _ _ (ps_alloc_new w _)]
      subst hk
      have hk1 : k ≠ 1 := fun e => h5 (by rw [e]; rfl)
      have hc : k = 0 ∨ k = 2 ∨ k = 3 ∨ k = 4 ∨ k = 5 ∨ k = 6 ∨ k = 7 ∨ k = 8 ∨ k = 9 ∨ k = 10 ∨ k = 11 := by omega
      rcases hc with rfl | rfl | rfl | rfl | rfl | rfl | rfl | rfl | rfl | rfl | rfl
      all_goals rfl

end Go.Proofs.YthijakidnkhbnaaGreatDoor

namespace Go.Proofs.YthijakidnkhbnaaGreatDoor
open Go.RowKit

set_option maxRecDepth 100000 in
set_option maxHeartbeats 400000 in
theorem dt_civLow (w : World) (y m d : Int) (hd : d < 1) :
    Calls Tryz.prog 166 #[.agg #[.int .i64 y, .int .i64 m, .int .i64 d]] w fun e w' => e = .returned (.tuple #[.int .i64 0, .int .i64 28]) ∧ Below w.heap.size w w' := by
  go_enter Tryz.func166, Tryz.ntmps166
  go_wp2_with fail
  obtain ⟨W1, hW1⟩ : ∃ W1, W1 = w.alloc (Obj.cells #[.int .i64 y, .int .i64 m, .int .i64 d] 190) := ⟨_, rfl⟩
  obtain ⟨g, hg⟩ : ∃ g, g = w.heap.size := ⟨_, rfl⟩
  have hrow : W1.heap[g]? = some (.cells #[.int .i64 y, .int .i64 m, .int .i64 d] 190 (0, 0)) := by rw [hW1, hg]; exact ps_alloc_new w _
  have c2 : W1.cell? ⟨g, 2, none⟩ = some (.int .i64 d) := by rw [cell_of_row _ _ _ _ _ _ hrow]; rfl
  have hB : Hid (Below w.heap.size w W1) := Lib.hid (by rw [hW1]; exact (Below.refl _ _).alloc (Nat.le_refl _) _)
  rw [← hW1, ← hg]
  clear hW1 hg hrow
  go_quiet (fail)
  go_wp2_with fail
  go_ret2
  exact ⟨rfl, below_drewN' hB.out _⟩

/-- what stays through calls that add memory: three cells of a block -/
theorem s3_step {W w w3 : World} {g : Nat} {x0 x1 x2 : Value} (h : Below W.heap.size W w ∧ w.cell? ⟨g, 0, none⟩ = some x0 ∧ w.cell? ⟨g, 1, none⟩ = some x1 ∧ w.cell? ⟨g, 2, none⟩ = some x2) (hb : Below w.heap.size w w3) :
    Below W.heap.size W w3 ∧ w3.cell? ⟨g, 0, none⟩ = some x0 ∧ w3.cell? ⟨g, 1, none⟩ = some x1 ∧ w3.cell? ⟨g, 2, none⟩ = some x2 := by
  obtain ⟨h1, a0, a1, a2⟩ := h
  exact ⟨h1.trans (hb.mono h1.size), (hb.cell (World.block_lt_of_cell? w _ a0)).trans a0, (hb.cell (World.block_lt_of_cell? w _ a1)).trans a1, (hb.cell (World.block_lt_of_cell? w _ a2)).trans a2⟩

set_option maxRecDepth 100000 in
set_option maxHeartbeats 400000 in
theorem dt_civHigh (w : World) (y m d n : Int) (hd : ¬ d < 1) (hn : n < d) (n1 : Hid (∀ w, Calls Tryz.prog 182 #[.int .i64 y, .int .i64 m] w fun e w' => e = .returned (.int .i64 n) ∧ Below w.heap.size w w')) :
    Calls Tryz.prog 166 #[.agg #[.int .i64 y, .int .i64 m, .int .i64 d]] w fun e w' => e = .returned (.tuple #[.int .i64 0, .int .i64 28]) ∧ Below w.heap.size w w' := by
  go_enter Tryz.func166, Tryz.ntmps166
  go_wp2_with fail
  obtain ⟨W1, hW1⟩ : ∃ W1, W1 = w.alloc (Obj.cells #[.int .i64 y, .int .i64 m, .int .i64 d] 190) := ⟨_, rfl⟩
  obtain ⟨g, hg⟩ : ∃ g, g = w.heap.size := ⟨_, rfl⟩
  have hrow : W1.heap[g]? = some (.cells #[.int .i64 y, .int .i64 m, .int .i64 d] 190 (0, 0)) := by rw [hW1, hg]; exact ps_alloc_new w _
  have c0 : W1.cell? ⟨g, 0, none⟩ = some (.int .i64 y) := by rw [cell_of_row _ _ _ _ _ _ hrow]; rfl
  have c1 : W1.cell? ⟨g, 1, none⟩ = some (.int .i64 m) := by rw [cell_of_row _ _ _ _ _ _ hrow]; rfl
  have c2 : W1.cell? ⟨g, 2, none⟩ = some (.int .i64 d) := by rw [cell_of_row _ _ _ _ _ _ hrow]; rfl
  have hB : Hid (Below w.heap.size w W1) := Lib.hid (by rw [hW1]; exact (Below.refl _ _).alloc (Nat.le_refl _) _)
  rw [← hW1, ← hg]
  clear hW1 hg hrow
  have hb0 := Below.refl W1.heap.size W1
  have hdd : decide (d < 1) = false := decide_eq_false (by omega)
  have hS0 := And.intro hb0 (And.intro c0 (And.intro c1 c2))
  go_region_held3 (fun w' => Below W1.heap.size W1 w' ∧ w'.cell? ⟨g, 0, none⟩ = some (.int .i64 y) ∧ w'.cell? ⟨g, 1, none⟩ = some (.int .i64 m) ∧ w'.cell? ⟨g, 2, none⟩ = some (.int .i64 d))
    (first | assumption | exact Below.drew (by assumption) | (refine ⟨?_, ?_, ?_, ?_⟩ <;> first | assumption | exact Below.drew (by assumption) | go_keep) | go_keep)
    (first | (go_at_call 182; with_reducible refine (n1.out _).mono ?_; rintro e w3 ⟨rfl, hb3⟩; have hS3 := s3_step (by assumption) hb3))
  have HZ := Lib.hid (hB.out.trans (hS3.1.mono hB.out.size))
  clear hS3 hb3 hS0 hb0 c0 c1 c2
  go_wp2_with fail
  go_ret2
  exact ⟨rfl, HZ.out⟩

set_option maxRecDepth 100000 in
set_option maxHeartbeats 400000 in
theorem dt_civOk (w : World) (y d n s t : Int) (M : Nat) (hM12 : M < 12) (hd : ¬ d < 1) (hn : ¬ n < d) (n1 : Hid (∀ w, Calls Tryz.prog 182 #[.int .i64 y, .int .i64 ((M : Int) + 1)] w fun e w' => e = .returned (.int .i64 n) ∧ Below w.heap.size w w'))
    (n2 : Hid (∀ w, Calls Tryz.prog 183 #[.int .i64 y] w fun e w' => e = .returned (.int .i64 s) ∧ w' = w)) (hs1 : IntKind.i64.wrap (s + d) = s + d) (hs2 : IntKind.i64.wrap (s + d - 1) = t)
    (ht : t = s + d - 1) (hb1 : 0 ≤ t ∧ t ≤ 1000000)
    (n3 : Hid (∀ (k : Nat) w, Calls Tryz.prog 182 #[.int .i64 y, .int .i64 ((k : Int) + 1)] w fun e w' => e = .returned (.int .i64 (Ps.dim y ((k : Int) + 1))) ∧ Below w.heap.size w w')) :
    Calls Tryz.prog 166 #[.agg #[.int .i64 y, .int .i64 ((M : Int) + 1), .int .i64 d]] w fun e w' => e = .returned (.tuple #[.int .i64 (t + Ps.monS y M), .int .i64 0]) ∧ Below w.heap.size w w' := by
  go_enter Tryz.func166, Tryz.ntmps166
  go_wp2_with fail
  obtain ⟨W1, hW1⟩ : ∃ W1, W1 = w.alloc (Obj.cells #[.int .i64 y, .int .i64 ((M : Int) + 1), .int .i64 d] 190) := ⟨_, rfl⟩
  obtain ⟨g, hg⟩ : ∃ g, g = w.heap.size := ⟨_, rfl⟩
  have hrow : W1.heap[g]? = some (.cells #[.int .i64 y, .int .i64 ((M : Int) + 1), .int .i64 d] 190 (0, 0)) := by rw [hW1, hg]; exact ps_alloc_new w _
  have c0 : W1.cell? ⟨g, 0, none⟩ = some (.int .i64 y) := by rw [cell_of_row _ _ _ _ _ _ hrow]; rfl
  have c1 : W1.cell? ⟨g, 1, none⟩ = some (.int .i64 ((M : Int) + 1)) := by rw [cell_of_row _ _ _ _ _ _ hrow]; rfl
  have c2 : W1.cell? ⟨g, 2, none⟩ = some (.int .i64 d) := by rw [cell_of_row _ _ _ _ _ _ hrow]; rfl
  have hB : Hid (Below w.heap.size w W1) := Lib.hid (by rw [hW1]; exact (Below.refl _ _).alloc (Nat.le_refl _) _)
  rw [← hW1, ← hg]
  have HT := Lib.hid ht
  clear hW1 hg hrow ht
  have hb0 := Below.refl W1.heap.size W1
  have hdd : decide (d < 1) = false := decide_eq_false (by omega)
  have hS0 := And.intro hb0 (And.intro c0 (And.intro c1 c2))
  go_region_held3 (fun w' => Below W1.heap.size W1 w' ∧ w'.cell? ⟨g, 0, none⟩ = some (.int .i64 y) ∧ w'.cell? ⟨g, 1, none⟩ = some (.int .i64 ((M : Int) + 1)) ∧ w'.cell? ⟨g, 2, none⟩ = some (.int .i64 d))
    (first | assumption | exact Below.drew (by assumption) | (refine ⟨?_, ?_, ?_, ?_⟩ <;> first | assumption | exact Below.drew (by assumption) | go_keep) | go_keep)
    (first | (go_at_call 182; with_reducible refine (n1.out _).mono ?_; rintro e w3 ⟨rfl, hb3⟩; have hS3 := s3_step (by assumption) hb3))
  clear hS0 hb0 c0 c1 c2 hb3 n1
  have HS := Lib.hid hS3
  obtain ⟨hb4, e0, e1, e2⟩ := hS3
  clear hb4
  go_wp2_with fail
  go_quiet ((go_at_call 183; with_reducible exact Calls.quiet_of_same (n2.out _)))
  go_wp2_with fail
  have HS1 := Lib.hid (fun n => s3_step HS.out (below_drewN' (Below.refl w3.heap.size w3) n))
  go_loopw [4, 5] (fun nv mv wr => ∃ k : Nat, nv = .int .i64 (t + Ps.monS y k) ∧ mv = .int .i64 ((k : Int) + 1) ∧ k ≤ M ∧ Hid (Below W1.heap.size W1 wr ∧ wr.cell? ⟨g, 0, none⟩ = some (.int .i64 y) ∧ wr.cell? ⟨g, 1, none⟩ = some (.int .i64 ((M : Int) + 1)) ∧ wr.cell? ⟨g, 2, none⟩ = some (.int .i64 d))) (fun _ mv _ => 20 - (RowKit.intOf mv).toNat)
  case atStart =>
    refine ⟨0, ?_, rfl, Nat.zero_le _, Lib.hid (HS1.out _)⟩
    simp [Ps.monS]
  case round =>
    obtain ⟨k, rfl, rfl, hk, HK⟩ := hrel
    obtain ⟨hb5, a0, a1, a2⟩ := HK.out
    clear hb5
    have hms := Ps.monS_le y k
    by_cases hlt : k < M
    · have hkI : (k : Int) < (M : Int) := by omega
      have hkI2 : (k : Int) + 1 < (M : Int) + 1 := by omega
      have m3 := n3.out k wr
      have hdm := Ps.dim_le y ((k : Int) + 1)
      have hw6 : IntKind.i64.wrap (t + Ps.monS y k + Ps.dim y ((k : Int) + 1)) = t + Ps.monS y k + Ps.dim y ((k : Int) + 1) := dt_wrap (by omega)
      have hw7 : IntKind.i64.wrap ((k : Int) + 1 + 1) = (k : Int) + 1 + 1 := dt_wrap (by omega)
      have HN : Hid (t + Ps.monS y k + Ps.dim y ((k : Int) + 1) = t + Ps.monS y (k + 1)) := Lib.hid (by rw [Ps.monS]; omega)
      clear hms hdm n3
      go_wp2_with fail
      refine m3.mono ?_
      rintro e w5 ⟨rfl, hb5⟩
      have HK2 := Lib.hid (s3_step HK.out hb5)
      clear m3 hb5 a0 a1 a2
      go_wp2_with fail
      refine ⟨⟨k + 1, by rw [HN.out], by push_cast; rfl, by omega, HK2⟩, ?_⟩
      simp [RowKit.intOf] <;> omega
    · have hkI2 : ¬ (k : Int) + 1 < (M : Int) + 1 := by omega
      obtain rfl : k = M := by omega
      clear hms n3
      go_wp2_with fail
      go_ret2
      exact ⟨rfl, hB.out.trans (HK.out.1.mono hB.out.size)⟩

theorem dt_fromCivil (w : World) (y m d : Int) (hd : d ≤ 1000000000) :
    Calls Tryz.prog 166 #[.agg #[.int .i64 y, .int .i64 m, .int .i64 d]] w fun e w' => e = .returned (.tuple #[.int .i64 (Ps.civil y m d).1, .int .i64 (Ps.civil y m d).2]) ∧ Below w.heap.size w w' := by
  unfold Ps.civil
  by_cases h1 : d < 1
  · rw [if_pos (.inl h1)]
    exact dt_civLow w y m d h1
  · by_cases h2 : Ps.dim y m < d
    · rw [if_pos (.inr h2)]
      exact dt_civHigh w y m d _ h1 h2 (Lib.hid fun w => dt_dim w y m)
    · rw [if_neg (by omega)]
      obtain ⟨hy1, hy2, hm1, hm2⟩ := Ps.dim_pos (y := y) (m := m) (by omega)
      obtain ⟨M, rfl⟩ : ∃ M : Nat, m = (M : Int) + 1 := ⟨(m - 1).toNat, by omega⟩
      have hs := Ps.yearF_le (p := y - 2000) (by omega) (by omega)
      have hdl := Ps.dim_le y ((M : Int) + 1)
      have := dt_civOk w y d (Ps.dim y ((M : Int) + 1)) (Ps.yearF (y - 2000)) (Ps.yearF (y - 2000) + d - 1) M (by omega) h1 h2 (Lib.hid fun w => dt_dim w y _) (Lib.hid fun w => (dt_yearStart w y hy1 (by omega)).mono fun e w' ⟨a, b⟩ => ⟨a, b.symm⟩)
        (dt_wrap (by omega)) (dt_wrap (by omega)) rfl (by omega) (Lib.hid fun k w => dt_dim w y _)
      rw [show ((M : Int) + 1 - 1).toNat = M from by omega]
      exact this

end Go.Proofs.YthijakidnkhbnaaGreatDoor

namespace Go.Proofs.YthijakidnkhbnaaGreatDoor
open Go.RowKit

theorem dt_wrapN {x : Int} {n : Nat} (h : x = (n : Int) ∧ n ≤ 1000000000) : IntKind.i64.wrap x = (n : Int) := by rw [h.1]; exact dt_wrap (by omega)
theorem dt_wrap8 {x : Int} (h : 0 ≤ x ∧ x ≤ 255) : IntKind.u8.wrap x = x := IntWalk.u8_in _ (by omega)

/-- a byte fits a byte of a pattern -/
def fitI (f c : Int) : Prop := (f = 48 ∧ 48 ≤ c ∧ c ≤ 57) ∨ (f ≠ 48 ∧ c = f)

set_option maxRecDepth 100000 in
set_option maxHeartbeats 400000 in
theorem dt_fieldsLen (w : World) (s f : ByteArray) (hs : ¬ (s.size : Int) = (f.size : Int)) (_h1 : s.size ≤ 1000000) (_h2 : f.size ≤ 1000) :
    Calls Tryz.prog 165 #[.string s, .string f] w fun e w' => e = .returned (.tuple #[.nilFunc, .bool false]) ∧ Below w.heap.size w w' := by
  go_enter Tryz.func165, Tryz.ntmps165
  go_wp2_with fail
  go_ret2
  exact ⟨rfl, (Below.refl _ _).alloc (Nat.le_refl _) _⟩

set_option maxRecDepth 100000 in
set_option maxHeartbeats 4000000 in
theorem dt_fieldsBad (w : World) (s f : ByteArray) (hs : (s.size : Int) = (f.size : Int)) (h1 : s.size ≤ 1000000) (h2 : f.size ≤ 1000) (j : Nat) (hj : j < f.size) (hall : Hid (∀ i, i < j → fitI (PlainAid.bt f i) (PlainAid.bt s i))) (hbad : Hid (¬ fitI (PlainAid.bt f j) (PlainAid.bt s j))) :
    Calls Tryz.prog 165 #[.string s, .string f] w fun e w' => e = .returned (.tuple #[.nilFunc, .bool false]) ∧ Below w.heap.size w w' := by
  have hub := PlainAid.get_bt s
  have hfb := PlainAid.get_bt f
  go_enter Tryz.func165, Tryz.ntmps165
  go_wp2_with fail
  obtain ⟨W1, hW1⟩ : ∃ W1, W1 = w.alloc (Obj.cells #[.string s] 9) := ⟨_, rfl⟩
  obtain ⟨g, hg⟩ : ∃ g, g = w.heap.size := ⟨_, rfl⟩
  have hrow : W1.heap[g]? = some (.cells #[.string s] 9 (0, 0)) := by rw [hW1, hg]; exact ps_alloc_new w _
  have c0 : W1.cell? ⟨g, 0, none⟩ = some (.string s) := by rw [cell_of_row _ _ _ _ _ _ hrow]; rfl
  have hB : Hid (Below w.heap.size w W1) := Lib.hid (by rw [hW1]; exact (Below.refl _ _).alloc (Nat.le_refl _) _)
  rw [← hW1, ← hg]
  clear hW1 hg hrow
  go_loopw [6, 14] (fun _ iv wr => ∃ i : Nat, iv = .int .i64 i ∧ i ≤ j ∧ ∃ n, wr = W1.drewN n) (fun _ iv _ => 2000 - (RowKit.intOf iv).toNat)
  case atStart => exact ⟨0, rfl, Nat.zero_le _, 0, rfl⟩
  case round =>
    obtain ⟨i, rfl, hi, n, rfl⟩ := hrel
    have c1 : (W1.drewN n).cell? ⟨g, 0, none⟩ = some (.string s) := c0
    have hif : i < f.size := by omega
    have hisI : (i : Int) < (s.size : Int) := by omega
    have hifI : (i : Int) < (f.size : Int) := by omega
    have his : i < s.size := by omega
    by_cases hij : i < j
    · have hf := hall.out i hij
      have hw1 : wrap64 ((i : Int) + 1) = ((i + 1 : Nat) : Int) := by unfold wrap64; omega
      rcases hf with ⟨x0, x1, x2⟩ | ⟨x0, x1⟩
      · have y0 : (PlainAid.bt f i == 48) = true := by rw [x0]; rfl
        have y1 : decide (PlainAid.bt s i < 48) = false := decide_eq_false (by omega)
        have y2 : decide (57 < PlainAid.bt s i) = false := decide_eq_false (by omega)
        clear x1 x2 hall hbad hj hs hi
        go_wp2_with fail
        go_big_quiet (fail)
        go_wp2_with fail
        refine ⟨⟨i + 1, by first | rfl | go_num, by omega, ?_⟩, by simp [RowKit.intOf] <;> omega⟩
        first | exact ⟨_, rfl⟩ | exact ⟨_, World.drewN_drewN _ _ _⟩
      · have y0 : (PlainAid.bt f i == 48) = false := by rw [beq_eq_false_iff_ne]; exact x0
        have y1 : (PlainAid.bt s i == PlainAid.bt f i) = true := by rw [x1]; exact beq_self_eq_true _
        have y2 : (PlainAid.bt f i != 48) = true := by rw [bne, y0]; rfl
        have y3 : (PlainAid.bt s i != PlainAid.bt f i) = false := by rw [bne, y1]; rfl
        clear hall hbad hj hs hi
        go_wp2_with fail
        go_big_quiet (fail)
        go_wp2_with fail
        refine ⟨⟨i + 1, by first | rfl | go_num, by omega, ?_⟩, by simp [RowKit.intOf] <;> omega⟩
        first | exact ⟨_, rfl⟩ | exact ⟨_, World.drewN_drewN _ _ _⟩
    · obtain rfl : i = j := by omega
      have hb := hbad.out
      have hcs : (PlainAid.bt f i = 48 ∧ PlainAid.bt s i < 48) ∨ (PlainAid.bt f i = 48 ∧ ¬ PlainAid.bt s i < 48 ∧ 57 < PlainAid.bt s i) ∨ (PlainAid.bt f i ≠ 48 ∧ PlainAid.bt s i ≠ PlainAid.bt f i) := by
        unfold fitI at hb
        by_cases h48 : PlainAid.bt f i = 48
        · by_cases hlo : PlainAid.bt s i < 48
          · exact .inl ⟨h48, hlo⟩
          · exact .inr (.inl ⟨h48, hlo, by
              rcases Int.lt_or_le 57 (PlainAid.bt s i) with h | h
              · exact h
              · exact absurd (.inl ⟨h48, by omega, by omega⟩) hb⟩)
        · exact .inr (.inr ⟨h48, fun h => hb (.inr ⟨h48, h⟩)⟩)
      clear hb
      rcases hcs with ⟨x0, x1⟩ | ⟨x0, x1, x2⟩ | ⟨x0, x1⟩
      · have y0 : (PlainAid.bt f i == 48) = true := by rw [x0]; rfl
        have y1 : decide (PlainAid.bt s i < 48) = true := decide_eq_true x1
        clear hall hbad hj hs hi
        go_wp2_with fail
        go_big_quiet (fail)
        go_wp2_with fail
        go_ret2
        exact ⟨rfl, by first | exact below_drewN' hB.out _ | exact below_drewN' (below_drewN' hB.out _) _⟩
      · have y0 : (PlainAid.bt f i == 48) = true := by rw [x0]; rfl
        have y1 : decide (PlainAid.bt s i < 48) = false := decide_eq_false x1
        have y2 : decide (57 < PlainAid.bt s i) = true := decide_eq_true x2
        clear hall hbad hj hs hi
        go_wp2_with fail
        go_big_quiet (fail)
        go_wp2_with fail
        go_ret2
        exact ⟨rfl, by first | exact below_drewN' hB.out _ | exact below_drewN' (below_drewN' hB.out _) _⟩
      · have y0 : (PlainAid.bt f i == 48) = false := by rw [beq_eq_false_iff_ne]; exact x0
        have y1 : (PlainAid.bt s i == PlainAid.bt f i) = false := by rw [beq_eq_false_iff_ne]; exact x1
        have y2 : (PlainAid.bt f i != 48) = true := by rw [bne, y0]; rfl
        have y3 : (PlainAid.bt s i != PlainAid.bt f i) = true := by rw [bne, y1]; rfl
        clear hall hbad hj hs hi
        go_wp2_with fail
        go_big_quiet (fail)
        go_wp2_with fail
        go_ret2
        exact ⟨rfl, by first | exact below_drewN' hB.out _ | exact below_drewN' (below_drewN' hB.out _) _⟩

set_option maxRecDepth 100000 in
set_option maxHeartbeats 4000000 in
theorem dt_fieldsOk (w : World) (s f : ByteArray) (hs : (s.size : Int) = (f.size : Int)) (h1 : s.size ≤ 1000000) (h2 : f.size ≤ 1000) (hall : Hid (∀ i, i < f.size → fitI (PlainAid.bt f i) (PlainAid.bt s i))) :
    Calls Tryz.prog 165 #[.string s, .string f] w fun e w' => e = .returned (.tuple #[.func (.func 181) #[] #[.pointer (some ⟨w.heap.size, 0, none⟩)], .bool true]) ∧ Below w.heap.size w w' ∧ w'.cell? ⟨w.heap.size, 0, none⟩ = some (.string s) := by
  have hub := PlainAid.get_bt s
  have hfb := PlainAid.get_bt f
  go_enter Tryz.func165, Tryz.ntmps165
  go_wp2_with fail
  obtain ⟨W1, hW1⟩ : ∃ W1, W1 = w.alloc (Obj.cells #[.string s] 9) := ⟨_, rfl⟩
  obtain ⟨g, hg⟩ : ∃ g, g = w.heap.size := ⟨_, rfl⟩
  have hrow : W1.heap[g]? = some (.cells #[.string s] 9 (0, 0)) := by rw [hW1, hg]; exact ps_alloc_new w _
  have c0 : W1.cell? ⟨g, 0, none⟩ = some (.string s) := by rw [cell_of_row _ _ _ _ _ _ hrow]; rfl
  have hB : Hid (Below w.heap.size w W1) := Lib.hid (by rw [hW1]; exact (Below.refl _ _).alloc (Nat.le_refl _) _)
  have HG := Lib.hid hg
  rw [← hW1, ← hg]
  clear hW1 hg hrow
  go_loopw [6, 14] (fun _ iv wr => ∃ i : Nat, iv = .int .i64 i ∧ i ≤ f.size ∧ ∃ n, wr = W1.drewN n) (fun _ iv _ => 2000 - (RowKit.intOf iv).toNat)
  case atStart => exact ⟨0, rfl, Nat.zero_le _, 0, rfl⟩
  case round =>
    obtain ⟨i, rfl, hi, n, rfl⟩ := hrel
    have c1 : (W1.drewN n).cell? ⟨g, 0, none⟩ = some (.string s) := c0
    by_cases hif : i < f.size
    · have hisI : (i : Int) < (s.size : Int) := by omega
      have hifI : (i : Int) < (f.size : Int) := by omega
      have his : i < s.size := by omega
      have hf := hall.out i hif
      have hw1 : wrap64 ((i : Int) + 1) = ((i + 1 : Nat) : Int) := by unfold wrap64; omega
      rcases hf with ⟨x0, x1, x2⟩ | ⟨x0, x1⟩
      · have y0 : (PlainAid.bt f i == 48) = true := by rw [x0]; rfl
        have y1 : decide (PlainAid.bt s i < 48) = false := decide_eq_false (by omega)
        have y2 : decide (57 < PlainAid.bt s i) = false := decide_eq_false (by omega)
        clear x1 x2 hall hs hi
        go_wp2_with fail
        go_big_quiet (fail)
        go_wp2_with fail
        refine ⟨⟨i + 1, by first | rfl | go_num, by omega, ?_⟩, by simp [RowKit.intOf] <;> omega⟩
        first | exact ⟨_, rfl⟩ | exact ⟨_, World.drewN_drewN _ _ _⟩
      · have y0 : (PlainAid.bt f i == 48) = false := by rw [beq_eq_false_iff_ne]; exact x0
        have y1 : (PlainAid.bt s i == PlainAid.bt f i) = true := by rw [x1]; exact beq_self_eq_true _
        have y2 : (PlainAid.bt f i != 48) = true := by rw [bne, y0]; rfl
        have y3 : (PlainAid.bt s i != PlainAid.bt f i) = false := by rw [bne, y1]; rfl
        clear hall hs hi
        go_wp2_with fail
        go_big_quiet (fail)
        go_wp2_with fail
        refine ⟨⟨i + 1, by first | rfl | go_num, by omega, ?_⟩, by simp [RowKit.intOf] <;> omega⟩
        first | exact ⟨_, rfl⟩ | exact ⟨_, World.drewN_drewN _ _ _⟩
    · obtain rfl : i = f.size := by omega
      have hifI : ¬ ((f.size : Nat) : Int) < (f.size : Int) := by omega
      have C1 := Lib.hid c1
      clear hall hs hi c1
      go_wp2_with fail
      go_ret2
      rw [← HG.out]
      have hB2 := hB.out
      rw [← HG.out] at hB2
      exact ⟨rfl, below_drewN' hB2 _, C1.out⟩

set_option maxRecDepth 100000 in
set_option maxHeartbeats 1000000 in
theorem dt_digits (w : World) (s : ByteArray) (g a k : Nat) (hs : a + k ≤ s.size) (h1 : s.size ≤ 1000000) (hk : k ≤ 6) (hc : w.cell? ⟨g, 0, none⟩ = some (.string s)) (hd : Hid (∀ i, i < k → 48 ≤ PlainAid.bt s (a + i) ∧ PlainAid.bt s (a + i) ≤ 57))
    (V : Nat → Int) (h0 : V 0 = 0) (hV : Hid (∀ i, i < k → V (i + 1) = 10 * V i + (PlainAid.bt s (a + i) - 48))) (hb : Hid (∀ i, i ≤ k → 0 ≤ V i ∧ V i ≤ 1000000)) :
    Calls Tryz.prog 181 #[.int .i64 a, .int .i64 k, .pointer (some ⟨g, 0, none⟩)] w fun e w' => e = .returned (.int .i64 (V k)) ∧ w = w' := by
  have hub := PlainAid.get_bt s
  have H0 := Lib.hid h0
  clear h0
  go_enter Tryz.func181, Tryz.ntmps181
  go_wp2_with fail
  go_loopw [6, 7, 9] (fun nv _ iv wr => ∃ i : Nat, nv = .int .i64 (V i) ∧ iv = .int .i64 i ∧ i ≤ k ∧ wr = w) (fun _ _ iv _ => 100 - (RowKit.intOf iv).toNat)
  case atStart => exact ⟨0, by rw [H0.out], rfl, Nat.zero_le _, rfl⟩
  case round =>
    obtain ⟨i, rfl, rfl, hi, rfl⟩ := hrel
    by_cases hik : i < k
    · have hikI : (i : Int) < (k : Int) := by omega
      obtain ⟨d0, d1⟩ := hd.out i hik
      obtain ⟨b0, b1⟩ := hb.out i hi
      have hv := hV.out i hik
      obtain ⟨x, hx⟩ : ∃ x, x = V i := ⟨_, rfl⟩
      have hai : wrap64 ((a : Int) + (i : Int)) = ((a + i : Nat) : Int) := by unfold wrap64; omega
      have hai2 : IntKind.i64.wrap ((a : Int) + (i : Int)) = ((a + i : Nat) : Int) := dt_wrapN (by omega)
      have hlt : a + i < s.size := by omega
      have hltI : ((a + i : Nat) : Int) < (s.size : Int) := by omega
      have hw1 : IntKind.i64.wrap (10 * x) = 10 * x := dt_wrap (by omega)
      have hw2 : IntKind.u8.wrap (PlainAid.bt s (a + i) - 48) = PlainAid.bt s (a + i) - 48 := dt_wrap8 (by omega)
      have hw4 : IntKind.i64.wrap (PlainAid.bt s (a + i) - 48) = PlainAid.bt s (a + i) - 48 := dt_wrap (by omega)
      have hw3 : IntKind.i64.wrap (10 * x + (PlainAid.bt s (a + i) - 48)) = 10 * x + (PlainAid.bt s (a + i) - 48) := dt_wrap (by omega)
      have HV : Hid (V (i + 1) = 10 * x + (PlainAid.bt s (a + i) - 48)) := Lib.hid (by rw [hv, hx])
      rw [← hx]
      clear hd hb hV d0 d1 b0 b1 hv hx
      go_wp2_with fail
      refine ⟨⟨i + 1, by rw [HV.out], by first | rfl | go_num, by omega, by trivial⟩, by simp [RowKit.intOf] <;> omega⟩
    · obtain rfl : i = k := by omega
      have hikI : ¬ (i : Int) < (i : Int) := by omega
      clear hd hb hV
      go_wp2_with fail
      go_ret
      exact ⟨rfl, rfl⟩

end Go.Proofs.YthijakidnkhbnaaGreatDoor

namespace Go.Proofs.YthijakidnkhbnaaGreatDoor
open Go.RowKit

set_option maxRecDepth 100000 in
set_option maxHeartbeats 400000 in
theorem dt_parseBad (w : World) (s : ByteArray) (n1 : Calls Tryz.prog 165 #[.string s, .string ⟨#[48, 48, 48, 48, 45, 48, 48, 45, 48, 48]⟩] w fun e w' => e = .returned (.tuple #[.nilFunc, .bool false]) ∧ Below w.heap.size w w') :
    Calls Tryz.prog 135 #[.string s] w fun e w' => e = .returned (.tuple #[.int .i64 0, .int .i64 3]) ∧ Below w.heap.size w w' := by
  go_enter Tryz.func135, Tryz.ntmps135
  go_wp2_with fail
  refine n1.mono ?_
  rintro e w1 ⟨rfl, hb⟩
  have HB := Lib.hid hb
  clear n1 hb
  go_wp2_with fail
  go_ret2
  exact ⟨rfl, HB.out⟩

set_option maxRecDepth 100000 in
set_option maxHeartbeats 2000000 in
theorem dt_parseOk (w : World) (s : ByteArray) (g : Nat) (y m d a b : Int)
    (eg : ∀ args w, (callFunc 181 args).run Tryz.prog w = .ok (.enter 181 args) w)
    (n1 : Calls Tryz.prog 165 #[.string s, .string ⟨#[48, 48, 48, 48, 45, 48, 48, 45, 48, 48]⟩] w fun e w' => e = .returned (.tuple #[.func (.func 181) #[] #[.pointer (some ⟨g, 0, none⟩)], .bool true]) ∧ Below w.heap.size w w' ∧ w'.cell? ⟨g, 0, none⟩ = some (.string s))
    (n2 : Hid (∀ w, w.cell? ⟨g, 0, none⟩ = some (.string s) → Calls Tryz.prog 181 #[.int .i64 0, .int .i64 4, .pointer (some ⟨g, 0, none⟩)] w fun e w' => e = .returned (.int .i64 y) ∧ w = w'))
    (n3 : Hid (∀ w, w.cell? ⟨g, 0, none⟩ = some (.string s) → Calls Tryz.prog 181 #[.int .i64 5, .int .i64 2, .pointer (some ⟨g, 0, none⟩)] w fun e w' => e = .returned (.int .i64 m) ∧ w = w'))
    (n4 : Hid (∀ w, w.cell? ⟨g, 0, none⟩ = some (.string s) → Calls Tryz.prog 181 #[.int .i64 8, .int .i64 2, .pointer (some ⟨g, 0, none⟩)] w fun e w' => e = .returned (.int .i64 d) ∧ w = w'))
    (n5 : Hid (∀ w, Calls Tryz.prog 166 #[.agg #[.int .i64 y, .int .i64 m, .int .i64 d]] w fun e w' => e = .returned (.tuple #[.int .i64 a, .int .i64 b]) ∧ Below w.heap.size w w')) :
    Calls Tryz.prog 135 #[.string s] w fun e w' => e = .returned (.tuple #[.int .i64 a, .int .i64 b]) ∧ Below w.heap.size w w' := by
  go_enter Tryz.func135, Tryz.ntmps135
  go_wp2_with fail
  refine n1.mono ?_
  rintro e w1 ⟨rfl, hb, hc⟩
  have HB := Lib.hid hb
  have m2 := n2.out w1 hc
  have m3 := n3.out w1 hc
  have m4 := n4.out w1 hc
  have m5 := n5.out w1
  clear n1 hb n2 n3 n4 n5
  go_wp2_with (go_at_fn 181; first | (with_reducible refine m2.mono ?_; rintro e w2 ⟨rfl, rfl⟩) | (with_reducible refine m3.mono ?_; rintro e w2 ⟨rfl, rfl⟩) | (with_reducible refine m4.mono ?_; rintro e w2 ⟨rfl, rfl⟩))
  refine m5.mono ?_
  rintro e w6 ⟨rfl, hb6⟩
  have HB6 := Lib.hid (HB.out.trans (hb6.mono HB.out.size))
  clear m2 m3 m4 m5 hb6 eg
  go_wp2_with fail
  go_ret2
  exact ⟨rfl, HB6.out⟩

theorem bt_list (s : ByteArray) (i : Nat) (c : UInt8) (h : s.data.toList[i]? = some c) : PlainAid.bt s i = (c.toNat : Int) := by
  have hlt : i < s.size := by
    have := (List.getElem?_eq_some_iff.1 h).1
    rw [Lib.size_eq]; exact this
  rw [← PlainAid.get_bt s i hlt]
  have h2 := (List.getElem?_eq_some_iff.1 h).2
  have : s[i] = c := by rw [← h2]; rfl
  rw [this]

theorem fits_iff : ∀ (f l : List UInt8), Ps.fits f l = true ↔ (l.length = f.length ∧ ∀ (i : Nat) (x c : UInt8), f[i]? = some x → l[i]? = some c → Ps.fit x c = true)
  | [], [] => by simp [Ps.fits]
  | [], _ :: _ => by simp [Ps.fits]
  | _ :: _, [] => by simp [Ps.fits]
  | x :: f, c :: l => by
    have ih := fits_iff f l
    unfold Ps.fits at ih ⊢
    simp only [List.length_cons, List.zip_cons_cons, List.all_cons, Bool.and_eq_true, decide_eq_true_eq] at ih ⊢
    constructor
    · rintro ⟨h1, h2, h3⟩
      have h4 := ih.1 ⟨by omega, h3⟩
      refine ⟨h1, fun i y d hy hd => ?_⟩
      cases i with
      | zero => simp at hy hd; subst hy; subst hd; exact h2
      | succ i => exact h4.2 i y d (by simpa using hy) (by simpa using hd)
    · rintro ⟨h1, h2⟩
      have h4 := ih.2 ⟨by omega, fun i y d hy hd => h2 (i + 1) y d (by simpa using hy) (by simpa using hd)⟩
      exact ⟨h1, h2 0 x c rfl rfl, h4.2⟩

theorem fit_I (x c : UInt8) : Ps.fit x c = true ↔ fitI (x.toNat : Int) (c.toNat : Int) := by
  unfold Ps.fit fitI
  by_cases h : x = 48
  · subst h
    rw [if_pos rfl]
    unfold Lx.digit
    simp only [Bool.and_eq_true, decide_eq_true_eq]
    have e : ((48 : UInt8).toNat : Int) = 48 := rfl
    rw [e]
    omega
  · rw [if_neg h]
    have hne : ¬ ((x.toNat : Int) = 48) := fun e => h (by
      apply UInt8.toNat_inj.1
      have : x.toNat = 48 := by omega
      rw [this]; rfl)
    rw [beq_iff_eq, ← UInt8.toNat_inj]
    constructor
    · intro e; exact .inr ⟨hne, by rw [e]⟩
    · rintro (⟨e, _⟩ | ⟨_, e⟩)
      · exact absurd e hne
      · omega

theorem num_snoc (l : List UInt8) (c : UInt8) : Ps.num (l ++ [c]) = 10 * Ps.num l + (c.toNat - 48) := by unfold Ps.num; rw [List.foldl_append]; rfl
theorem num_le : ∀ (k : Nat) (l : List UInt8), l.length ≤ k → (∀ c ∈ l, Lx.digit (c.toNat : Int) = true) → Ps.num l < 10 ^ k
  | 0, l, h, _ => by
    obtain rfl : l = [] := List.eq_nil_of_length_eq_zero (by omega)
    decide
  | k + 1, l, h, hd => by
    rcases List.eq_nil_or_concat l with rfl | ⟨t, c, rfl⟩
    · show 0 < 10 ^ (k + 1)
      exact Nat.pos_of_ne_zero (by simp)
    · rw [List.concat_eq_append] at *
      have ih := num_le k t (by simp at h; omega) (fun x hx => hd x (by simp [hx]))
      have hc := hd c (by simp)
      unfold Lx.digit at hc
      simp only [Bool.and_eq_true, decide_eq_true_eq] at hc
      rw [num_snoc, Nat.pow_succ]
      omega

theorem dt_num (s : ByteArray) (a k : Nat) (w : World) (g : Nat) (hs : s.size = 10) (hak : a + k ≤ 10) (hk : k ≤ 6) (hc : w.cell? ⟨g, 0, none⟩ = some (.string s)) (hd : ∀ (i : Nat) (c : UInt8), i < k → s.data.toList[a + i]? = some c → Lx.digit (c.toNat : Int) = true) :
    Calls Tryz.prog 181 #[.int .i64 a, .int .i64 k, .pointer (some ⟨g, 0, none⟩)] w fun e w' => e = .returned (.int .i64 (Ps.num ((s.data.toList.drop a).take k))) ∧ w = w' := by
  have hl : s.data.toList.length = 10 := by rw [← Lib.size_eq]; exact hs
  have hget : ∀ i, i < k → ∃ c, s.data.toList[a + i]? = some c := fun i hi => ⟨_, List.getElem?_eq_getElem (by omega)⟩
  refine dt_digits w s g a k (by omega) (by omega) hk hc (Lib.hid fun i hi => ?_) (fun i => (Ps.num ((s.data.toList.drop a).take i) : Int)) rfl (Lib.hid fun i hi => ?_) (Lib.hid fun i hi => ?_)
  · obtain ⟨c, hci⟩ := hget i hi
    have := hd i c hi hci
    unfold Lx.digit at this
    simp only [Bool.and_eq_true, decide_eq_true_eq] at this
    rw [bt_list s _ c hci]
    exact this
  · obtain ⟨c, hci⟩ := hget i hi
    have hdc := hd i c hi hci
    unfold Lx.digit at hdc
    simp only [Bool.and_eq_true, decide_eq_true_eq] at hdc
    have e1 : (s.data.toList.drop a).take (i + 1) = (s.data.toList.drop a).take i ++ [c] := by
      rw [List.take_add_one, List.getElem?_drop, hci]; rfl
    rw [e1, num_snoc, bt_list s _ c hci]
    omega
  · have h1 := num_le 6 ((s.data.toList.drop a).take i) (by rw [List.length_take]; omega) (fun c hc => by
      obtain ⟨j, hj, rfl⟩ := List.getElem_of_mem hc
      rw [List.length_take] at hj
      have hj2 : (s.data.toList.drop a)[j]? = some (((s.data.toList.drop a).take i)[j]'(by rw [List.length_take]; exact hj)) := by
        rw [List.getElem_take]
        exact List.getElem?_eq_getElem _
      rw [List.getElem?_drop] at hj2
      exact hd j _ (by omega) hj2)
    omega

theorem dt_parse (s : ByteArray) (w : World) (hs : s.size ≤ 1000000) :
    Calls Tryz.prog 135 #[.string s] w fun e w' => e = .returned (.tuple #[.int .i64 (Ps.dateOf s).1, .int .i64 (Ps.dateOf s).2]) ∧ Below w.heap.size w w' := by
  have eg := enters_of Tryz.func181 (by kernel_rfl) rfl
  obtain ⟨F, hF⟩ : ∃ F : ByteArray, F = ⟨#[48, 48, 48, 48, 45, 48, 48, 45, 48, 48]⟩ := ⟨_, rfl⟩
  have hFs : F.size = 10 := by rw [hF]; rfl
  have hFl : F.data.toList = Ps.form := by rw [hF]; rfl
  have hFl2 : Ps.form.length = 10 := rfl
  have hsl := Lib.size_eq s
  unfold Ps.dateOf
  by_cases hf : Ps.fits Ps.form s.data.toList = true
  · rw [if_pos hf]
    obtain ⟨h1, h2⟩ := (fits_iff _ _).1 hf
    have hs10 : s.size = 10 := by omega
    have hget : ∀ i, i < 10 → ∃ x c, Ps.form[i]? = some x ∧ s.data.toList[i]? = some c := fun i hi => ⟨_, _, List.getElem?_eq_getElem (by omega), List.getElem?_eq_getElem (by omega)⟩
    have n1 := dt_fieldsOk w s F (by omega) hs (by omega) (Lib.hid fun i hi => by
      obtain ⟨x, c, hx, hc⟩ := hget i (by omega)
      rw [bt_list s i c hc, bt_list F i x (by rw [hFl]; exact hx)]
      exact (fit_I x c).1 (h2 i x c hx hc))
    have hdig : ∀ (i : Nat) (c : UInt8), Ps.form[i]? = some 48 → s.data.toList[i]? = some c → Lx.digit (c.toNat : Int) = true := fun i c hi hc => by
      have := h2 i 48 c hi hc
      unfold Ps.fit at this
      rwa [if_pos rfl] at this
    rw [hF] at n1
    have k4 : ∀ i, i < 4 → Ps.form[0 + i]? = some 48 := by decide
    have k5 : ∀ i, i < 2 → Ps.form[5 + i]? = some 48 := by decide
    have k8 : ∀ i, i < 2 → Ps.form[8 + i]? = some 48 := by decide
    refine dt_parseOk w s w.heap.size _ _ _ _ _ eg n1 (Lib.hid fun w1 hc => ?_) (Lib.hid fun w1 hc => ?_) (Lib.hid fun w1 hc => ?_) (Lib.hid fun w1 => dt_fromCivil w1 _ _ _ ?_)
    · exact dt_num s 0 4 w1 _ hs10 (by omega) (by omega) hc (fun i c hi hci => hdig _ c (k4 i hi) hci)
    · exact dt_num s 5 2 w1 _ hs10 (by omega) (by omega) hc (fun i c hi hci => hdig _ c (k5 i hi) hci)
    · exact dt_num s 8 2 w1 _ hs10 (by omega) (by omega) hc (fun i c hi hci => hdig _ c (k8 i hi) hci)
    · have := num_le 2 ((s.data.toList.drop 8).take 2) (by rw [List.length_take]; omega) (fun c hc => by
        obtain ⟨j, hj, rfl⟩ := List.getElem_of_mem hc
        rw [List.length_take] at hj
        have hj2 : (s.data.toList.drop 8)[j]? = some (((s.data.toList.drop 8).take 2)[j]'(by rw [List.length_take]; exact hj)) := by
          rw [List.getElem_take]
          exact List.getElem?_eq_getElem _
        rw [List.getElem?_drop] at hj2
        exact hdig _ _ (k8 j (by omega)) hj2)
      omega
  · rw [if_neg hf]
    refine dt_parseBad w s ?_
    rw [← hF]
    by_cases hl : s.size = 10
    · have hex : ∃ j, j < 10 ∧ ¬ fitI (PlainAid.bt F j) (PlainAid.bt s j) := by
        apply Classical.byContradiction
        intro hno
        apply hf
        refine (fits_iff _ _).2 ⟨by omega, fun i x c hx hc => ?_⟩
        apply Classical.byContradiction
        intro hnf
        have hi : i < 10 := by have := (List.getElem?_eq_some_iff.1 hx).1; omega
        exact hno ⟨i, hi, fun h => hnf ((fit_I x c).2 (by rw [bt_list s i c hc, bt_list F i x (by rw [hFl]; exact hx)] at h; exact h))⟩
      obtain ⟨j, ⟨hj1, hj2⟩, hmin⟩ : ∃ j, (j < 10 ∧ ¬ fitI (PlainAid.bt F j) (PlainAid.bt s j)) ∧ ∀ i, i < j → fitI (PlainAid.bt F i) (PlainAid.bt s i) := by
        obtain ⟨j, hj⟩ := hex
        induction j using Nat.strongRecOn with
        | ind j ih =>
          by_cases h : ∃ i, i < j ∧ ¬ fitI (PlainAid.bt F i) (PlainAid.bt s i)
          · obtain ⟨i, hi, hn⟩ := h
            exact ih i hi ⟨by omega, hn⟩
          · exact ⟨j, hj, fun i hi => Classical.byContradiction fun hn => h ⟨i, hi, hn⟩⟩
      exact dt_fieldsBad w s F (by omega) hs (by omega) j (by omega) (Lib.hid hmin) (Lib.hid hj2)
    · exact dt_fieldsLen w s F (by omega) hs (by omega)

end Go.Proofs.YthijakidnkhbnaaGreatDoor
