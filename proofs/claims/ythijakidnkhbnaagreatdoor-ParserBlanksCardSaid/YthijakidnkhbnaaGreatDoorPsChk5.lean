/-
  message: isCollateral, isSecurity, isAsset, bounded, maxLot.
  (message.Amendment).Check: the walk.
-/
import Derived.Test.YthijakidnkhbnaaGreatDoorPsChk2
import Derived.Test.YthijakidnkhbnaaGreatDoorIdAny
import Derived.Test.YthijakidnkhbnaaGreatDoorPsFrm

namespace Go.Proofs.YthijakidnkhbnaaGreatDoor
open Go.RowKit
open Go.Proofs.YthijakidnkhbnaaGreatDoor.Ord

/-- an instruction in a row of its own -/
def InsRow (w : World) (g : Nat) (i : Ps.Ins) (lv : Value) : Prop := w.heap[g]? = some (.cells (insCells i lv).toArray 25 (0, 0))
theorem InsRow.at {w : World} {g : Nat} {i : Ps.Ins} {lv : Value} (h : InsRow w g i lv) (j : Nat) (v : Value) (hj : (insCells i lv)[j]? = some v) : w.cell? ⟨g, j, none⟩ = some v := by
  rw [cell_of_row _ _ _ _ _ _ h, List.getElem?_toArray, hj]
theorem InsRow.below {w w' : World} {g : Nat} {i : Ps.Ins} {lv : Value} (h : InsRow w g i lv) (hb : Below w.heap.size w w') : InsRow w' g i lv := (hb.block g (Array.getElem?_eq_some_iff.1 h).1).trans h
theorem insRow_new (w : World) (i : Ps.Ins) (lv : Value) : InsRow (w.alloc (.cells (insCells i lv).toArray 25)) w.heap.size i lv := ps_alloc_new w _

set_option maxRecDepth 100000 in
set_option maxHeartbeats 1000000 in
theorem is_col (w : World) (i : Ps.Ins) (lv : Value) (c1 c2 : Bool) (h1 : (i.kind == 3) = c1) (h2 : (i.kind == 4) = c2) :
    Calls Tryz.prog 102 #[.agg (insCells i lv).toArray] w fun e w' => e = .returned (.bool (c1 || c2)) ∧ Below w.heap.size w w' := by
  go_enter Tryz.func102, Tryz.ntmps102
  go_upto_region 1 with fail
  obtain ⟨W1, hW1⟩ : ∃ W1, W1 = w.alloc (.cells (insCells i lv).toArray 25) := ⟨_, rfl⟩
  have hrow : InsRow W1 w.heap.size i lv := by rw [hW1]; exact insRow_new w i lv
  have HB : Hid (Below w.heap.size w W1) := Lib.hid (by rw [hW1]; exact (Below.refl _ _).alloc (Nat.le_refl _) _)
  rw [← hW1]
  clear hW1
  obtain ⟨g, hg⟩ : ∃ g, g = w.heap.size := ⟨_, rfl⟩
  rw [← hg] at hrow ⊢
  clear hg
  have k1 := hrow.at 1 _ rfl
  clear hrow
  cases c1
  all_goals cases c2
  all_goals
    go_wp2_with fail
    go_ret
    exact ⟨rfl, HB.out⟩
set_option maxRecDepth 100000 in
set_option maxHeartbeats 1000000 in
theorem is_sec (w : World) (i : Ps.Ins) (lv : Value) (c1 c2 : Bool) (h1 : (i.kind == 1) = c1) (h2 : (i.kind == 2) = c2) :
    Calls Tryz.prog 103 #[.agg (insCells i lv).toArray] w fun e w' => e = .returned (.bool (c1 || c2)) ∧ Below w.heap.size w w' := by
  go_enter Tryz.func103, Tryz.ntmps103
  go_upto_region 1 with fail
  obtain ⟨W1, hW1⟩ : ∃ W1, W1 = w.alloc (.cells (insCells i lv).toArray 25) := ⟨_, rfl⟩
  have hrow : InsRow W1 w.heap.size i lv := by rw [hW1]; exact insRow_new w i lv
  have HB : Hid (Below w.heap.size w W1) := Lib.hid (by rw [hW1]; exact (Below.refl _ _).alloc (Nat.le_refl _) _)
  rw [← hW1]
  clear hW1
  obtain ⟨g, hg⟩ : ∃ g, g = w.heap.size := ⟨_, rfl⟩
  rw [← hg] at hrow ⊢
  clear hg
  have k1 := hrow.at 1 _ rfl
  clear hrow
  cases c1
  all_goals cases c2
  all_goals
    go_wp2_with fail
    go_ret
    exact ⟨rfl, HB.out⟩
set_option maxRecDepth 100000 in
set_option maxHeartbeats 1000000 in
theorem max_lot (w : World) (i : Ps.Ins) (lv : Value) (c1 : Bool) (h1 : i.partial_ = c1) :
    Calls Tryz.prog 107 #[.agg (insCells i lv).toArray] w fun e w' => e = .returned (.int .i64 (if c1 = true then i.quantity else 0)) ∧ Below w.heap.size w w' := by
  go_enter Tryz.func107, Tryz.ntmps107
  go_upto_region 1 with fail
  obtain ⟨W1, hW1⟩ : ∃ W1, W1 = w.alloc (.cells (insCells i lv).toArray 25) := ⟨_, rfl⟩
  have hrow : InsRow W1 w.heap.size i lv := by rw [hW1]; exact insRow_new w i lv
  have HB : Hid (Below w.heap.size w W1) := Lib.hid (by rw [hW1]; exact (Below.refl _ _).alloc (Nat.le_refl _) _)
  rw [← hW1]
  clear hW1
  obtain ⟨g, hg⟩ : ∃ g, g = w.heap.size := ⟨_, rfl⟩
  rw [← hg] at hrow ⊢
  clear hg
  have k6 := hrow.at 6 _ rfl
  have k11 := hrow.at 11 _ rfl
  clear hrow
  cases c1
  all_goals
    go_wp2_with fail
    go_ret
    exact ⟨rfl, HB.out⟩
set_option maxRecDepth 100000 in
set_option maxHeartbeats 1000000 in
theorem is_asset (w : World) (i : Ps.Ins) (lv : Value) (c1 c2 v : Bool) (h1 : (i.kind == 0) = c1) (h2 : (i.asset.toList == [67, 65, 83, 72]) = c2) (n1 : ∀ w', Below w.heap.size w w' → Calls Tryz.prog 65 #[.int .i64 0, .string i.asset] w' fun e w'' => e = .returned (.bool v) ∧ Below w'.heap.size w' w'') :
    Calls Tryz.prog 104 #[.agg (insCells i lv).toArray] w fun e w' => e = .returned (.bool (if c1 = true then c2 else v)) ∧ Below w.heap.size w w' := by
  go_enter Tryz.func104, Tryz.ntmps104
  go_upto_region 1 with fail
  obtain ⟨W1, hW1⟩ : ∃ W1, W1 = w.alloc (.cells (insCells i lv).toArray 25) := ⟨_, rfl⟩
  have hrow : InsRow W1 w.heap.size i lv := by rw [hW1]; exact insRow_new w i lv
  have HB : Hid (Below w.heap.size w W1) := Lib.hid (by rw [hW1]; exact (Below.refl _ _).alloc (Nat.le_refl _) _)
  rw [← hW1]
  clear hW1
  have m1 := n1 W1 HB.out
  clear n1
  obtain ⟨g, hg⟩ : ∃ g, g = w.heap.size := ⟨_, rfl⟩
  rw [← hg] at hrow ⊢
  clear hg
  have k1 := hrow.at 1 _ rfl
  have k5 := hrow.at 5 _ rfl
  clear hrow
  cases c1
  · go_wp2_with ((first | go_at_fn 65 | go_at_call 65); refine m1.mono ?_; rintro e w2 ⟨rfl, hb⟩; have HB2 := Lib.hid (HB.out.trans (hb.mono HB.out.size)); clear hb m1)
    go_ret
    exact ⟨rfl, HB2.out⟩
  · clear m1
    go_wp2_with fail
    go_ret
    exact ⟨by simp, HB.out⟩
set_option maxRecDepth 100000 in
set_option maxHeartbeats 1000000 in
theorem bounded_ (w : World) (n : Int) (u c : Bool) (h : (n == 0) = c) :
    Calls Tryz.prog 105 #[.int .i64 n, .bool u] w fun e w' => e = .returned (.bool (if u = true then inB n 1 1000000000000000 else c)) ∧ Below w.heap.size w w' := by
  have m1 := ck_within64 w n 1 1000000000000000
  go_enter Tryz.func105, Tryz.ntmps105
  cases u
  · clear m1
    go_wp2_with fail
    go_ret
    exact ⟨by simp, Below.refl _ _⟩
  · go_wp2_with ((first | go_at_fn 106 | go_at_call 106); refine m1.mono ?_; rintro e w2 ⟨rfl, rfl⟩; clear m1)
    go_ret
    exact ⟨rfl, Below.refl _ _⟩

end Go.Proofs.YthijakidnkhbnaaGreatDoor

namespace Go.Proofs.YthijakidnkhbnaaGreatDoor
open Go.RowKit
open Go.Proofs.YthijakidnkhbnaaGreatDoor.Ord

/-- a number that is used, or none -/
def bndB (n : Int) (u : Bool) : Bool := if u = true then inB n 1 1000000000000000 else (n == 0)
/-- an amendment's rules -/
def amdRules (A : Ps.Amd) : List (Bool × Int) := [(((((!A.hasAmount) && (!A.hasSettleDay)) && (!A.hasPriority)) && (!A.hasPartial)), 3), ((((((!A.hasAmount) && (A.amount != 0)) || ((!A.hasSettleDay) && (A.settleDay != 0))) || ((!A.hasPriority) && (A.priority != 0))) || ((!A.hasPartial) && (A.partial_ || (A.minLot != 0)))), 3), ((!(bndB A.amount A.hasAmount)), 2), ((!(inB A.settleDay 0 73048)), 28), ((!(inB A.priority 0 2)), 2), ((!(bndB A.minLot A.partial_)), 2)]

set_option maxRecDepth 100000 in
set_option maxHeartbeats 1000000 in
theorem amd_check (w : World) (A : Ps.Amd) : Calls Tryz.prog 67 #[.agg (amdCells A).toArray] w fun e w' => e = .returned (.int .i64 (firstE (amdRules A))) ∧ Below w.heap.size w w' := by
  go_enter Tryz.func67, Tryz.ntmps67
  go_upto_region 1 with fail
  obtain ⟨g, hg⟩ : ∃ g, g = w.heap.size := ⟨_, rfl⟩
  rw [← hg]
  obtain ⟨W1, hW1⟩ : ∃ W1, W1 = w.alloc (.cells (amdCells A).toArray 27) := ⟨_, rfl⟩
  have hrow : ∀ W, Below W1.heap.size W1 W → W.heap[g]? = some (.cells (amdCells A).toArray 27 (0, 0)) := fun W hW => by
    rw [hW.block g (by rw [hW1, hg]; simp), hW1, hg]; exact ps_alloc_new w _
  have hB1 : Below w.heap.size w W1 := by rw [hW1]; exact (Below.refl _ _).alloc (Nat.le_refl _) _
  rw [← hW1]
  clear hW1 hg
  have hcellg_0 : ∀ W, Below W1.heap.size W1 W → W.cell? ⟨g, 0, none⟩ = some (.bool A.hasAmount) := fun W hW => by rw [cell_of_row _ _ _ _ _ _ (hrow W hW)]; rfl
  have hcellg_1 : ∀ W, Below W1.heap.size W1 W → W.cell? ⟨g, 1, none⟩ = some (.bool A.hasSettleDay) := fun W hW => by rw [cell_of_row _ _ _ _ _ _ (hrow W hW)]; rfl
  have hcellg_2 : ∀ W, Below W1.heap.size W1 W → W.cell? ⟨g, 2, none⟩ = some (.bool A.hasPriority) := fun W hW => by rw [cell_of_row _ _ _ _ _ _ (hrow W hW)]; rfl
  have hcellg_3 : ∀ W, Below W1.heap.size W1 W → W.cell? ⟨g, 3, none⟩ = some (.bool A.hasPartial) := fun W hW => by rw [cell_of_row _ _ _ _ _ _ (hrow W hW)]; rfl
  have hcellg_4 : ∀ W, Below W1.heap.size W1 W → W.cell? ⟨g, 4, none⟩ = some (.int .i64 A.amount) := fun W hW => by rw [cell_of_row _ _ _ _ _ _ (hrow W hW)]; rfl
  have hcellg_5 : ∀ W, Below W1.heap.size W1 W → W.cell? ⟨g, 5, none⟩ = some (.int .i64 A.settleDay) := fun W hW => by rw [cell_of_row _ _ _ _ _ _ (hrow W hW)]; rfl
  have hcellg_6 : ∀ W, Below W1.heap.size W1 W → W.cell? ⟨g, 6, none⟩ = some (.int .i64 A.priority) := fun W hW => by rw [cell_of_row _ _ _ _ _ _ (hrow W hW)]; rfl
  have hcellg_7 : ∀ W, Below W1.heap.size W1 W → W.cell? ⟨g, 7, none⟩ = some (.bool A.partial_) := fun W hW => by rw [cell_of_row _ _ _ _ _ _ (hrow W hW)]; rfl
  have hcellg_8 : ∀ W, Below W1.heap.size W1 W → W.cell? ⟨g, 8, none⟩ = some (.int .i64 A.minLot) := fun W hW => by rw [cell_of_row _ _ _ _ _ _ (hrow W hW)]; rfl
  obtain ⟨vs, hvs⟩ : ∃ vs : List Value, vs = [(.pointer (some ⟨g, 0, none⟩)), (.bool A.hasAmount), (.bool (!A.hasAmount)), (.bool (!A.hasAmount)), (if (!A.hasAmount) = true then .pointer (some ⟨g, 1, none⟩) else undef), (if (!A.hasAmount) = true then .bool A.hasSettleDay else undef), (if (!A.hasAmount) = true then .bool (!A.hasSettleDay) else undef), (.bool ((!A.hasAmount) && (!A.hasSettleDay))), (.bool ((!A.hasAmount) && (!A.hasSettleDay))), (if ((!A.hasAmount) && (!A.hasSettleDay)) = true then .pointer (some ⟨g, 2, none⟩) else undef), (if ((!A.hasAmount) && (!A.hasSettleDay)) = true then .bool A.hasPriority else undef), (if ((!A.hasAmount) && (!A.hasSettleDay)) = true then .bool (!A.hasPriority) else undef), (.bool (((!A.hasAmount) && (!A.hasSettleDay)) && (!A.hasPriority))), (.bool (((!A.hasAmount) && (!A.hasSettleDay)) && (!A.hasPriority))), (if (((!A.hasAmount) && (!A.hasSettleDay)) && (!A.hasPriority)) = true then .pointer (some ⟨g, 3, none⟩) else undef), (if (((!A.hasAmount) && (!A.hasSettleDay)) && (!A.hasPriority)) = true then .bool A.hasPartial else undef), (if (((!A.hasAmount) && (!A.hasSettleDay)) && (!A.hasPriority)) = true then .bool (!A.hasPartial) else undef), (.bool ((((!A.hasAmount) && (!A.hasSettleDay)) && (!A.hasPriority)) && (!A.hasPartial))), (.agg #[.bool ((((!A.hasAmount) && (!A.hasSettleDay)) && (!A.hasPriority)) && (!A.hasPartial)), .int .i64 3]), (.pointer (some ⟨g, 0, none⟩)), (.bool A.hasAmount), (.bool (!A.hasAmount)), (.bool (!A.hasAmount)), (if (!A.hasAmount) = true then .pointer (some ⟨g, 4, none⟩) else undef), (if (!A.hasAmount) = true then .int .i64 A.amount else undef), (if (!A.hasAmount) = true then .bool (A.amount != 0) else undef), (.bool ((!A.hasAmount) && (A.amount != 0))), (.bool ((!A.hasAmount) && (A.amount != 0))), (if (!((!A.hasAmount) && (A.amount != 0))) = true then .pointer (some ⟨g, 1, none⟩) else undef), (if (!((!A.hasAmount) && (A.amount != 0))) = true then .bool A.hasSettleDay else undef), (if (!((!A.hasAmount) && (A.amount != 0))) = true then .bool (!A.hasSettleDay) else undef), (if (!((!A.hasAmount) && (A.amount != 0))) = true then .bool (!A.hasSettleDay) else undef), (if ((!((!A.hasAmount) && (A.amount != 0))) && (!A.hasSettleDay)) = true then .pointer (some ⟨g, 5, none⟩) else undef), (if ((!((!A.hasAmount) && (A.amount != 0))) && (!A.hasSettleDay)) = true then .int .i64 A.settleDay else undef), (if ((!((!A.hasAmount) && (A.amount != 0))) && (!A.hasSettleDay)) = true then .bool (A.settleDay != 0) else undef), (if (!((!A.hasAmount) && (A.amount != 0))) = true then .bool ((!A.hasSettleDay) && (A.settleDay != 0)) else undef), (.bool (((!A.hasAmount) && (A.amount != 0)) || ((!A.hasSettleDay) && (A.settleDay != 0)))), (.bool (((!A.hasAmount) && (A.amount != 0)) || ((!A.hasSettleDay) && (A.settleDay != 0)))), (if (!(((!A.hasAmount) && (A.amount != 0)) || ((!A.hasSettleDay) && (A.settleDay != 0)))) = true then .pointer (some ⟨g, 2, none⟩) else undef), (if (!(((!A.hasAmount) && (A.amount != 0)) || ((!A.hasSettleDay) && (A.settleDay != 0)))) = true then .bool A.hasPriority else undef), (if (!(((!A.hasAmount) && (A.amount != 0)) || ((!A.hasSettleDay) && (A.settleDay != 0)))) = true then .bool (!A.hasPriority) else undef), (if (!(((!A.hasAmount) && (A.amount != 0)) || ((!A.hasSettleDay) && (A.settleDay != 0)))) = true then .bool (!A.hasPriority) else undef), (if ((!(((!A.hasAmount) && (A.amount != 0)) || ((!A.hasSettleDay) && (A.settleDay != 0)))) && (!A.hasPriority)) = true then .pointer (some ⟨g, 6, none⟩) else undef), (if ((!(((!A.hasAmount) && (A.amount != 0)) || ((!A.hasSettleDay) && (A.settleDay != 0)))) && (!A.hasPriority)) = true then .int .i64 A.priority else undef), (if ((!(((!A.hasAmount) && (A.amount != 0)) || ((!A.hasSettleDay) && (A.settleDay != 0)))) && (!A.hasPriority)) = true then .bool (A.priority != 0) else undef), (if (!(((!A.hasAmount) && (A.amount != 0)) || ((!A.hasSettleDay) && (A.settleDay != 0)))) = true then .bool ((!A.hasPriority) && (A.priority != 0)) else undef), (.bool ((((!A.hasAmount) && (A.amount != 0)) || ((!A.hasSettleDay) && (A.settleDay != 0))) || ((!A.hasPriority) && (A.priority != 0)))), (.bool ((((!A.hasAmount) && (A.amount != 0)) || ((!A.hasSettleDay) && (A.settleDay != 0))) || ((!A.hasPriority) && (A.priority != 0)))), (if (!((((!A.hasAmount) && (A.amount != 0)) || ((!A.hasSettleDay) && (A.settleDay != 0))) || ((!A.hasPriority) && (A.priority != 0)))) = true then .pointer (some ⟨g, 3, none⟩) else undef), (if (!((((!A.hasAmount) && (A.amount != 0)) || ((!A.hasSettleDay) && (A.settleDay != 0))) || ((!A.hasPriority) && (A.priority != 0)))) = true then .bool A.hasPartial else undef), (if (!((((!A.hasAmount) && (A.amount != 0)) || ((!A.hasSettleDay) && (A.settleDay != 0))) || ((!A.hasPriority) && (A.priority != 0)))) = true then .bool (!A.hasPartial) else undef), (if (!((((!A.hasAmount) && (A.amount != 0)) || ((!A.hasSettleDay) && (A.settleDay != 0))) || ((!A.hasPriority) && (A.priority != 0)))) = true then .bool (!A.hasPartial) else undef), (if ((!((((!A.hasAmount) && (A.amount != 0)) || ((!A.hasSettleDay) && (A.settleDay != 0))) || ((!A.hasPriority) && (A.priority != 0)))) && (!A.hasPartial)) = true then .pointer (some ⟨g, 7, none⟩) else undef), (if ((!((((!A.hasAmount) && (A.amount != 0)) || ((!A.hasSettleDay) && (A.settleDay != 0))) || ((!A.hasPriority) && (A.priority != 0)))) && (!A.hasPartial)) = true then .bool A.partial_ else undef), (if ((!((((!A.hasAmount) && (A.amount != 0)) || ((!A.hasSettleDay) && (A.settleDay != 0))) || ((!A.hasPriority) && (A.priority != 0)))) && (!A.hasPartial)) = true then .bool A.partial_ else undef), (if (((!((((!A.hasAmount) && (A.amount != 0)) || ((!A.hasSettleDay) && (A.settleDay != 0))) || ((!A.hasPriority) && (A.priority != 0)))) && (!A.hasPartial)) && (!A.partial_)) = true then .pointer (some ⟨g, 8, none⟩) else undef), (if (((!((((!A.hasAmount) && (A.amount != 0)) || ((!A.hasSettleDay) && (A.settleDay != 0))) || ((!A.hasPriority) && (A.priority != 0)))) && (!A.hasPartial)) && (!A.partial_)) = true then .int .i64 A.minLot else undef), (if (((!((((!A.hasAmount) && (A.amount != 0)) || ((!A.hasSettleDay) && (A.settleDay != 0))) || ((!A.hasPriority) && (A.priority != 0)))) && (!A.hasPartial)) && (!A.partial_)) = true then .bool (A.minLot != 0) else undef), (if ((!((((!A.hasAmount) && (A.amount != 0)) || ((!A.hasSettleDay) && (A.settleDay != 0))) || ((!A.hasPriority) && (A.priority != 0)))) && (!A.hasPartial)) = true then .bool (A.partial_ || (A.minLot != 0)) else undef), (if (!((((!A.hasAmount) && (A.amount != 0)) || ((!A.hasSettleDay) && (A.settleDay != 0))) || ((!A.hasPriority) && (A.priority != 0)))) = true then .bool ((!A.hasPartial) && (A.partial_ || (A.minLot != 0))) else undef), (.bool (((((!A.hasAmount) && (A.amount != 0)) || ((!A.hasSettleDay) && (A.settleDay != 0))) || ((!A.hasPriority) && (A.priority != 0))) || ((!A.hasPartial) && (A.partial_ || (A.minLot != 0))))), (.agg #[.bool (((((!A.hasAmount) && (A.amount != 0)) || ((!A.hasSettleDay) && (A.settleDay != 0))) || ((!A.hasPriority) && (A.priority != 0))) || ((!A.hasPartial) && (A.partial_ || (A.minLot != 0)))), .int .i64 3]), (.pointer (some ⟨g, 4, none⟩)), (.int .i64 A.amount), (.pointer (some ⟨g, 0, none⟩)), (.bool A.hasAmount), (.bool (bndB A.amount A.hasAmount)), (.bool (!(bndB A.amount A.hasAmount))), (.agg #[.bool (!(bndB A.amount A.hasAmount)), .int .i64 2]), (.pointer (some ⟨g, 5, none⟩)), (.int .i64 A.settleDay), (.bool (inB A.settleDay 0 73048)), (.bool (!(inB A.settleDay 0 73048))), (.agg #[.bool (!(inB A.settleDay 0 73048)), .int .i64 28]), (.pointer (some ⟨g, 6, none⟩)), (.int .i64 A.priority), (.bool (inB A.priority 0 2)), (.bool (!(inB A.priority 0 2))), (.agg #[.bool (!(inB A.priority 0 2)), .int .i64 2]), (.pointer (some ⟨g, 8, none⟩)), (.int .i64 A.minLot), (.pointer (some ⟨g, 7, none⟩)), (.bool A.partial_), (.bool (bndB A.minLot A.partial_)), (.bool (!(bndB A.minLot A.partial_))), (.agg #[.bool (!(bndB A.minLot A.partial_)), .int .i64 2])] := ⟨_, rfl⟩
  refine wp_rules (W0 := W1) 86 vs (by rw [hvs]; rfl) (by kernel_rfl) (by kernel_rfl) (by kernel_rfl) (by kernel_rfl) (Below.refl _ _) ?_ [(((((!A.hasAmount) && (!A.hasSettleDay)) && (!A.hasPriority)) && (!A.hasPartial)), 3), ((((((!A.hasAmount) && (A.amount != 0)) || ((!A.hasSettleDay) && (A.settleDay != 0))) || ((!A.hasPriority) && (A.priority != 0))) || ((!A.hasPartial) && (A.partial_ || (A.minLot != 0)))), 3), ((!(bndB A.amount A.hasAmount)), 2), ((!(inB A.settleDay 0 73048)), 28), ((!(inB A.priority 0 2)), 2), ((!(bndB A.minLot A.partial_)), 2)] (by simp) (by kernel_rfl) rfl rfl rfl rfl rfl rfl rfl rfl rfl rfl rfl rfl ⟨by show _ < 91; omega, by show _ < 91; omega, by show _ < 91; omega⟩ 110 ?_ ?_
  · intro ρ hD hrest hco hfu
    have e1 : ρ (.tmp 1) = .pointer (some ⟨g, 0, none⟩) := (hrest 1 (by decide +kernel)).trans rfl
    obtain ⟨e3, e4, e5, e6, e7, e8, e9, e10, e11, e12, e13, e14, e15, e16, e17, e18, e19, e20, e21, e22, e23, e24, e25, e26, e27, e28, e29, e30, e31, e32, e33, e34, e35, e36, e37, e38, e39, e40, e41, e42, e43, e44, e45, e46, e47, e48, e49, e50, e51, e52, e53, e54, e55, e56, e57, e58, e59, e60, e61, e62, e63, e64, e65, e66, e67, e68, e69, e70, e71, e72, e73, e74, e75, e76, e77, e78, e79, e80, e81, e82, e83, e84, e85, e86, e87, e88, -⟩ : ρ (.tmp 3) = (.pointer (some ⟨g, 0, none⟩)) ∧ ρ (.tmp 4) = (.bool A.hasAmount) ∧ ρ (.tmp 5) = (.bool (!A.hasAmount)) ∧ ρ (.tmp 6) = (.bool (!A.hasAmount)) ∧ ρ (.tmp 7) = (if (!A.hasAmount) = true then .pointer (some ⟨g, 1, none⟩) else undef) ∧ ρ (.tmp 8) = (if (!A.hasAmount) = true then .bool A.hasSettleDay else undef) ∧ ρ (.tmp 9) = (if (!A.hasAmount) = true then .bool (!A.hasSettleDay) else undef) ∧ ρ (.tmp 10) = (.bool ((!A.hasAmount) && (!A.hasSettleDay))) ∧ ρ (.tmp 11) = (.bool ((!A.hasAmount) && (!A.hasSettleDay))) ∧ ρ (.tmp 12) = (if ((!A.hasAmount) && (!A.hasSettleDay)) = true then .pointer (some ⟨g, 2, none⟩) else undef) ∧ ρ (.tmp 13) = (if ((!A.hasAmount) && (!A.hasSettleDay)) = true then .bool A.hasPriority else undef) ∧ ρ (.tmp 14) = (if ((!A.hasAmount) && (!A.hasSettleDay)) = true then .bool (!A.hasPriority) else undef) ∧ ρ (.tmp 15) = (.bool (((!A.hasAmount) && (!A.hasSettleDay)) && (!A.hasPriority))) ∧ ρ (.tmp 16) = (.bool (((!A.hasAmount) && (!A.hasSettleDay)) && (!A.hasPriority))) ∧ ρ (.tmp 17) = (if (((!A.hasAmount) && (!A.hasSettleDay)) && (!A.hasPriority)) = true then .pointer (some ⟨g, 3, none⟩) else undef) ∧ ρ (.tmp 18) = (if (((!A.hasAmount) && (!A.hasSettleDay)) && (!A.hasPriority)) = true then .bool A.hasPartial else undef) ∧ ρ (.tmp 19) = (if (((!A.hasAmount) && (!A.hasSettleDay)) && (!A.hasPriority)) = true then .bool (!A.hasPartial) else undef) ∧ ρ (.tmp 20) = (.bool ((((!A.hasAmount) && (!A.hasSettleDay)) && (!A.hasPriority)) && (!A.hasPartial))) ∧ ρ (.tmp 21) = (.agg #[.bool ((((!A.hasAmount) && (!A.hasSettleDay)) && (!A.hasPriority)) && (!A.hasPartial)), .int .i64 3]) ∧ ρ (.tmp 22) = (.pointer (some ⟨g, 0, none⟩)) ∧ ρ (.tmp 23) = (.bool A.hasAmount) ∧ ρ (.tmp 24) = (.bool (!A.hasAmount)) ∧ ρ (.tmp 25) = (.bool (!A.hasAmount)) ∧ ρ (.tmp 26) = (if (!A.hasAmount) = true then .pointer (some ⟨g, 4, none⟩) else undef) ∧ ρ (.tmp 27) = (if (!A.hasAmount) = true then .int .i64 A.amount else undef) ∧ ρ (.tmp 28) = (if (!A.hasAmount) = true then .bool (A.amount != 0) else undef) ∧ ρ (.tmp 29) = (.bool ((!A.hasAmount) && (A.amount != 0))) ∧ ρ (.tmp 30) = (.bool ((!A.hasAmount) && (A.amount != 0))) ∧ ρ (.tmp 31) = (if (!((!A.hasAmount) && (A.amount != 0))) = true then .pointer (some ⟨g, 1, none⟩) else undef) ∧ ρ (.tmp 32) = (if (!((!A.hasAmount) && (A.amount != 0))) = true then .bool A.hasSettleDay else undef) ∧ ρ (.tmp 33) = (if (!((!A.hasAmount) && (A.amount != 0))) = true then .bool (!A.hasSettleDay) else undef) ∧ ρ (.tmp 34) = (if (!((!A.hasAmount) && (A.amount != 0))) = true then .bool (!A.hasSettleDay) else undef) ∧ ρ (.tmp 35) = (if ((!((!A.hasAmount) && (A.amount != 0))) && (!A.hasSettleDay)) = true then .pointer (some ⟨g, 5, none⟩) else undef) ∧ ρ (.tmp 36) = (if ((!((!A.hasAmount) && (A.amount != 0))) && (!A.hasSettleDay)) = true then .int .i64 A.settleDay else undef) ∧ ρ (.tmp 37) = (if ((!((!A.hasAmount) && (A.amount != 0))) && (!A.hasSettleDay)) = true then .bool (A.settleDay != 0) else undef) ∧ ρ (.tmp 38) = (if (!((!A.hasAmount) && (A.amount != 0))) = true then .bool ((!A.hasSettleDay) && (A.settleDay != 0)) else undef) ∧ ρ (.tmp 39) = (.bool (((!A.hasAmount) && (A.amount != 0)) || ((!A.hasSettleDay) && (A.settleDay != 0)))) ∧ ρ (.tmp 40) = (.bool (((!A.hasAmount) && (A.amount != 0)) || ((!A.hasSettleDay) && (A.settleDay != 0)))) ∧ ρ (.tmp 41) = (if (!(((!A.hasAmount) && (A.amount != 0)) || ((!A.hasSettleDay) && (A.settleDay != 0)))) = true then .pointer (some ⟨g, 2, none⟩) else undef) ∧ ρ (.tmp 42) = (if (!(((!A.hasAmount) && (A.amount != 0)) || ((!A.hasSettleDay) && (A.settleDay != 0)))) = true then .bool A.hasPriority else undef) ∧ ρ (.tmp 43) = (if (!(((!A.hasAmount) && (A.amount != 0)) || ((!A.hasSettleDay) && (A.settleDay != 0)))) = true then .bool (!A.hasPriority) else undef) ∧ ρ (.tmp 44) = (if (!(((!A.hasAmount) && (A.amount != 0)) || ((!A.hasSettleDay) && (A.settleDay != 0)))) = true then .bool (!A.hasPriority) else undef) ∧ ρ (.tmp 45) = (if ((!(((!A.hasAmount) && (A.amount != 0)) || ((!A.hasSettleDay) && (A.settleDay != 0)))) && (!A.hasPriority)) = true then .pointer (some ⟨g, 6, none⟩) else undef) ∧ ρ (.tmp 46) = (if ((!(((!A.hasAmount) && (A.amount != 0)) || ((!A.hasSettleDay) && (A.settleDay != 0)))) && (!A.hasPriority)) = true then .int .i64 A.priority else undef) ∧ ρ (.tmp 47) = (if ((!(((!A.hasAmount) && (A.amount != 0)) || ((!A.hasSettleDay) && (A.settleDay != 0)))) && (!A.hasPriority)) = true then .bool (A.priority != 0) else undef) ∧ ρ (.tmp 48) = (if (!(((!A.hasAmount) && (A.amount != 0)) || ((!A.hasSettleDay) && (A.settleDay != 0)))) = true then .bool ((!A.hasPriority) && (A.priority != 0)) else undef) ∧ ρ (.tmp 49) = (.bool ((((!A.hasAmount) && (A.amount != 0)) || ((!A.hasSettleDay) && (A.settleDay != 0))) || ((!A.hasPriority) && (A.priority != 0)))) ∧ ρ (.tmp 50) = (.bool ((((!A.hasAmount) && (A.amount != 0)) || ((!A.hasSettleDay) && (A.settleDay != 0))) || ((!A.hasPriority) && (A.priority != 0)))) ∧ ρ (.tmp 51) = (if (!((((!A.hasAmount) && (A.amount != 0)) || ((!A.hasSettleDay) && (A.settleDay != 0))) || ((!A.hasPriority) && (A.priority != 0)))) = true then .pointer (some ⟨g, 3, none⟩) else undef) ∧ ρ (.tmp 52) = (if (!((((!A.hasAmount) && (A.amount != 0)) || ((!A.hasSettleDay) && (A.settleDay != 0))) || ((!A.hasPriority) && (A.priority != 0)))) = true then .bool A.hasPartial else undef) ∧ ρ (.tmp 53) = (if (!((((!A.hasAmount) && (A.amount != 0)) || ((!A.hasSettleDay) && (A.settleDay != 0))) || ((!A.hasPriority) && (A.priority != 0)))) = true then .bool (!A.hasPartial) else undef) ∧ ρ (.tmp 54) = (if (!((((!A.hasAmount) && (A.amount != 0)) || ((!A.hasSettleDay) && (A.settleDay != 0))) || ((!A.hasPriority) && (A.priority != 0)))) = true then .bool (!A.hasPartial) else undef) ∧ ρ (.tmp 55) = (if ((!((((!A.hasAmount) && (A.amount != 0)) || ((!A.hasSettleDay) && (A.settleDay != 0))) || ((!A.hasPriority) && (A.priority != 0)))) && (!A.hasPartial)) = true then .pointer (some ⟨g, 7, none⟩) else undef) ∧ ρ (.tmp 56) = (if ((!((((!A.hasAmount) && (A.amount != 0)) || ((!A.hasSettleDay) && (A.settleDay != 0))) || ((!A.hasPriority) && (A.priority != 0)))) && (!A.hasPartial)) = true then .bool A.partial_ else undef) ∧ ρ (.tmp 57) = (if ((!((((!A.hasAmount) && (A.amount != 0)) || ((!A.hasSettleDay) && (A.settleDay != 0))) || ((!A.hasPriority) && (A.priority != 0)))) && (!A.hasPartial)) = true then .bool A.partial_ else undef) ∧ ρ (.tmp 58) = (if (((!((((!A.hasAmount) && (A.amount != 0)) || ((!A.hasSettleDay) && (A.settleDay != 0))) || ((!A.hasPriority) && (A.priority != 0)))) && (!A.hasPartial)) && (!A.partial_)) = true then .pointer (some ⟨g, 8, none⟩) else undef) ∧ ρ (.tmp 59) = (if (((!((((!A.hasAmount) && (A.amount != 0)) || ((!A.hasSettleDay) && (A.settleDay != 0))) || ((!A.hasPriority) && (A.priority != 0)))) && (!A.hasPartial)) && (!A.partial_)) = true then .int .i64 A.minLot else undef) ∧ ρ (.tmp 60) = (if (((!((((!A.hasAmount) && (A.amount != 0)) || ((!A.hasSettleDay) && (A.settleDay != 0))) || ((!A.hasPriority) && (A.priority != 0)))) && (!A.hasPartial)) && (!A.partial_)) = true then .bool (A.minLot != 0) else undef) ∧ ρ (.tmp 61) = (if ((!((((!A.hasAmount) && (A.amount != 0)) || ((!A.hasSettleDay) && (A.settleDay != 0))) || ((!A.hasPriority) && (A.priority != 0)))) && (!A.hasPartial)) = true then .bool (A.partial_ || (A.minLot != 0)) else undef) ∧ ρ (.tmp 62) = (if (!((((!A.hasAmount) && (A.amount != 0)) || ((!A.hasSettleDay) && (A.settleDay != 0))) || ((!A.hasPriority) && (A.priority != 0)))) = true then .bool ((!A.hasPartial) && (A.partial_ || (A.minLot != 0))) else undef) ∧ ρ (.tmp 63) = (.bool (((((!A.hasAmount) && (A.amount != 0)) || ((!A.hasSettleDay) && (A.settleDay != 0))) || ((!A.hasPriority) && (A.priority != 0))) || ((!A.hasPartial) && (A.partial_ || (A.minLot != 0))))) ∧ ρ (.tmp 64) = (.agg #[.bool (((((!A.hasAmount) && (A.amount != 0)) || ((!A.hasSettleDay) && (A.settleDay != 0))) || ((!A.hasPriority) && (A.priority != 0))) || ((!A.hasPartial) && (A.partial_ || (A.minLot != 0)))), .int .i64 3]) ∧ ρ (.tmp 65) = (.pointer (some ⟨g, 4, none⟩)) ∧ ρ (.tmp 66) = (.int .i64 A.amount) ∧ ρ (.tmp 67) = (.pointer (some ⟨g, 0, none⟩)) ∧ ρ (.tmp 68) = (.bool A.hasAmount) ∧ ρ (.tmp 69) = (.bool (bndB A.amount A.hasAmount)) ∧ ρ (.tmp 70) = (.bool (!(bndB A.amount A.hasAmount))) ∧ ρ (.tmp 71) = (.agg #[.bool (!(bndB A.amount A.hasAmount)), .int .i64 2]) ∧ ρ (.tmp 72) = (.pointer (some ⟨g, 5, none⟩)) ∧ ρ (.tmp 73) = (.int .i64 A.settleDay) ∧ ρ (.tmp 74) = (.bool (inB A.settleDay 0 73048)) ∧ ρ (.tmp 75) = (.bool (!(inB A.settleDay 0 73048))) ∧ ρ (.tmp 76) = (.agg #[.bool (!(inB A.settleDay 0 73048)), .int .i64 28]) ∧ ρ (.tmp 77) = (.pointer (some ⟨g, 6, none⟩)) ∧ ρ (.tmp 78) = (.int .i64 A.priority) ∧ ρ (.tmp 79) = (.bool (inB A.priority 0 2)) ∧ ρ (.tmp 80) = (.bool (!(inB A.priority 0 2))) ∧ ρ (.tmp 81) = (.agg #[.bool (!(inB A.priority 0 2)), .int .i64 2]) ∧ ρ (.tmp 82) = (.pointer (some ⟨g, 8, none⟩)) ∧ ρ (.tmp 83) = (.int .i64 A.minLot) ∧ ρ (.tmp 84) = (.pointer (some ⟨g, 7, none⟩)) ∧ ρ (.tmp 85) = (.bool A.partial_) ∧ ρ (.tmp 86) = (.bool (bndB A.minLot A.partial_)) ∧ ρ (.tmp 87) = (.bool (!(bndB A.minLot A.partial_))) ∧ ρ (.tmp 88) = (.agg #[.bool (!(bndB A.minLot A.partial_)), .int .i64 2]) ∧ True := alld_lit hvs hD
    refine ally_lit hvs ?_
    refine ⟨y_un rfl (y_addr rfl e1 (fun w => by go_simp)), ?_⟩
    refine ⟨y_un rfl (y_load rfl e3 (fun w hS => ld_bool _ w _ (hcellg_0 w hS))), ?_⟩
    refine ⟨y_un rfl (y_not rfl e4), ?_⟩
    refine ⟨y_un rfl (y_move rfl e5), ?_⟩
    refine ⟨y_gT rfl (by rw [hvs]; rfl) (fun hG => y_addr rfl e1 (fun w => by go_simp)), ?_⟩
    refine ⟨y_gT rfl (by rw [hvs]; rfl) (fun hG => y_load rfl (pos_of e7 hG) (fun w hS => ld_bool _ w _ (hcellg_1 w hS))), ?_⟩
    refine ⟨y_gT rfl (by rw [hvs]; rfl) (fun hG => y_not rfl (pos_of e8 hG)), ?_⟩
    refine ⟨y_un rfl (y_and rfl e6 e9 (hco _)), ?_⟩
    refine ⟨y_un rfl (y_move rfl e10), ?_⟩
    refine ⟨y_gT rfl (by rw [hvs]; rfl) (fun hG => y_addr rfl e1 (fun w => by go_simp)), ?_⟩
    refine ⟨y_gT rfl (by rw [hvs]; rfl) (fun hG => y_load rfl (pos_of e12 hG) (fun w hS => ld_bool _ w _ (hcellg_2 w hS))), ?_⟩
    refine ⟨y_gT rfl (by rw [hvs]; rfl) (fun hG => y_not rfl (pos_of e13 hG)), ?_⟩
    refine ⟨y_un rfl (y_and rfl e11 e14 (hco _)), ?_⟩
    refine ⟨y_un rfl (y_move rfl e15), ?_⟩
    refine ⟨y_gT rfl (by rw [hvs]; rfl) (fun hG => y_addr rfl e1 (fun w => by go_simp)), ?_⟩
    refine ⟨y_gT rfl (by rw [hvs]; rfl) (fun hG => y_load rfl (pos_of e17 hG) (fun w hS => ld_bool _ w _ (hcellg_3 w hS))), ?_⟩
    refine ⟨y_gT rfl (by rw [hvs]; rfl) (fun hG => y_not rfl (pos_of e18 hG)), ?_⟩
    refine ⟨y_un rfl (y_and rfl e16 e19 (hco _)), ?_⟩
    refine ⟨y_un rfl (y_build rfl (bd_rule ρ _ _ _ e20 (hco _))), ?_⟩
    refine ⟨y_un rfl (y_addr rfl e1 (fun w => by go_simp)), ?_⟩
    refine ⟨y_un rfl (y_load rfl e22 (fun w hS => ld_bool _ w _ (hcellg_0 w hS))), ?_⟩
    refine ⟨y_un rfl (y_not rfl e23), ?_⟩
    refine ⟨y_un rfl (y_move rfl e24), ?_⟩
    refine ⟨y_gT rfl (by rw [hvs]; rfl) (fun hG => y_addr rfl e1 (fun w => by go_simp)), ?_⟩
    refine ⟨y_gT rfl (by rw [hvs]; rfl) (fun hG => y_load rfl (pos_of e26 hG) (fun w hS => ld_i64 _ w _ (hcellg_4 w hS))), ?_⟩
    refine ⟨y_gT rfl (by rw [hvs]; rfl) (fun hG => y_bin rfl (pos_of e27 hG) (hco _) (cm_ne2 _ _ _ _)), ?_⟩
    refine ⟨y_un rfl (y_and rfl e25 e28 (hco _)), ?_⟩
    refine ⟨y_un rfl (y_move rfl e29), ?_⟩
    refine ⟨y_gF rfl (by rw [hvs]; rfl) (fun hG => y_addr rfl e1 (fun w => by go_simp)), ?_⟩
    refine ⟨y_gF rfl (by rw [hvs]; rfl) (fun hG => y_load rfl (pos_of e31 hG) (fun w hS => ld_bool _ w _ (hcellg_1 w hS))), ?_⟩
    refine ⟨y_gF rfl (by rw [hvs]; rfl) (fun hG => y_not rfl (pos_of e32 hG)), ?_⟩
    refine ⟨y_gF rfl (by rw [hvs]; rfl) (fun hG => y_move rfl (pos_of e33 hG)), ?_⟩
    refine ⟨y_gTT rfl (by rw [hvs]; rfl) (fun hG => y_addr rfl e1 (fun w => by go_simp)), ?_⟩
    refine ⟨y_gTT rfl (by rw [hvs]; rfl) (fun hG => y_load rfl (pos_of e35 hG) (fun w hS => ld_int _ w _ (hcellg_5 w hS))), ?_⟩
    refine ⟨y_gTT rfl (by rw [hvs]; rfl) (fun hG => y_bin rfl (pos_of e36 hG) (hco _) (cm_ne3 _ _ _ _)), ?_⟩
    refine ⟨y_gF rfl (by rw [hvs]; rfl) (fun hG => y_and rfl (pos_of e34 hG) (sub_of e37 hG) (hco _)), ?_⟩
    refine ⟨y_un rfl (y_or rfl e30 (hco _) e38), ?_⟩
    refine ⟨y_un rfl (y_move rfl e39), ?_⟩
    refine ⟨y_gF rfl (by rw [hvs]; rfl) (fun hG => y_addr rfl e1 (fun w => by go_simp)), ?_⟩
    refine ⟨y_gF rfl (by rw [hvs]; rfl) (fun hG => y_load rfl (pos_of e41 hG) (fun w hS => ld_bool _ w _ (hcellg_2 w hS))), ?_⟩
    refine ⟨y_gF rfl (by rw [hvs]; rfl) (fun hG => y_not rfl (pos_of e42 hG)), ?_⟩
    refine ⟨y_gF rfl (by rw [hvs]; rfl) (fun hG => y_move rfl (pos_of e43 hG)), ?_⟩
    refine ⟨y_gTT rfl (by rw [hvs]; rfl) (fun hG => y_addr rfl e1 (fun w => by go_simp)), ?_⟩
    refine ⟨y_gTT rfl (by rw [hvs]; rfl) (fun hG => y_load rfl (pos_of e45 hG) (fun w hS => ld_int _ w _ (hcellg_6 w hS))), ?_⟩
    refine ⟨y_gTT rfl (by rw [hvs]; rfl) (fun hG => y_bin rfl (pos_of e46 hG) (hco _) (cm_ne3 _ _ _ _)), ?_⟩
    refine ⟨y_gF rfl (by rw [hvs]; rfl) (fun hG => y_and rfl (pos_of e44 hG) (sub_of e47 hG) (hco _)), ?_⟩
    refine ⟨y_un rfl (y_or rfl e40 (hco _) e48), ?_⟩
    refine ⟨y_un rfl (y_move rfl e49), ?_⟩
    refine ⟨y_gF rfl (by rw [hvs]; rfl) (fun hG => y_addr rfl e1 (fun w => by go_simp)), ?_⟩
    refine ⟨y_gF rfl (by rw [hvs]; rfl) (fun hG => y_load rfl (pos_of e51 hG) (fun w hS => ld_bool _ w _ (hcellg_3 w hS))), ?_⟩
    refine ⟨y_gF rfl (by rw [hvs]; rfl) (fun hG => y_not rfl (pos_of e52 hG)), ?_⟩
    refine ⟨y_gF rfl (by rw [hvs]; rfl) (fun hG => y_move rfl (pos_of e53 hG)), ?_⟩
    refine ⟨y_gTT rfl (by rw [hvs]; rfl) (fun hG => y_addr rfl e1 (fun w => by go_simp)), ?_⟩
    refine ⟨y_gTT rfl (by rw [hvs]; rfl) (fun hG => y_load rfl (pos_of e55 hG) (fun w hS => ld_bool _ w _ (hcellg_7 w hS))), ?_⟩
    refine ⟨y_gTT rfl (by rw [hvs]; rfl) (fun hG => y_move rfl (pos_of e56 hG)), ?_⟩
    refine ⟨y_gTF rfl (by rw [hvs]; rfl) (fun hG => y_addr rfl e1 (fun w => by go_simp)), ?_⟩
    refine ⟨y_gTF rfl (by rw [hvs]; rfl) (fun hG => y_load rfl (pos_of e58 hG) (fun w hS => ld_i64 _ w _ (hcellg_8 w hS))), ?_⟩
    refine ⟨y_gTF rfl (by rw [hvs]; rfl) (fun hG => y_bin rfl (pos_of e59 hG) (hco _) (cm_ne2 _ _ _ _)), ?_⟩
    refine ⟨y_gTT rfl (by rw [hvs]; rfl) (fun hG => y_or rfl (pos_of e57 hG) (hco _) (sub_of e60 hG)), ?_⟩
    refine ⟨y_gF rfl (by rw [hvs]; rfl) (fun hG => y_and rfl (pos_of e54 hG) (sub_of e61 hG) (hco _)), ?_⟩
    refine ⟨y_un rfl (y_or rfl e50 (hco _) e62), ?_⟩
    refine ⟨y_un rfl (y_build rfl (bd_rule ρ _ _ _ e63 (hco _))), ?_⟩
    refine ⟨y_un rfl (y_addr rfl e1 (fun w => by go_simp)), ?_⟩
    refine ⟨y_un rfl (y_load rfl e65 (fun w hS => ld_i64 _ w _ (hcellg_4 w hS))), ?_⟩
    refine ⟨y_un rfl (y_addr rfl e1 (fun w => by go_simp)), ?_⟩
    refine ⟨y_un rfl (y_load rfl e67 (fun w hS => ld_bool _ w _ (hcellg_0 w hS))), ?_⟩
    refine ⟨y_un rfl (y_call rfl (hfu _) ent108 (by simp only [List.map_toArray, List.map_cons, List.map_nil, e66, e68]) (callB hB1 fun W _ => bounded_ W _ _ _ rfl)), ?_⟩
    refine ⟨y_un rfl (y_not rfl e69), ?_⟩
    refine ⟨y_un rfl (y_build rfl (bd_rule ρ _ _ _ e70 (hco _))), ?_⟩
    refine ⟨y_un rfl (y_addr rfl e1 (fun w => by go_simp)), ?_⟩
    refine ⟨y_un rfl (y_load rfl e72 (fun w hS => ld_int _ w _ (hcellg_5 w hS))), ?_⟩
    refine ⟨y_un rfl (y_call rfl (hfu _) ent57 (by simp only [List.map_toArray, List.map_cons, List.map_nil, e73, hco]) (callB hB1 fun W _ => ck_withinB W _ _ _)), ?_⟩
    refine ⟨y_un rfl (y_not rfl e74), ?_⟩
    refine ⟨y_un rfl (y_build rfl (bd_rule ρ _ _ _ e75 (hco _))), ?_⟩
    refine ⟨y_un rfl (y_addr rfl e1 (fun w => by go_simp)), ?_⟩
    refine ⟨y_un rfl (y_load rfl e77 (fun w hS => ld_int _ w _ (hcellg_6 w hS))), ?_⟩
    refine ⟨y_un rfl (y_call rfl (hfu _) ent57 (by simp only [List.map_toArray, List.map_cons, List.map_nil, e78, hco]) (callB hB1 fun W _ => ck_withinB W _ _ _)), ?_⟩
    refine ⟨y_un rfl (y_not rfl e79), ?_⟩
    refine ⟨y_un rfl (y_build rfl (bd_rule ρ _ _ _ e80 (hco _))), ?_⟩
    refine ⟨y_un rfl (y_addr rfl e1 (fun w => by go_simp)), ?_⟩
    refine ⟨y_un rfl (y_load rfl e82 (fun w hS => ld_i64 _ w _ (hcellg_8 w hS))), ?_⟩
    refine ⟨y_un rfl (y_addr rfl e1 (fun w => by go_simp)), ?_⟩
    refine ⟨y_un rfl (y_load rfl e84 (fun w hS => ld_bool _ w _ (hcellg_7 w hS))), ?_⟩
    refine ⟨y_un rfl (y_call rfl (hfu _) ent108 (by simp only [List.map_toArray, List.map_cons, List.map_nil, e83, e85]) (callB hB1 fun W _ => bounded_ W _ _ _ rfl)), ?_⟩
    refine ⟨y_un rfl (y_not rfl e86), ?_⟩
    refine ⟨y_un rfl (y_build rfl (bd_rule ρ _ _ _ e87 (hco _))), ?_⟩
    exact trivial
  · intro ρ hD W
    obtain ⟨e3, e4, e5, e6, e7, e8, e9, e10, e11, e12, e13, e14, e15, e16, e17, e18, e19, e20, e21, e22, e23, e24, e25, e26, e27, e28, e29, e30, e31, e32, e33, e34, e35, e36, e37, e38, e39, e40, e41, e42, e43, e44, e45, e46, e47, e48, e49, e50, e51, e52, e53, e54, e55, e56, e57, e58, e59, e60, e61, e62, e63, e64, e65, e66, e67, e68, e69, e70, e71, e72, e73, e74, e75, e76, e77, e78, e79, e80, e81, e82, e83, e84, e85, e86, e87, e88, -⟩ : ρ (.tmp 3) = (.pointer (some ⟨g, 0, none⟩)) ∧ ρ (.tmp 4) = (.bool A.hasAmount) ∧ ρ (.tmp 5) = (.bool (!A.hasAmount)) ∧ ρ (.tmp 6) = (.bool (!A.hasAmount)) ∧ ρ (.tmp 7) = (if (!A.hasAmount) = true then .pointer (some ⟨g, 1, none⟩) else undef) ∧ ρ (.tmp 8) = (if (!A.hasAmount) = true then .bool A.hasSettleDay else undef) ∧ ρ (.tmp 9) = (if (!A.hasAmount) = true then .bool (!A.hasSettleDay) else undef) ∧ ρ (.tmp 10) = (.bool ((!A.hasAmount) && (!A.hasSettleDay))) ∧ ρ (.tmp 11) = (.bool ((!A.hasAmount) && (!A.hasSettleDay))) ∧ ρ (.tmp 12) = (if ((!A.hasAmount) && (!A.hasSettleDay)) = true then .pointer (some ⟨g, 2, none⟩) else undef) ∧ ρ (.tmp 13) = (if ((!A.hasAmount) && (!A.hasSettleDay)) = true then .bool A.hasPriority else undef) ∧ ρ (.tmp 14) = (if ((!A.hasAmount) && (!A.hasSettleDay)) = true then .bool (!A.hasPriority) else undef) ∧ ρ (.tmp 15) = (.bool (((!A.hasAmount) && (!A.hasSettleDay)) && (!A.hasPriority))) ∧ ρ (.tmp 16) = (.bool (((!A.hasAmount) && (!A.hasSettleDay)) && (!A.hasPriority))) ∧ ρ (.tmp 17) = (if (((!A.hasAmount) && (!A.hasSettleDay)) && (!A.hasPriority)) = true then .pointer (some ⟨g, 3, none⟩) else undef) ∧ ρ (.tmp 18) = (if (((!A.hasAmount) && (!A.hasSettleDay)) && (!A.hasPriority)) = true then .bool A.hasPartial else undef) ∧ ρ (.tmp 19) = (if (((!A.hasAmount) && (!A.hasSettleDay)) && (!A.hasPriority)) = true then .bool (!A.hasPartial) else undef) ∧ ρ (.tmp 20) = (.bool ((((!A.hasAmount) && (!A.hasSettleDay)) && (!A.hasPriority)) && (!A.hasPartial))) ∧ ρ (.tmp 21) = (.agg #[.bool ((((!A.hasAmount) && (!A.hasSettleDay)) && (!A.hasPriority)) && (!A.hasPartial)), .int .i64 3]) ∧ ρ (.tmp 22) = (.pointer (some ⟨g, 0, none⟩)) ∧ ρ (.tmp 23) = (.bool A.hasAmount) ∧ ρ (.tmp 24) = (.bool (!A.hasAmount)) ∧ ρ (.tmp 25) = (.bool (!A.hasAmount)) ∧ ρ (.tmp 26) = (if (!A.hasAmount) = true then .pointer (some ⟨g, 4, none⟩) else undef) ∧ ρ (.tmp 27) = (if (!A.hasAmount) = true then .int .i64 A.amount else undef) ∧ ρ (.tmp 28) = (if (!A.hasAmount) = true then .bool (A.amount != 0) else undef) ∧ ρ (.tmp 29) = (.bool ((!A.hasAmount) && (A.amount != 0))) ∧ ρ (.tmp 30) = (.bool ((!A.hasAmount) && (A.amount != 0))) ∧ ρ (.tmp 31) = (if (!((!A.hasAmount) && (A.amount != 0))) = true then .pointer (some ⟨g, 1, none⟩) else undef) ∧ ρ (.tmp 32) = (if (!((!A.hasAmount) && (A.amount != 0))) = true then .bool A.hasSettleDay else undef) ∧ ρ (.tmp 33) = (if (!((!A.hasAmount) && (A.amount != 0))) = true then .bool (!A.hasSettleDay) else undef) ∧ ρ (.tmp 34) = (if (!((!A.hasAmount) && (A.amount != 0))) = true then .bool (!A.hasSettleDay) else undef) ∧ ρ (.tmp 35) = (if ((!((!A.hasAmount) && (A.amount != 0))) && (!A.hasSettleDay)) = true then .pointer (some ⟨g, 5, none⟩) else undef) ∧ ρ (.tmp 36) = (if ((!((!A.hasAmount) && (A.amount != 0))) && (!A.hasSettleDay)) = true then .int .i64 A.settleDay else undef) ∧ ρ (.tmp 37) = (if ((!((!A.hasAmount) && (A.amount != 0))) && (!A.hasSettleDay)) = true then .bool (A.settleDay != 0) else undef) ∧ ρ (.tmp 38) = (if (!((!A.hasAmount) && (A.amount != 0))) = true then .bool ((!A.hasSettleDay) && (A.settleDay != 0)) else undef) ∧ ρ (.tmp 39) = (.bool (((!A.hasAmount) && (A.amount != 0)) || ((!A.hasSettleDay) && (A.settleDay != 0)))) ∧ ρ (.tmp 40) = (.bool (((!A.hasAmount) && (A.amount != 0)) || ((!A.hasSettleDay) && (A.settleDay != 0)))) ∧ ρ (.tmp 41) = (if (!(((!A.hasAmount) && (A.amount != 0)) || ((!A.hasSettleDay) && (A.settleDay != 0)))) = true then .pointer (some ⟨g, 2, none⟩) else undef) ∧ ρ (.tmp 42) = (if (!(((!A.hasAmount) && (A.amount != 0)) || ((!A.hasSettleDay) && (A.settleDay != 0)))) = true then .bool A.hasPriority else undef) ∧ ρ (.tmp 43) = (if (!(((!A.hasAmount) && (A.amount != 0)) || ((!A.hasSettleDay) && (A.settleDay != 0)))) = true then .bool (!A.hasPriority) else undef) ∧ ρ (.tmp 44) = (if (!(((!A.hasAmount) && (A.amount != 0)) || ((!A.hasSettleDay) && (A.settleDay != 0)))) = true then .bool (!A.hasPriority) else undef) ∧ ρ (.tmp 45) = (if ((!(((!A.hasAmount) && (A.amount != 0)) || ((!A.hasSettleDay) && (A.settleDay != 0)))) && (!A.hasPriority)) = true then .pointer (some ⟨g, 6, none⟩) else undef) ∧ ρ (.tmp 46) = (if ((!(((!A.hasAmount) && (A.amount != 0)) || ((!A.hasSettleDay) && (A.settleDay != 0)))) && (!A.hasPriority)) = true then .int .i64 A.priority else undef) ∧ ρ (.tmp 47) = (if ((!(((!A.hasAmount) && (A.amount != 0)) || ((!A.hasSettleDay) && (A.settleDay != 0)))) && (!A.hasPriority)) = true then .bool (A.priority != 0) else undef) ∧ ρ (.tmp 48) = (if (!(((!A.hasAmount) && (A.amount != 0)) || ((!A.hasSettleDay) && (A.settleDay != 0)))) = true then .bool ((!A.hasPriority) && (A.priority != 0)) else undef) ∧ ρ (.tmp 49) = (.bool ((((!A.hasAmount) && (A.amount != 0)) || ((!A.hasSettleDay) && (A.settleDay != 0))) || ((!A.hasPriority) && (A.priority != 0)))) ∧ ρ (.tmp 50) = (.bool ((((!A.hasAmount) && (A.amount != 0)) || ((!A.hasSettleDay) && (A.settleDay != 0))) || ((!A.hasPriority) && (A.priority != 0)))) ∧ ρ (.tmp 51) = (if (!((((!A.hasAmount) && (A.amount != 0)) || ((!A.hasSettleDay) && (A.settleDay != 0))) || ((!A.hasPriority) && (A.priority != 0)))) = true then .pointer (some ⟨g, 3, none⟩) else undef) ∧ ρ (.tmp 52) = (if (!((((!A.hasAmount) && (A.amount != 0)) || ((!A.hasSettleDay) && (A.settleDay != 0))) || ((!A.hasPriority) && (A.priority != 0)))) = true then .bool A.hasPartial else undef) ∧ ρ (.tmp 53) = (if (!((((!A.hasAmount) && (A.amount != 0)) || ((!A.hasSettleDay) && (A.settleDay != 0))) || ((!A.hasPriority) && (A.priority != 0)))) = true then .bool (!A.hasPartial) else undef) ∧ ρ (.tmp 54) = (if (!((((!A.hasAmount) && (A.amount != 0)) || ((!A.hasSettleDay) && (A.settleDay != 0))) || ((!A.hasPriority) && (A.priority != 0)))) = true then .bool (!A.hasPartial) else undef) ∧ ρ (.tmp 55) = (if ((!((((!A.hasAmount) && (A.amount != 0)) || ((!A.hasSettleDay) && (A.settleDay != 0))) || ((!A.hasPriority) && (A.priority != 0)))) && (!A.hasPartial)) = true then .pointer (some ⟨g, 7, none⟩) else undef) ∧ ρ (.tmp 56) = (if ((!((((!A.hasAmount) && (A.amount != 0)) || ((!A.hasSettleDay) && (A.settleDay != 0))) || ((!A.hasPriority) && (A.priority != 0)))) && (!A.hasPartial)) = true then .bool A.partial_ else undef) ∧ ρ (.tmp 57) = (if ((!((((!A.hasAmount) && (A.amount != 0)) || ((!A.hasSettleDay) && (A.settleDay != 0))) || ((!A.hasPriority) && (A.priority != 0)))) && (!A.hasPartial)) = true then .bool A.partial_ else undef) ∧ ρ (.tmp 58) = (if (((!((((!A.hasAmount) && (A.amount != 0)) || ((!A.hasSettleDay) && (A.settleDay != 0))) || ((!A.hasPriority) && (A.priority != 0)))) && (!A.hasPartial)) && (!A.partial_)) = true then .pointer (some ⟨g, 8, none⟩) else undef) ∧ ρ (.tmp 59) = (if (((!((((!A.hasAmount) && (A.amount != 0)) || ((!A.hasSettleDay) && (A.settleDay != 0))) || ((!A.hasPriority) && (A.priority != 0)))) && (!A.hasPartial)) && (!A.partial_)) = true then .int .i64 A.minLot else undef) ∧ ρ (.tmp 60) = (if (((!((((!A.hasAmount) && (A.amount != 0)) || ((!A.hasSettleDay) && (A.settleDay != 0))) || ((!A.hasPriority) && (A.priority != 0)))) && (!A.hasPartial)) && (!A.partial_)) = true then .bool (A.minLot != 0) else undef) ∧ ρ (.tmp 61) = (if ((!((((!A.hasAmount) && (A.amount != 0)) || ((!A.hasSettleDay) && (A.settleDay != 0))) || ((!A.hasPriority) && (A.priority != 0)))) && (!A.hasPartial)) = true then .bool (A.partial_ || (A.minLot != 0)) else undef) ∧ ρ (.tmp 62) = (if (!((((!A.hasAmount) && (A.amount != 0)) || ((!A.hasSettleDay) && (A.settleDay != 0))) || ((!A.hasPriority) && (A.priority != 0)))) = true then .bool ((!A.hasPartial) && (A.partial_ || (A.minLot != 0))) else undef) ∧ ρ (.tmp 63) = (.bool (((((!A.hasAmount) && (A.amount != 0)) || ((!A.hasSettleDay) && (A.settleDay != 0))) || ((!A.hasPriority) && (A.priority != 0))) || ((!A.hasPartial) && (A.partial_ || (A.minLot != 0))))) ∧ ρ (.tmp 64) = (.agg #[.bool (((((!A.hasAmount) && (A.amount != 0)) || ((!A.hasSettleDay) && (A.settleDay != 0))) || ((!A.hasPriority) && (A.priority != 0))) || ((!A.hasPartial) && (A.partial_ || (A.minLot != 0)))), .int .i64 3]) ∧ ρ (.tmp 65) = (.pointer (some ⟨g, 4, none⟩)) ∧ ρ (.tmp 66) = (.int .i64 A.amount) ∧ ρ (.tmp 67) = (.pointer (some ⟨g, 0, none⟩)) ∧ ρ (.tmp 68) = (.bool A.hasAmount) ∧ ρ (.tmp 69) = (.bool (bndB A.amount A.hasAmount)) ∧ ρ (.tmp 70) = (.bool (!(bndB A.amount A.hasAmount))) ∧ ρ (.tmp 71) = (.agg #[.bool (!(bndB A.amount A.hasAmount)), .int .i64 2]) ∧ ρ (.tmp 72) = (.pointer (some ⟨g, 5, none⟩)) ∧ ρ (.tmp 73) = (.int .i64 A.settleDay) ∧ ρ (.tmp 74) = (.bool (inB A.settleDay 0 73048)) ∧ ρ (.tmp 75) = (.bool (!(inB A.settleDay 0 73048))) ∧ ρ (.tmp 76) = (.agg #[.bool (!(inB A.settleDay 0 73048)), .int .i64 28]) ∧ ρ (.tmp 77) = (.pointer (some ⟨g, 6, none⟩)) ∧ ρ (.tmp 78) = (.int .i64 A.priority) ∧ ρ (.tmp 79) = (.bool (inB A.priority 0 2)) ∧ ρ (.tmp 80) = (.bool (!(inB A.priority 0 2))) ∧ ρ (.tmp 81) = (.agg #[.bool (!(inB A.priority 0 2)), .int .i64 2]) ∧ ρ (.tmp 82) = (.pointer (some ⟨g, 8, none⟩)) ∧ ρ (.tmp 83) = (.int .i64 A.minLot) ∧ ρ (.tmp 84) = (.pointer (some ⟨g, 7, none⟩)) ∧ ρ (.tmp 85) = (.bool A.partial_) ∧ ρ (.tmp 86) = (.bool (bndB A.minLot A.partial_)) ∧ ρ (.tmp 87) = (.bool (!(bndB A.minLot A.partial_))) ∧ ρ (.tmp 88) = (.agg #[.bool (!(bndB A.minLot A.partial_)), .int .i64 2]) ∧ True := alld_lit hvs hD
    simp only [List.map_toArray, List.map_cons, List.map_nil, e21, e64, e71, e76, e81, e88]
    go_simp
    rfl
  · intro b W hB hdf hsz h3 hrest
    obtain ⟨⟨bl⟩, bd⟩ := b
    have hdf2 : bd = [] := hdf
    subst hdf2
    obtain ⟨u0, u1, u2, u3, u4, u5, u6, u7, u8, u9, u10, u11, u12, u13, u14, u15, u16, u17, u18, u19, u20, u21, u22, u23, u24, u25, u26, u27, u28, u29, u30, u31, u32, u33, u34, u35, u36, u37, u38, u39, u40, u41, u42, u43, u44, u45, u46, u47, u48, u49, u50, u51, u52, u53, u54, u55, u56, u57, u58, u59, u60, u61, u62, u63, u64, u65, u66, u67, u68, u69, u70, u71, u72, u73, u74, u75, u76, u77, u78, u79, u80, u81, u82, u83, u84, u85, u86, u87, u88, u89, u90, hbl⟩ := fr91 bl hsz
    subst hbl
    obtain rfl : u2 = _ := Option.some.inj h3
    clear h3 hsz hdf hrest hvs
    have HB : Hid (Below w.heap.size w W) := Lib.hid (hB1.trans (hB.mono hB1.size))
    clear hrow hB hB1
    go_wp2_with fail
    go_ret
    exact ⟨rfl, HB.out⟩

end Go.Proofs.YthijakidnkhbnaaGreatDoor
