/-
  message.Equal: the walk.
-/
import Derived.Test.YthijakidnkhbnaaGreatDoorPsFrm
import Derived.Test.YthijakidnkhbnaaGreatDoorPsChk5
import Derived.Test.YthijakidnkhbnaaGreatDoorOrd
namespace Go.Proofs.YthijakidnkhbnaaGreatDoor
open Go.RowKit
open Go.Proofs.YthijakidnkhbnaaGreatDoor.Ord

/-- a region of pure operations in their order, the last one an assignment -/
theorem wp_lastF {ops : Array Oper} {id : Nat} {a : Act} {w W0 : World} {Q : Exit → Act → World → Prop} (n : Nat) (vs : List Value) (hvl : vs.length = n) (hd : depOk ops = true) (hs : Region.noSelect ops = true) (hb : boundOk ops a.tmps.size = true) (hS : Below W0.heap.size W0 w)
    (hY : ∀ ρ : Operand → Value, AllD ρ (ops.toList.take n) vs → (∀ t : Nat, (∀ o : Oper, o ∈ ops.toList → o.dst ≠ some t) → ρ (.tmp t) = a.eval (.tmp t)) → (∀ v, ρ (.const v) = v) → (∀ f, ρ (.func f) = .func (.func f) #[] #[]) → AllY Tryz.prog (Below W0.heap.size W0) ρ vs (ops.toList.take n) vs)
    {x3 : Oper} {d2 d3 : Nat} (v : Value) (hsz : ops.size = n + 1) (h3 : ops[n]? = some x3) (h3o : x3.op = .assign (.tmp d2)) (h3d : x3.dst = some d3) (h3g : x3.guard = none) (hlt : d3 < a.tmps.size)
    (hv : ∀ ρ : Operand → Value, AllD ρ (ops.toList.take n) vs → ρ (.tmp d2) = v)
    (hend : ∀ (b : Act) (w' : World), Below W0.heap.size W0 w' → b.defers = a.defers → b.tmps.size = a.tmps.size → b.tmps[d3]? = some v → (∀ t : Nat, (∀ o : Oper, o ∈ ops.toList → o.dst ≠ some t) → b.tmps[t]? = a.tmps[t]?) → Q .normal b w') :
    (Code.region id ops false).wp Tryz.prog Q a w := by
  refine wp_region_fix (Below W0.heap.size W0) n vs hvl (by omega) hd hs hb hS hY ?_
  intro b w1 hS1 hbd hbs hD hrest
  rw [show List.range' n (ops.size - n) = [n] from by rw [hsz, show n + 1 - n = 1 from by omega]; rfl]
  refine ops_step h3 h3g ?_
  unfold Oper.wp execOp
  rw [h3o]
  show wpOps _ ops Q _ (Act.put _ x3.dst (b.eval (.tmp d2))) _
  rw [h3d, hv b.eval hD]
  refine hend _ _ hS1 hbd ?_ ?_ ?_
  · simp [Act.put, hbs]
  · simp [Act.put, hbs, hlt]
  · intro t ht
    have n3 : d3 ≠ t := fun h => ht x3 (by simpa using Array.mem_of_getElem? h3) (by rw [h3d, h])
    rw [← hrest t ht]
    simp [Act.put, n3]


/-- two instructions are alike, but for their links -/
def insEqB (i j : Ps.Ins) (eL : Bool) : Bool := ((((((((((((((((i.ref.toList == j.ref.toList) && (i.kind == j.kind)) && (i.sender.toList == j.sender.toList)) && (i.counterparty.toList == j.counterparty.toList)) && (i.side == j.side)) && (i.asset.toList == j.asset.toList)) && (i.quantity == j.quantity)) && (i.amount == j.amount)) && (i.tradeDay == j.tradeDay)) && (i.settleDay == j.settleDay)) && (i.priority == j.priority)) && (i.partial_ == j.partial_)) && (i.minLot == j.minLot)) && (i.hold == j.hold)) && (i.reserve == j.reserve)) && eL)

set_option maxRecDepth 100000 in
set_option maxHeartbeats 4000000 in
theorem ins_equal (w : World) (i j : Ps.Ins) (sa ta : Option Addr) (sn sc tn tc : Nat) (eL : Bool)
    (c101 : ∀ w', Below w.heap.size w w' → Calls Tryz.prog 83 #[.slice sa sn sc, .slice ta tn tc] w' fun e w'' => e = .returned (.bool eL) ∧ Below w'.heap.size w' w'') :
    Calls Tryz.prog 45 #[.agg (insCells i (.slice sa sn sc)).toArray, .agg (insCells j (.slice ta tn tc)).toArray] w fun e w' => e = .returned (.bool (insEqB i j eL)) ∧ Below w.heap.size w w' := by
  go_enter Tryz.func45, Tryz.ntmps45
  go_upto_region 1 with fail
  obtain ⟨g, hg⟩ : ∃ g, g = w.heap.size := ⟨_, rfl⟩
  obtain ⟨W1, hW1⟩ : ∃ W1, W1 = (w.alloc (.cells (insCells i (.slice sa sn sc)).toArray 25)).alloc (.cells (insCells j (.slice ta tn tc)).toArray 25) := ⟨_, rfl⟩
  have hsz0 : (w.alloc (.cells (insCells i (.slice sa sn sc)).toArray 25)).heap.size = w.heap.size + 1 := by simp
  have hrow : ∀ W, Below W1.heap.size W1 W → InsRow W g i (.slice sa sn sc) := fun W hW => by
    have e1 := insRow_new w i (.slice sa sn sc)
    have e2 : InsRow W1 g i (.slice sa sn sc) := by rw [hW1, hg]; exact e1.below ((Below.refl _ _).alloc (Nat.le_refl _) _)
    exact e2.below hW
  have hrow2 : ∀ W, Below W1.heap.size W1 W → InsRow W (g + 1) j (.slice ta tn tc) := fun W hW => by
    have e1 := insRow_new (w.alloc (.cells (insCells i (.slice sa sn sc)).toArray 25)) j (.slice ta tn tc)
    rw [hsz0, ← hg, ← hW1] at e1
    exact e1.below hW
  have hB1 : Below w.heap.size w W1 := by
    rw [hW1]; exact ((Below.refl _ _).alloc (Nat.le_refl _) _).alloc (by rw [hsz0]; omega) _
  try rw [hsz0]
  rw [← hW1, ← hg]
  clear hW1 hg hsz0
  have hcellg_0 : ∀ W, Below W1.heap.size W1 W → W.cell? ⟨g, 0, none⟩ = some (.string i.ref) := fun W hW => (hrow W hW).at 0 _ rfl
  have hcellg_1 : ∀ W, Below W1.heap.size W1 W → W.cell? ⟨g, 1, none⟩ = some (.int .i64 i.kind) := fun W hW => (hrow W hW).at 1 _ rfl
  have hcellg_2 : ∀ W, Below W1.heap.size W1 W → W.cell? ⟨g, 2, none⟩ = some (.string i.sender) := fun W hW => (hrow W hW).at 2 _ rfl
  have hcellg_3 : ∀ W, Below W1.heap.size W1 W → W.cell? ⟨g, 3, none⟩ = some (.string i.counterparty) := fun W hW => (hrow W hW).at 3 _ rfl
  have hcellg_4 : ∀ W, Below W1.heap.size W1 W → W.cell? ⟨g, 4, none⟩ = some (.int .i64 i.side) := fun W hW => (hrow W hW).at 4 _ rfl
  have hcellg_5 : ∀ W, Below W1.heap.size W1 W → W.cell? ⟨g, 5, none⟩ = some (.string i.asset) := fun W hW => (hrow W hW).at 5 _ rfl
  have hcellg_6 : ∀ W, Below W1.heap.size W1 W → W.cell? ⟨g, 6, none⟩ = some (.int .i64 i.quantity) := fun W hW => (hrow W hW).at 6 _ rfl
  have hcellg_7 : ∀ W, Below W1.heap.size W1 W → W.cell? ⟨g, 7, none⟩ = some (.int .i64 i.amount) := fun W hW => (hrow W hW).at 7 _ rfl
  have hcellg_8 : ∀ W, Below W1.heap.size W1 W → W.cell? ⟨g, 8, none⟩ = some (.int .i64 i.tradeDay) := fun W hW => (hrow W hW).at 8 _ rfl
  have hcellg_9 : ∀ W, Below W1.heap.size W1 W → W.cell? ⟨g, 9, none⟩ = some (.int .i64 i.settleDay) := fun W hW => (hrow W hW).at 9 _ rfl
  have hcellg_10 : ∀ W, Below W1.heap.size W1 W → W.cell? ⟨g, 10, none⟩ = some (.int .i64 i.priority) := fun W hW => (hrow W hW).at 10 _ rfl
  have hcellg_11 : ∀ W, Below W1.heap.size W1 W → W.cell? ⟨g, 11, none⟩ = some (.bool i.partial_) := fun W hW => (hrow W hW).at 11 _ rfl
  have hcellg_12 : ∀ W, Below W1.heap.size W1 W → W.cell? ⟨g, 12, none⟩ = some (.int .i64 i.minLot) := fun W hW => (hrow W hW).at 12 _ rfl
  have hcellg_13 : ∀ W, Below W1.heap.size W1 W → W.cell? ⟨g, 13, none⟩ = some (.bool i.hold) := fun W hW => (hrow W hW).at 13 _ rfl
  have hcellg_14 : ∀ W, Below W1.heap.size W1 W → W.cell? ⟨g, 14, none⟩ = some (.bool i.reserve) := fun W hW => (hrow W hW).at 14 _ rfl
  have hcellh_0 : ∀ W, Below W1.heap.size W1 W → W.cell? ⟨g + 1, 0, none⟩ = some (.string j.ref) := fun W hW => (hrow2 W hW).at 0 _ rfl
  have hcellh_1 : ∀ W, Below W1.heap.size W1 W → W.cell? ⟨g + 1, 1, none⟩ = some (.int .i64 j.kind) := fun W hW => (hrow2 W hW).at 1 _ rfl
  have hcellh_2 : ∀ W, Below W1.heap.size W1 W → W.cell? ⟨g + 1, 2, none⟩ = some (.string j.sender) := fun W hW => (hrow2 W hW).at 2 _ rfl
  have hcellh_3 : ∀ W, Below W1.heap.size W1 W → W.cell? ⟨g + 1, 3, none⟩ = some (.string j.counterparty) := fun W hW => (hrow2 W hW).at 3 _ rfl
  have hcellh_4 : ∀ W, Below W1.heap.size W1 W → W.cell? ⟨g + 1, 4, none⟩ = some (.int .i64 j.side) := fun W hW => (hrow2 W hW).at 4 _ rfl
  have hcellh_5 : ∀ W, Below W1.heap.size W1 W → W.cell? ⟨g + 1, 5, none⟩ = some (.string j.asset) := fun W hW => (hrow2 W hW).at 5 _ rfl
  have hcellh_6 : ∀ W, Below W1.heap.size W1 W → W.cell? ⟨g + 1, 6, none⟩ = some (.int .i64 j.quantity) := fun W hW => (hrow2 W hW).at 6 _ rfl
  have hcellh_7 : ∀ W, Below W1.heap.size W1 W → W.cell? ⟨g + 1, 7, none⟩ = some (.int .i64 j.amount) := fun W hW => (hrow2 W hW).at 7 _ rfl
  have hcellh_8 : ∀ W, Below W1.heap.size W1 W → W.cell? ⟨g + 1, 8, none⟩ = some (.int .i64 j.tradeDay) := fun W hW => (hrow2 W hW).at 8 _ rfl
  have hcellh_9 : ∀ W, Below W1.heap.size W1 W → W.cell? ⟨g + 1, 9, none⟩ = some (.int .i64 j.settleDay) := fun W hW => (hrow2 W hW).at 9 _ rfl
  have hcellh_10 : ∀ W, Below W1.heap.size W1 W → W.cell? ⟨g + 1, 10, none⟩ = some (.int .i64 j.priority) := fun W hW => (hrow2 W hW).at 10 _ rfl
  have hcellh_11 : ∀ W, Below W1.heap.size W1 W → W.cell? ⟨g + 1, 11, none⟩ = some (.bool j.partial_) := fun W hW => (hrow2 W hW).at 11 _ rfl
  have hcellh_12 : ∀ W, Below W1.heap.size W1 W → W.cell? ⟨g + 1, 12, none⟩ = some (.int .i64 j.minLot) := fun W hW => (hrow2 W hW).at 12 _ rfl
  have hcellh_13 : ∀ W, Below W1.heap.size W1 W → W.cell? ⟨g + 1, 13, none⟩ = some (.bool j.hold) := fun W hW => (hrow2 W hW).at 13 _ rfl
  have hcellh_14 : ∀ W, Below W1.heap.size W1 W → W.cell? ⟨g + 1, 14, none⟩ = some (.bool j.reserve) := fun W hW => (hrow2 W hW).at 14 _ rfl
  have hcellg_15 : ∀ W, Below W1.heap.size W1 W → W.cell? ⟨g, 15, none⟩ = some (.slice sa sn sc) := fun W hW => (hrow W hW).at 15 _ rfl
  have hcellh_15 : ∀ W, Below W1.heap.size W1 W → W.cell? ⟨g + 1, 15, none⟩ = some (.slice ta tn tc) := fun W hW => (hrow2 W hW).at 15 _ rfl
  obtain ⟨b9, hb9⟩ : ∃ b : Bool, (i.ref.toList == j.ref.toList) = b := ⟨_, rfl⟩
  obtain ⟨b15, hb15⟩ : ∃ b : Bool, (i.kind == j.kind) = b := ⟨_, rfl⟩
  obtain ⟨b16, hb16⟩ : ∃ b : Bool, (b9 && b15) = b := ⟨_, rfl⟩
  obtain ⟨b22, hb22⟩ : ∃ b : Bool, (i.sender.toList == j.sender.toList) = b := ⟨_, rfl⟩
  obtain ⟨b23, hb23⟩ : ∃ b : Bool, (b16 && b22) = b := ⟨_, rfl⟩
  obtain ⟨b29, hb29⟩ : ∃ b : Bool, (i.counterparty.toList == j.counterparty.toList) = b := ⟨_, rfl⟩
  obtain ⟨b30, hb30⟩ : ∃ b : Bool, (b23 && b29) = b := ⟨_, rfl⟩
  obtain ⟨b36, hb36⟩ : ∃ b : Bool, (i.side == j.side) = b := ⟨_, rfl⟩
  obtain ⟨b37, hb37⟩ : ∃ b : Bool, (b30 && b36) = b := ⟨_, rfl⟩
  obtain ⟨b43, hb43⟩ : ∃ b : Bool, (i.asset.toList == j.asset.toList) = b := ⟨_, rfl⟩
  obtain ⟨b44, hb44⟩ : ∃ b : Bool, (b37 && b43) = b := ⟨_, rfl⟩
  obtain ⟨b50, hb50⟩ : ∃ b : Bool, (i.quantity == j.quantity) = b := ⟨_, rfl⟩
  obtain ⟨b51, hb51⟩ : ∃ b : Bool, (b44 && b50) = b := ⟨_, rfl⟩
  obtain ⟨b57, hb57⟩ : ∃ b : Bool, (i.amount == j.amount) = b := ⟨_, rfl⟩
  obtain ⟨b58, hb58⟩ : ∃ b : Bool, (b51 && b57) = b := ⟨_, rfl⟩
  obtain ⟨b64, hb64⟩ : ∃ b : Bool, (i.tradeDay == j.tradeDay) = b := ⟨_, rfl⟩
  obtain ⟨b65, hb65⟩ : ∃ b : Bool, (b58 && b64) = b := ⟨_, rfl⟩
  obtain ⟨b71, hb71⟩ : ∃ b : Bool, (i.settleDay == j.settleDay) = b := ⟨_, rfl⟩
  obtain ⟨b72, hb72⟩ : ∃ b : Bool, (b65 && b71) = b := ⟨_, rfl⟩
  obtain ⟨b78, hb78⟩ : ∃ b : Bool, (i.priority == j.priority) = b := ⟨_, rfl⟩
  obtain ⟨b79, hb79⟩ : ∃ b : Bool, (b72 && b78) = b := ⟨_, rfl⟩
  obtain ⟨b85, hb85⟩ : ∃ b : Bool, (i.partial_ == j.partial_) = b := ⟨_, rfl⟩
  obtain ⟨b86, hb86⟩ : ∃ b : Bool, (b79 && b85) = b := ⟨_, rfl⟩
  obtain ⟨b92, hb92⟩ : ∃ b : Bool, (i.minLot == j.minLot) = b := ⟨_, rfl⟩
  obtain ⟨b93, hb93⟩ : ∃ b : Bool, (b86 && b92) = b := ⟨_, rfl⟩
  obtain ⟨b99, hb99⟩ : ∃ b : Bool, (i.hold == j.hold) = b := ⟨_, rfl⟩
  obtain ⟨b100, hb100⟩ : ∃ b : Bool, (b93 && b99) = b := ⟨_, rfl⟩
  obtain ⟨b106, hb106⟩ : ∃ b : Bool, (i.reserve == j.reserve) = b := ⟨_, rfl⟩
  obtain ⟨b107, hb107⟩ : ∃ b : Bool, (b100 && b106) = b := ⟨_, rfl⟩
  obtain ⟨b113, hb113⟩ : ∃ b : Bool, eL = b := ⟨_, rfl⟩
  obtain ⟨b114, hb114⟩ : ∃ b : Bool, (b107 && b113) = b := ⟨_, rfl⟩
  have hres : insEqB i j eL = b114 := by
    rw [← hb114, ← hb113, ← hb107, ← hb106, ← hb100, ← hb99, ← hb93, ← hb92, ← hb86, ← hb85, ← hb79, ← hb78, ← hb72, ← hb71, ← hb65, ← hb64, ← hb58, ← hb57, ← hb51, ← hb50, ← hb44, ← hb43, ← hb37, ← hb36, ← hb30, ← hb29, ← hb23, ← hb22, ← hb16, ← hb15, ← hb9]
    rfl
  obtain ⟨vs, hvs⟩ : ∃ vs : List Value, vs = [(.pointer (some ⟨g, 0, none⟩)), (.string i.ref), (.pointer (some ⟨g + 1, 0, none⟩)), (.string j.ref), (.bool b9), (.bool b9), (if b9 = true then .pointer (some ⟨g, 1, none⟩) else undef), (if b9 = true then .int .i64 i.kind else undef), (if b9 = true then .pointer (some ⟨g + 1, 1, none⟩) else undef), (if b9 = true then .int .i64 j.kind else undef), (if b9 = true then .bool b15 else undef), (.bool b16), (.bool b16), (if b16 = true then .pointer (some ⟨g, 2, none⟩) else undef), (if b16 = true then .string i.sender else undef), (if b16 = true then .pointer (some ⟨g + 1, 2, none⟩) else undef), (if b16 = true then .string j.sender else undef), (if b16 = true then .bool b22 else undef), (.bool b23), (.bool b23), (if b23 = true then .pointer (some ⟨g, 3, none⟩) else undef), (if b23 = true then .string i.counterparty else undef), (if b23 = true then .pointer (some ⟨g + 1, 3, none⟩) else undef), (if b23 = true then .string j.counterparty else undef), (if b23 = true then .bool b29 else undef), (.bool b30), (.bool b30), (if b30 = true then .pointer (some ⟨g, 4, none⟩) else undef), (if b30 = true then .int .i64 i.side else undef), (if b30 = true then .pointer (some ⟨g + 1, 4, none⟩) else undef), (if b30 = true then .int .i64 j.side else undef), (if b30 = true then .bool b36 else undef), (.bool b37), (.bool b37), (if b37 = true then .pointer (some ⟨g, 5, none⟩) else undef), (if b37 = true then .string i.asset else undef), (if b37 = true then .pointer (some ⟨g + 1, 5, none⟩) else undef), (if b37 = true then .string j.asset else undef), (if b37 = true then .bool b43 else undef), (.bool b44), (.bool b44), (if b44 = true then .pointer (some ⟨g, 6, none⟩) else undef), (if b44 = true then .int .i64 i.quantity else undef), (if b44 = true then .pointer (some ⟨g + 1, 6, none⟩) else undef), (if b44 = true then .int .i64 j.quantity else undef), (if b44 = true then .bool b50 else undef), (.bool b51), (.bool b51), (if b51 = true then .pointer (some ⟨g, 7, none⟩) else undef), (if b51 = true then .int .i64 i.amount else undef), (if b51 = true then .pointer (some ⟨g + 1, 7, none⟩) else undef), (if b51 = true then .int .i64 j.amount else undef), (if b51 = true then .bool b57 else undef), (.bool b58), (.bool b58), (if b58 = true then .pointer (some ⟨g, 8, none⟩) else undef), (if b58 = true then .int .i64 i.tradeDay else undef), (if b58 = true then .pointer (some ⟨g + 1, 8, none⟩) else undef), (if b58 = true then .int .i64 j.tradeDay else undef), (if b58 = true then .bool b64 else undef), (.bool b65), (.bool b65), (if b65 = true then .pointer (some ⟨g, 9, none⟩) else undef), (if b65 = true then .int .i64 i.settleDay else undef), (if b65 = true then .pointer (some ⟨g + 1, 9, none⟩) else undef), (if b65 = true then .int .i64 j.settleDay else undef), (if b65 = true then .bool b71 else undef), (.bool b72), (.bool b72), (if b72 = true then .pointer (some ⟨g, 10, none⟩) else undef), (if b72 = true then .int .i64 i.priority else undef), (if b72 = true then .pointer (some ⟨g + 1, 10, none⟩) else undef), (if b72 = true then .int .i64 j.priority else undef), (if b72 = true then .bool b78 else undef), (.bool b79), (.bool b79), (if b79 = true then .pointer (some ⟨g, 11, none⟩) else undef), (if b79 = true then .bool i.partial_ else undef), (if b79 = true then .pointer (some ⟨g + 1, 11, none⟩) else undef), (if b79 = true then .bool j.partial_ else undef), (if b79 = true then .bool b85 else undef), (.bool b86), (.bool b86), (if b86 = true then .pointer (some ⟨g, 12, none⟩) else undef), (if b86 = true then .int .i64 i.minLot else undef), (if b86 = true then .pointer (some ⟨g + 1, 12, none⟩) else undef), (if b86 = true then .int .i64 j.minLot else undef), (if b86 = true then .bool b92 else undef), (.bool b93), (.bool b93), (if b93 = true then .pointer (some ⟨g, 13, none⟩) else undef), (if b93 = true then .bool i.hold else undef), (if b93 = true then .pointer (some ⟨g + 1, 13, none⟩) else undef), (if b93 = true then .bool j.hold else undef), (if b93 = true then .bool b99 else undef), (.bool b100), (.bool b100), (if b100 = true then .pointer (some ⟨g, 14, none⟩) else undef), (if b100 = true then .bool i.reserve else undef), (if b100 = true then .pointer (some ⟨g + 1, 14, none⟩) else undef), (if b100 = true then .bool j.reserve else undef), (if b100 = true then .bool b106 else undef), (.bool b107), (.bool b107), (if b107 = true then .pointer (some ⟨g, 15, none⟩) else undef), (if b107 = true then .slice sa sn sc else undef), (if b107 = true then .pointer (some ⟨g + 1, 15, none⟩) else undef), (if b107 = true then .slice ta tn tc else undef), (if b107 = true then .bool b113 else undef), (.bool b114)] := ⟨_, rfl⟩
  refine wp_lastF (W0 := W1) 110 vs (by rw [hvs]; rfl) (by kernel_rfl) (by kernel_rfl) (by kernel_rfl) (Below.refl _ _) ?_ (.bool b114) (by kernel_rfl) rfl rfl rfl rfl (by show _ < 115; omega) ?_ ?_
  · intro ρ hD hrest hco hfu
    have e2 : ρ (.tmp 2) = .pointer (some ⟨g, 0, none⟩) := (hrest 2 (by decide +kernel)).trans rfl
    have e3 : ρ (.tmp 3) = .pointer (some ⟨g + 1, 0, none⟩) := (hrest 3 (by decide +kernel)).trans rfl
    obtain ⟨e5, e6, e7, e8, e9, e10, e11, e12, e13, e14, e15, e16, e17, e18, e19, e20, e21, e22, e23, e24, e25, e26, e27, e28, e29, e30, e31, e32, e33, e34, e35, e36, e37, e38, e39, e40, e41, e42, e43, e44, e45, e46, e47, e48, e49, e50, e51, e52, e53, e54, e55, e56, e57, e58, e59, e60, e61, e62, e63, e64, e65, e66, e67, e68, e69, e70, e71, e72, e73, e74, e75, e76, e77, e78, e79, e80, e81, e82, e83, e84, e85, e86, e87, e88, e89, e90, e91, e92, e93, e94, e95, e96, e97, e98, e99, e100, e101, e102, e103, e104, e105, e106, e107, e108, e109, e110, e111, e112, e113, e114, -⟩ : ρ (.tmp 5) = (.pointer (some ⟨g, 0, none⟩)) ∧ ρ (.tmp 6) = (.string i.ref) ∧ ρ (.tmp 7) = (.pointer (some ⟨g + 1, 0, none⟩)) ∧ ρ (.tmp 8) = (.string j.ref) ∧ ρ (.tmp 9) = (.bool b9) ∧ ρ (.tmp 10) = (.bool b9) ∧ ρ (.tmp 11) = (if b9 = true then .pointer (some ⟨g, 1, none⟩) else undef) ∧ ρ (.tmp 12) = (if b9 = true then .int .i64 i.kind else undef) ∧ ρ (.tmp 13) = (if b9 = true then .pointer (some ⟨g + 1, 1, none⟩) else undef) ∧ ρ (.tmp 14) = (if b9 = true then .int .i64 j.kind else undef) ∧ ρ (.tmp 15) = (if b9 = true then .bool b15 else undef) ∧ ρ (.tmp 16) = (.bool b16) ∧ ρ (.tmp 17) = (.bool b16) ∧ ρ (.tmp 18) = (if b16 = true then .pointer (some ⟨g, 2, none⟩) else undef) ∧ ρ (.tmp 19) = (if b16 = true then .string i.sender else undef) ∧ ρ (.tmp 20) = (if b16 = true then .pointer (some ⟨g + 1, 2, none⟩) else undef) ∧ ρ (.tmp 21) = (if b16 = true then .string j.sender else undef) ∧ ρ (.tmp 22) = (if b16 = true then .bool b22 else undef) ∧ ρ (.tmp 23) = (.bool b23) ∧ ρ (.tmp 24) = (.bool b23) ∧ ρ (.tmp 25) = (if b23 = true then .pointer (some ⟨g, 3, none⟩) else undef) ∧ ρ (.tmp 26) = (if b23 = true then .string i.counterparty else undef) ∧ ρ (.tmp 27) = (if b23 = true then .pointer (some ⟨g + 1, 3, none⟩) else undef) ∧ ρ (.tmp 28) = (if b23 = true then .string j.counterparty else undef) ∧ ρ (.tmp 29) = (if b23 = true then .bool b29 else undef) ∧ ρ (.tmp 30) = (.bool b30) ∧ ρ (.tmp 31) = (.bool b30) ∧ ρ (.tmp 32) = (if b30 = true then .pointer (some ⟨g, 4, none⟩) else undef) ∧ ρ (.tmp 33) = (if b30 = true then .int .i64 i.side else undef) ∧ ρ (.tmp 34) = (if b30 = true then .pointer (some ⟨g + 1, 4, none⟩) else undef) ∧ ρ (.tmp 35) = (if b30 = true then .int .i64 j.side else undef) ∧ ρ (.tmp 36) = (if b30 = true then .bool b36 else undef) ∧ ρ (.tmp 37) = (.bool b37) ∧ ρ (.tmp 38) = (.bool b37) ∧ ρ (.tmp 39) = (if b37 = true then .pointer (some ⟨g, 5, none⟩) else undef) ∧ ρ (.tmp 40) = (if b37 = true then .string i.asset else undef) ∧ ρ (.tmp 41) = (if b37 = true then .pointer (some ⟨g + 1, 5, none⟩) else undef) ∧ ρ (.tmp 42) = (if b37 = true then .string j.asset else undef) ∧ ρ (.tmp 43) = (if b37 = true then .bool b43 else undef) ∧ ρ (.tmp 44) = (.bool b44) ∧ ρ (.tmp 45) = (.bool b44) ∧ ρ (.tmp 46) = (if b44 = true then .pointer (some ⟨g, 6, none⟩) else undef) ∧ ρ (.tmp 47) = (if b44 = true then .int .i64 i.quantity else undef) ∧ ρ (.tmp 48) = (if b44 = true then .pointer (some ⟨g + 1, 6, none⟩) else undef) ∧ ρ (.tmp 49) = (if b44 = true then .int .i64 j.quantity else undef) ∧ ρ (.tmp 50) = (if b44 = true then .bool b50 else undef) ∧ ρ (.tmp 51) = (.bool b51) ∧ ρ (.tmp 52) = (.bool b51) ∧ ρ (.tmp 53) = (if b51 = true then .pointer (some ⟨g, 7, none⟩) else undef) ∧ ρ (.tmp 54) = (if b51 = true then .int .i64 i.amount else undef) ∧ ρ (.tmp 55) = (if b51 = true then .pointer (some ⟨g + 1, 7, none⟩) else undef) ∧ ρ (.tmp 56) = (if b51 = true then .int .i64 j.amount else undef) ∧ ρ (.tmp 57) = (if b51 = true then .bool b57 else undef) ∧ ρ (.tmp 58) = (.bool b58) ∧ ρ (.tmp 59) = (.bool b58) ∧ ρ (.tmp 60) = (if b58 = true then .pointer (some ⟨g, 8, none⟩) else undef) ∧ ρ (.tmp 61) = (if b58 = true then .int .i64 i.tradeDay else undef) ∧ ρ (.tmp 62) = (if b58 = true then .pointer (some ⟨g + 1, 8, none⟩) else undef) ∧ ρ (.tmp 63) = (if b58 = true then .int .i64 j.tradeDay else undef) ∧ ρ (.tmp 64) = (if b58 = true then .bool b64 else undef) ∧ ρ (.tmp 65) = (.bool b65) ∧ ρ (.tmp 66) = (.bool b65) ∧ ρ (.tmp 67) = (if b65 = true then .pointer (some ⟨g, 9, none⟩) else undef) ∧ ρ (.tmp 68) = (if b65 = true then .int .i64 i.settleDay else undef) ∧ ρ (.tmp 69) = (if b65 = true then .pointer (some ⟨g + 1, 9, none⟩) else undef) ∧ ρ (.tmp 70) = (if b65 = true then .int .i64 j.settleDay else undef) ∧ ρ (.tmp 71) = (if b65 = true then .bool b71 else undef) ∧ ρ (.tmp 72) = (.bool b72) ∧ ρ (.tmp 73) = (.bool b72) ∧ ρ (.tmp 74) = (if b72 = true then .pointer (some ⟨g, 10, none⟩) else undef) ∧ ρ (.tmp 75) = (if b72 = true then .int .i64 i.priority else undef) ∧ ρ (.tmp 76) = (if b72 = true then .pointer (some ⟨g + 1, 10, none⟩) else undef) ∧ ρ (.tmp 77) = (if b72 = true then .int .i64 j.priority else undef) ∧ ρ (.tmp 78) = (if b72 = true then .bool b78 else undef) ∧ ρ (.tmp 79) = (.bool b79) ∧ ρ (.tmp 80) = (.bool b79) ∧ ρ (.tmp 81) = (if b79 = true then .pointer (some ⟨g, 11, none⟩) else undef) ∧ ρ (.tmp 82) = (if b79 = true then .bool i.partial_ else undef) ∧ ρ (.tmp 83) = (if b79 = true then .pointer (some ⟨g + 1, 11, none⟩) else undef) ∧ ρ (.tmp 84) = (if b79 = true then .bool j.partial_ else undef) ∧ ρ (.tmp 85) = (if b79 = true then .bool b85 else undef) ∧ ρ (.tmp 86) = (.bool b86) ∧ ρ (.tmp 87) = (.bool b86) ∧ ρ (.tmp 88) = (if b86 = true then .pointer (some ⟨g, 12, none⟩) else undef) ∧ ρ (.tmp 89) = (if b86 = true then .int .i64 i.minLot else undef) ∧ ρ (.tmp 90) = (if b86 = true then .pointer (some ⟨g + 1, 12, none⟩) else undef) ∧ ρ (.tmp 91) = (if b86 = true then .int .i64 j.minLot else undef) ∧ ρ (.tmp 92) = (if b86 = true then .bool b92 else undef) ∧ ρ (.tmp 93) = (.bool b93) ∧ ρ (.tmp 94) = (.bool b93) ∧ ρ (.tmp 95) = (if b93 = true then .pointer (some ⟨g, 13, none⟩) else undef) ∧ ρ (.tmp 96) = (if b93 = true then .bool i.hold else undef) ∧ ρ (.tmp 97) = (if b93 = true then .pointer (some ⟨g + 1, 13, none⟩) else undef) ∧ ρ (.tmp 98) = (if b93 = true then .bool j.hold else undef) ∧ ρ (.tmp 99) = (if b93 = true then .bool b99 else undef) ∧ ρ (.tmp 100) = (.bool b100) ∧ ρ (.tmp 101) = (.bool b100) ∧ ρ (.tmp 102) = (if b100 = true then .pointer (some ⟨g, 14, none⟩) else undef) ∧ ρ (.tmp 103) = (if b100 = true then .bool i.reserve else undef) ∧ ρ (.tmp 104) = (if b100 = true then .pointer (some ⟨g + 1, 14, none⟩) else undef) ∧ ρ (.tmp 105) = (if b100 = true then .bool j.reserve else undef) ∧ ρ (.tmp 106) = (if b100 = true then .bool b106 else undef) ∧ ρ (.tmp 107) = (.bool b107) ∧ ρ (.tmp 108) = (.bool b107) ∧ ρ (.tmp 109) = (if b107 = true then .pointer (some ⟨g, 15, none⟩) else undef) ∧ ρ (.tmp 110) = (if b107 = true then .slice sa sn sc else undef) ∧ ρ (.tmp 111) = (if b107 = true then .pointer (some ⟨g + 1, 15, none⟩) else undef) ∧ ρ (.tmp 112) = (if b107 = true then .slice ta tn tc else undef) ∧ ρ (.tmp 113) = (if b107 = true then .bool b113 else undef) ∧ ρ (.tmp 114) = (.bool b114) ∧ True := alld_lit hvs hD
    refine ally_lit hvs ?_
    refine ⟨y_un rfl (y_addr rfl e2 (fun w => by go_simp)), ?_⟩
    refine ⟨y_un rfl (y_load rfl e5 (fun w hS => ld_str _ w _ (hcellg_0 w hS))), ?_⟩
    refine ⟨y_un rfl (y_addr rfl e3 (fun w => by go_simp)), ?_⟩
    refine ⟨y_un rfl (y_load rfl e7 (fun w hS => ld_str _ w _ (hcellh_0 w hS))), ?_⟩
    refine ⟨y_un rfl (y_bin rfl e6 e8 (cmE hb9 (cm_eqS _ _ _ _))), ?_⟩
    refine ⟨y_un rfl (y_move rfl e9), ?_⟩
    refine ⟨y_gT rfl (by rw [hvs]; rfl) (fun hG => y_addr rfl e2 (fun w => by go_simp)), ?_⟩
    refine ⟨y_gT rfl (by rw [hvs]; rfl) (fun hG => y_load rfl (pos_of e11 hG) (fun w hS => ld_int _ w _ (hcellg_1 w hS))), ?_⟩
    refine ⟨y_gT rfl (by rw [hvs]; rfl) (fun hG => y_addr rfl e3 (fun w => by go_simp)), ?_⟩
    refine ⟨y_gT rfl (by rw [hvs]; rfl) (fun hG => y_load rfl (pos_of e13 hG) (fun w hS => ld_int _ w _ (hcellh_1 w hS))), ?_⟩
    refine ⟨y_gT rfl (by rw [hvs]; rfl) (fun hG => y_bin rfl (pos_of e12 hG) (pos_of e14 hG) (cmE hb15 (cm_eq3 _ _ _ _))), ?_⟩
    refine ⟨y_un rfl (y_andE hb16 rfl e10 e15 (hco _)), ?_⟩
    refine ⟨y_un rfl (y_move rfl e16), ?_⟩
    refine ⟨y_gT rfl (by rw [hvs]; rfl) (fun hG => y_addr rfl e2 (fun w => by go_simp)), ?_⟩
    refine ⟨y_gT rfl (by rw [hvs]; rfl) (fun hG => y_load rfl (pos_of e18 hG) (fun w hS => ld_str _ w _ (hcellg_2 w hS))), ?_⟩
    refine ⟨y_gT rfl (by rw [hvs]; rfl) (fun hG => y_addr rfl e3 (fun w => by go_simp)), ?_⟩
    refine ⟨y_gT rfl (by rw [hvs]; rfl) (fun hG => y_load rfl (pos_of e20 hG) (fun w hS => ld_str _ w _ (hcellh_2 w hS))), ?_⟩
    refine ⟨y_gT rfl (by rw [hvs]; rfl) (fun hG => y_bin rfl (pos_of e19 hG) (pos_of e21 hG) (cmE hb22 (cm_eqS _ _ _ _))), ?_⟩
    refine ⟨y_un rfl (y_andE hb23 rfl e17 e22 (hco _)), ?_⟩
    refine ⟨y_un rfl (y_move rfl e23), ?_⟩
    refine ⟨y_gT rfl (by rw [hvs]; rfl) (fun hG => y_addr rfl e2 (fun w => by go_simp)), ?_⟩
    refine ⟨y_gT rfl (by rw [hvs]; rfl) (fun hG => y_load rfl (pos_of e25 hG) (fun w hS => ld_str _ w _ (hcellg_3 w hS))), ?_⟩
    refine ⟨y_gT rfl (by rw [hvs]; rfl) (fun hG => y_addr rfl e3 (fun w => by go_simp)), ?_⟩
    refine ⟨y_gT rfl (by rw [hvs]; rfl) (fun hG => y_load rfl (pos_of e27 hG) (fun w hS => ld_str _ w _ (hcellh_3 w hS))), ?_⟩
    refine ⟨y_gT rfl (by rw [hvs]; rfl) (fun hG => y_bin rfl (pos_of e26 hG) (pos_of e28 hG) (cmE hb29 (cm_eqS _ _ _ _))), ?_⟩
    refine ⟨y_un rfl (y_andE hb30 rfl e24 e29 (hco _)), ?_⟩
    refine ⟨y_un rfl (y_move rfl e30), ?_⟩
    refine ⟨y_gT rfl (by rw [hvs]; rfl) (fun hG => y_addr rfl e2 (fun w => by go_simp)), ?_⟩
    refine ⟨y_gT rfl (by rw [hvs]; rfl) (fun hG => y_load rfl (pos_of e32 hG) (fun w hS => ld_int _ w _ (hcellg_4 w hS))), ?_⟩
    refine ⟨y_gT rfl (by rw [hvs]; rfl) (fun hG => y_addr rfl e3 (fun w => by go_simp)), ?_⟩
    refine ⟨y_gT rfl (by rw [hvs]; rfl) (fun hG => y_load rfl (pos_of e34 hG) (fun w hS => ld_int _ w _ (hcellh_4 w hS))), ?_⟩
    refine ⟨y_gT rfl (by rw [hvs]; rfl) (fun hG => y_bin rfl (pos_of e33 hG) (pos_of e35 hG) (cmE hb36 (cm_eq3 _ _ _ _))), ?_⟩
    refine ⟨y_un rfl (y_andE hb37 rfl e31 e36 (hco _)), ?_⟩
    refine ⟨y_un rfl (y_move rfl e37), ?_⟩
    refine ⟨y_gT rfl (by rw [hvs]; rfl) (fun hG => y_addr rfl e2 (fun w => by go_simp)), ?_⟩
    refine ⟨y_gT rfl (by rw [hvs]; rfl) (fun hG => y_load rfl (pos_of e39 hG) (fun w hS => ld_str _ w _ (hcellg_5 w hS))), ?_⟩
    refine ⟨y_gT rfl (by rw [hvs]; rfl) (fun hG => y_addr rfl e3 (fun w => by go_simp)), ?_⟩
    refine ⟨y_gT rfl (by rw [hvs]; rfl) (fun hG => y_load rfl (pos_of e41 hG) (fun w hS => ld_str _ w _ (hcellh_5 w hS))), ?_⟩
    refine ⟨y_gT rfl (by rw [hvs]; rfl) (fun hG => y_bin rfl (pos_of e40 hG) (pos_of e42 hG) (cmE hb43 (cm_eqS _ _ _ _))), ?_⟩
    refine ⟨y_un rfl (y_andE hb44 rfl e38 e43 (hco _)), ?_⟩
    refine ⟨y_un rfl (y_move rfl e44), ?_⟩
    refine ⟨y_gT rfl (by rw [hvs]; rfl) (fun hG => y_addr rfl e2 (fun w => by go_simp)), ?_⟩
    refine ⟨y_gT rfl (by rw [hvs]; rfl) (fun hG => y_load rfl (pos_of e46 hG) (fun w hS => ld_i64 _ w _ (hcellg_6 w hS))), ?_⟩
    refine ⟨y_gT rfl (by rw [hvs]; rfl) (fun hG => y_addr rfl e3 (fun w => by go_simp)), ?_⟩
    refine ⟨y_gT rfl (by rw [hvs]; rfl) (fun hG => y_load rfl (pos_of e48 hG) (fun w hS => ld_i64 _ w _ (hcellh_6 w hS))), ?_⟩
    refine ⟨y_gT rfl (by rw [hvs]; rfl) (fun hG => y_bin rfl (pos_of e47 hG) (pos_of e49 hG) (cmE hb50 (cm_eq2 _ _ _ _))), ?_⟩
    refine ⟨y_un rfl (y_andE hb51 rfl e45 e50 (hco _)), ?_⟩
    refine ⟨y_un rfl (y_move rfl e51), ?_⟩
    refine ⟨y_gT rfl (by rw [hvs]; rfl) (fun hG => y_addr rfl e2 (fun w => by go_simp)), ?_⟩
    refine ⟨y_gT rfl (by rw [hvs]; rfl) (fun hG => y_load rfl (pos_of e53 hG) (fun w hS => ld_i64 _ w _ (hcellg_7 w hS))), ?_⟩
    refine ⟨y_gT rfl (by rw [hvs]; rfl) (fun hG => y_addr rfl e3 (fun w => by go_simp)), ?_⟩
    refine ⟨y_gT rfl (by rw [hvs]; rfl) (fun hG => y_load rfl (pos_of e55 hG) (fun w hS => ld_i64 _ w _ (hcellh_7 w hS))), ?_⟩
    refine ⟨y_gT rfl (by rw [hvs]; rfl) (fun hG => y_bin rfl (pos_of e54 hG) (pos_of e56 hG) (cmE hb57 (cm_eq2 _ _ _ _))), ?_⟩
    refine ⟨y_un rfl (y_andE hb58 rfl e52 e57 (hco _)), ?_⟩
    refine ⟨y_un rfl (y_move rfl e58), ?_⟩
    refine ⟨y_gT rfl (by rw [hvs]; rfl) (fun hG => y_addr rfl e2 (fun w => by go_simp)), ?_⟩
    refine ⟨y_gT rfl (by rw [hvs]; rfl) (fun hG => y_load rfl (pos_of e60 hG) (fun w hS => ld_int _ w _ (hcellg_8 w hS))), ?_⟩
    refine ⟨y_gT rfl (by rw [hvs]; rfl) (fun hG => y_addr rfl e3 (fun w => by go_simp)), ?_⟩
    refine ⟨y_gT rfl (by rw [hvs]; rfl) (fun hG => y_load rfl (pos_of e62 hG) (fun w hS => ld_int _ w _ (hcellh_8 w hS))), ?_⟩
    refine ⟨y_gT rfl (by rw [hvs]; rfl) (fun hG => y_bin rfl (pos_of e61 hG) (pos_of e63 hG) (cmE hb64 (cm_eq3 _ _ _ _))), ?_⟩
    refine ⟨y_un rfl (y_andE hb65 rfl e59 e64 (hco _)), ?_⟩
    refine ⟨y_un rfl (y_move rfl e65), ?_⟩
    refine ⟨y_gT rfl (by rw [hvs]; rfl) (fun hG => y_addr rfl e2 (fun w => by go_simp)), ?_⟩
    refine ⟨y_gT rfl (by rw [hvs]; rfl) (fun hG => y_load rfl (pos_of e67 hG) (fun w hS => ld_int _ w _ (hcellg_9 w hS))), ?_⟩
    refine ⟨y_gT rfl (by rw [hvs]; rfl) (fun hG => y_addr rfl e3 (fun w => by go_simp)), ?_⟩
    refine ⟨y_gT rfl (by rw [hvs]; rfl) (fun hG => y_load rfl (pos_of e69 hG) (fun w hS => ld_int _ w _ (hcellh_9 w hS))), ?_⟩
    refine ⟨y_gT rfl (by rw [hvs]; rfl) (fun hG => y_bin rfl (pos_of e68 hG) (pos_of e70 hG) (cmE hb71 (cm_eq3 _ _ _ _))), ?_⟩
    refine ⟨y_un rfl (y_andE hb72 rfl e66 e71 (hco _)), ?_⟩
    refine ⟨y_un rfl (y_move rfl e72), ?_⟩
    refine ⟨y_gT rfl (by rw [hvs]; rfl) (fun hG => y_addr rfl e2 (fun w => by go_simp)), ?_⟩
    refine ⟨y_gT rfl (by rw [hvs]; rfl) (fun hG => y_load rfl (pos_of e74 hG) (fun w hS => ld_int _ w _ (hcellg_10 w hS))), ?_⟩
    refine ⟨y_gT rfl (by rw [hvs]; rfl) (fun hG => y_addr rfl e3 (fun w => by go_simp)), ?_⟩
    refine ⟨y_gT rfl (by rw [hvs]; rfl) (fun hG => y_load rfl (pos_of e76 hG) (fun w hS => ld_int _ w _ (hcellh_10 w hS))), ?_⟩
    refine ⟨y_gT rfl (by rw [hvs]; rfl) (fun hG => y_bin rfl (pos_of e75 hG) (pos_of e77 hG) (cmE hb78 (cm_eq3 _ _ _ _))), ?_⟩
    refine ⟨y_un rfl (y_andE hb79 rfl e73 e78 (hco _)), ?_⟩
    refine ⟨y_un rfl (y_move rfl e79), ?_⟩
    refine ⟨y_gT rfl (by rw [hvs]; rfl) (fun hG => y_addr rfl e2 (fun w => by go_simp)), ?_⟩
    refine ⟨y_gT rfl (by rw [hvs]; rfl) (fun hG => y_load rfl (pos_of e81 hG) (fun w hS => ld_bool _ w _ (hcellg_11 w hS))), ?_⟩
    refine ⟨y_gT rfl (by rw [hvs]; rfl) (fun hG => y_addr rfl e3 (fun w => by go_simp)), ?_⟩
    refine ⟨y_gT rfl (by rw [hvs]; rfl) (fun hG => y_load rfl (pos_of e83 hG) (fun w hS => ld_bool _ w _ (hcellh_11 w hS))), ?_⟩
    refine ⟨y_gT rfl (by rw [hvs]; rfl) (fun hG => y_bin rfl (pos_of e82 hG) (pos_of e84 hG) (cmE hb85 (cm_eqB _ _ _ _))), ?_⟩
    refine ⟨y_un rfl (y_andE hb86 rfl e80 e85 (hco _)), ?_⟩
    refine ⟨y_un rfl (y_move rfl e86), ?_⟩
    refine ⟨y_gT rfl (by rw [hvs]; rfl) (fun hG => y_addr rfl e2 (fun w => by go_simp)), ?_⟩
    refine ⟨y_gT rfl (by rw [hvs]; rfl) (fun hG => y_load rfl (pos_of e88 hG) (fun w hS => ld_i64 _ w _ (hcellg_12 w hS))), ?_⟩
    refine ⟨y_gT rfl (by rw [hvs]; rfl) (fun hG => y_addr rfl e3 (fun w => by go_simp)), ?_⟩
    refine ⟨y_gT rfl (by rw [hvs]; rfl) (fun hG => y_load rfl (pos_of e90 hG) (fun w hS => ld_i64 _ w _ (hcellh_12 w hS))), ?_⟩
    refine ⟨y_gT rfl (by rw [hvs]; rfl) (fun hG => y_bin rfl (pos_of e89 hG) (pos_of e91 hG) (cmE hb92 (cm_eq2 _ _ _ _))), ?_⟩
    refine ⟨y_un rfl (y_andE hb93 rfl e87 e92 (hco _)), ?_⟩
    refine ⟨y_un rfl (y_move rfl e93), ?_⟩
    refine ⟨y_gT rfl (by rw [hvs]; rfl) (fun hG => y_addr rfl e2 (fun w => by go_simp)), ?_⟩
    refine ⟨y_gT rfl (by rw [hvs]; rfl) (fun hG => y_load rfl (pos_of e95 hG) (fun w hS => ld_bool _ w _ (hcellg_13 w hS))), ?_⟩
    refine ⟨y_gT rfl (by rw [hvs]; rfl) (fun hG => y_addr rfl e3 (fun w => by go_simp)), ?_⟩
    refine ⟨y_gT rfl (by rw [hvs]; rfl) (fun hG => y_load rfl (pos_of e97 hG) (fun w hS => ld_bool _ w _ (hcellh_13 w hS))), ?_⟩
    refine ⟨y_gT rfl (by rw [hvs]; rfl) (fun hG => y_bin rfl (pos_of e96 hG) (pos_of e98 hG) (cmE hb99 (cm_eqB _ _ _ _))), ?_⟩
    refine ⟨y_un rfl (y_andE hb100 rfl e94 e99 (hco _)), ?_⟩
    refine ⟨y_un rfl (y_move rfl e100), ?_⟩
    refine ⟨y_gT rfl (by rw [hvs]; rfl) (fun hG => y_addr rfl e2 (fun w => by go_simp)), ?_⟩
    refine ⟨y_gT rfl (by rw [hvs]; rfl) (fun hG => y_load rfl (pos_of e102 hG) (fun w hS => ld_bool _ w _ (hcellg_14 w hS))), ?_⟩
    refine ⟨y_gT rfl (by rw [hvs]; rfl) (fun hG => y_addr rfl e3 (fun w => by go_simp)), ?_⟩
    refine ⟨y_gT rfl (by rw [hvs]; rfl) (fun hG => y_load rfl (pos_of e104 hG) (fun w hS => ld_bool _ w _ (hcellh_14 w hS))), ?_⟩
    refine ⟨y_gT rfl (by rw [hvs]; rfl) (fun hG => y_bin rfl (pos_of e103 hG) (pos_of e105 hG) (cmE hb106 (cm_eqB _ _ _ _))), ?_⟩
    refine ⟨y_un rfl (y_andE hb107 rfl e101 e106 (hco _)), ?_⟩
    refine ⟨y_un rfl (y_move rfl e107), ?_⟩
    refine ⟨y_gT rfl (by rw [hvs]; rfl) (fun hG => y_addr rfl e2 (fun w => by go_simp)), ?_⟩
    refine ⟨y_gT rfl (by rw [hvs]; rfl) (fun hG => y_load rfl (pos_of e109 hG) (fun w hS => ld_sl _ w _ _ _ (hcellg_15 w hS))), ?_⟩
    refine ⟨y_gT rfl (by rw [hvs]; rfl) (fun hG => y_addr rfl e3 (fun w => by go_simp)), ?_⟩
    refine ⟨y_gT rfl (by rw [hvs]; rfl) (fun hG => y_load rfl (pos_of e111 hG) (fun w hS => ld_sl _ w _ _ _ (hcellh_15 w hS))), ?_⟩
    refine ⟨y_gT rfl (by rw [hvs]; rfl) (fun hG => y_call rfl (hfu _) ent101 (by simp only [List.map_toArray, List.map_cons, List.map_nil, (pos_of e110 hG), (pos_of e112 hG)]) (callE hb113 (callB hB1 c101))), ?_⟩
    refine ⟨y_un rfl (y_andE hb114 rfl e108 e113 (hco _)), ?_⟩
    exact trivial
  · intro ρ hD
    obtain ⟨e5, e6, e7, e8, e9, e10, e11, e12, e13, e14, e15, e16, e17, e18, e19, e20, e21, e22, e23, e24, e25, e26, e27, e28, e29, e30, e31, e32, e33, e34, e35, e36, e37, e38, e39, e40, e41, e42, e43, e44, e45, e46, e47, e48, e49, e50, e51, e52, e53, e54, e55, e56, e57, e58, e59, e60, e61, e62, e63, e64, e65, e66, e67, e68, e69, e70, e71, e72, e73, e74, e75, e76, e77, e78, e79, e80, e81, e82, e83, e84, e85, e86, e87, e88, e89, e90, e91, e92, e93, e94, e95, e96, e97, e98, e99, e100, e101, e102, e103, e104, e105, e106, e107, e108, e109, e110, e111, e112, e113, e114, -⟩ : ρ (.tmp 5) = (.pointer (some ⟨g, 0, none⟩)) ∧ ρ (.tmp 6) = (.string i.ref) ∧ ρ (.tmp 7) = (.pointer (some ⟨g + 1, 0, none⟩)) ∧ ρ (.tmp 8) = (.string j.ref) ∧ ρ (.tmp 9) = (.bool b9) ∧ ρ (.tmp 10) = (.bool b9) ∧ ρ (.tmp 11) = (if b9 = true then .pointer (some ⟨g, 1, none⟩) else undef) ∧ ρ (.tmp 12) = (if b9 = true then .int .i64 i.kind else undef) ∧ ρ (.tmp 13) = (if b9 = true then .pointer (some ⟨g + 1, 1, none⟩) else undef) ∧ ρ (.tmp 14) = (if b9 = true then .int .i64 j.kind else undef) ∧ ρ (.tmp 15) = (if b9 = true then .bool b15 else undef) ∧ ρ (.tmp 16) = (.bool b16) ∧ ρ (.tmp 17) = (.bool b16) ∧ ρ (.tmp 18) = (if b16 = true then .pointer (some ⟨g, 2, none⟩) else undef) ∧ ρ (.tmp 19) = (if b16 = true then .string i.sender else undef) ∧ ρ (.tmp 20) = (if b16 = true then .pointer (some ⟨g + 1, 2, none⟩) else undef) ∧ ρ (.tmp 21) = (if b16 = true then .string j.sender else undef) ∧ ρ (.tmp 22) = (if b16 = true then .bool b22 else undef) ∧ ρ (.tmp 23) = (.bool b23) ∧ ρ (.tmp 24) = (.bool b23) ∧ ρ (.tmp 25) = (if b23 = true then .pointer (some ⟨g, 3, none⟩) else undef) ∧ ρ (.tmp 26) = (if b23 = true then .string i.counterparty else undef) ∧ ρ (.tmp 27) = (if b23 = true then .pointer (some ⟨g + 1, 3, none⟩) else undef) ∧ ρ (.tmp 28) = (if b23 = true then .string j.counterparty else undef) ∧ ρ (.tmp 29) = (if b23 = true then .bool b29 else undef) ∧ ρ (.tmp 30) = (.bool b30) ∧ ρ (.tmp 31) = (.bool b30) ∧ ρ (.tmp 32) = (if b30 = true then .pointer (some ⟨g, 4, none⟩) else undef) ∧ ρ (.tmp 33) = (if b30 = true then .int .i64 i.side else undef) ∧ ρ (.tmp 34) = (if b30 = true then .pointer (some ⟨g + 1, 4, none⟩) else undef) ∧ ρ (.tmp 35) = (if b30 = true then .int .i64 j.side else undef) ∧ ρ (.tmp 36) = (if b30 = true then .bool b36 else undef) ∧ ρ (.tmp 37) = (.bool b37) ∧ ρ (.tmp 38) = (.bool b37) ∧ ρ (.tmp 39) = (if b37 = true then .pointer (some ⟨g, 5, none⟩) else undef) ∧ ρ (.tmp 40) = (if b37 = true then .string i.asset else undef) ∧ ρ (.tmp 41) = (if b37 = true then .pointer (some ⟨g + 1, 5, none⟩) else undef) ∧ ρ (.tmp 42) = (if b37 = true then .string j.asset else undef) ∧ ρ (.tmp 43) = (if b37 = true then .bool b43 else undef) ∧ ρ (.tmp 44) = (.bool b44) ∧ ρ (.tmp 45) = (.bool b44) ∧ ρ (.tmp 46) = (if b44 = true then .pointer (some ⟨g, 6, none⟩) else undef) ∧ ρ (.tmp 47) = (if b44 = true then .int .i64 i.quantity else undef) ∧ ρ (.tmp 48) = (if b44 = true then .pointer (some ⟨g + 1, 6, none⟩) else undef) ∧ ρ (.tmp 49) = (if b44 = true then .int .i64 j.quantity else undef) ∧ ρ (.tmp 50) = (if b44 = true then .bool b50 else undef) ∧ ρ (.tmp 51) = (.bool b51) ∧ ρ (.tmp 52) = (.bool b51) ∧ ρ (.tmp 53) = (if b51 = true then .pointer (some ⟨g, 7, none⟩) else undef) ∧ ρ (.tmp 54) = (if b51 = true then .int .i64 i.amount else undef) ∧ ρ (.tmp 55) = (if b51 = true then .pointer (some ⟨g + 1, 7, none⟩) else undef) ∧ ρ (.tmp 56) = (if b51 = true then .int .i64 j.amount else undef) ∧ ρ (.tmp 57) = (if b51 = true then .bool b57 else undef) ∧ ρ (.tmp 58) = (.bool b58) ∧ ρ (.tmp 59) = (.bool b58) ∧ ρ (.tmp 60) = (if b58 = true then .pointer (some ⟨g, 8, none⟩) else undef) ∧ ρ (.tmp 61) = (if b58 = true then .int .i64 i.tradeDay else undef) ∧ ρ (.tmp 62) = (if b58 = true then .pointer (some ⟨g + 1, 8, none⟩) else undef) ∧ ρ (.tmp 63) = (if b58 = true then .int .i64 j.tradeDay else undef) ∧ ρ (.tmp 64) = (if b58 = true then .bool b64 else undef) ∧ ρ (.tmp 65) = (.bool b65) ∧ ρ (.tmp 66) = (.bool b65) ∧ ρ (.tmp 67) = (if b65 = true then .pointer (some ⟨g, 9, none⟩) else undef) ∧ ρ (.tmp 68) = (if b65 = true then .int .i64 i.settleDay else undef) ∧ ρ (.tmp 69) = (if b65 = true then .pointer (some ⟨g + 1, 9, none⟩) else undef) ∧ ρ (.tmp 70) = (if b65 = true then .int .i64 j.settleDay else undef) ∧ ρ (.tmp 71) = (if b65 = true then .bool b71 else undef) ∧ ρ (.tmp 72) = (.bool b72) ∧ ρ (.tmp 73) = (.bool b72) ∧ ρ (.tmp 74) = (if b72 = true then .pointer (some ⟨g, 10, none⟩) else undef) ∧ ρ (.tmp 75) = (if b72 = true then .int .i64 i.priority else undef) ∧ ρ (.tmp 76) = (if b72 = true then .pointer (some ⟨g + 1, 10, none⟩) else undef) ∧ ρ (.tmp 77) = (if b72 = true then .int .i64 j.priority else undef) ∧ ρ (.tmp 78) = (if b72 = true then .bool b78 else undef) ∧ ρ (.tmp 79) = (.bool b79) ∧ ρ (.tmp 80) = (.bool b79) ∧ ρ (.tmp 81) = (if b79 = true then .pointer (some ⟨g, 11, none⟩) else undef) ∧ ρ (.tmp 82) = (if b79 = true then .bool i.partial_ else undef) ∧ ρ (.tmp 83) = (if b79 = true then .pointer (some ⟨g + 1, 11, none⟩) else undef) ∧ ρ (.tmp 84) = (if b79 = true then .bool j.partial_ else undef) ∧ ρ (.tmp 85) = (if b79 = true then .bool b85 else undef) ∧ ρ (.tmp 86) = (.bool b86) ∧ ρ (.tmp 87) = (.bool b86) ∧ ρ (.tmp 88) = (if b86 = true then .pointer (some ⟨g, 12, none⟩) else undef) ∧ ρ (.tmp 89) = (if b86 = true then .int .i64 i.minLot else undef) ∧ ρ (.tmp 90) = (if b86 = true then .pointer (some ⟨g + 1, 12, none⟩) else undef) ∧ ρ (.tmp 91) = (if b86 = true then .int .i64 j.minLot else undef) ∧ ρ (.tmp 92) = (if b86 = true then .bool b92 else undef) ∧ ρ (.tmp 93) = (.bool b93) ∧ ρ (.tmp 94) = (.bool b93) ∧ ρ (.tmp 95) = (if b93 = true then .pointer (some ⟨g, 13, none⟩) else undef) ∧ ρ (.tmp 96) = (if b93 = true then .bool i.hold else undef) ∧ ρ (.tmp 97) = (if b93 = true then .pointer (some ⟨g + 1, 13, none⟩) else undef) ∧ ρ (.tmp 98) = (if b93 = true then .bool j.hold else undef) ∧ ρ (.tmp 99) = (if b93 = true then .bool b99 else undef) ∧ ρ (.tmp 100) = (.bool b100) ∧ ρ (.tmp 101) = (.bool b100) ∧ ρ (.tmp 102) = (if b100 = true then .pointer (some ⟨g, 14, none⟩) else undef) ∧ ρ (.tmp 103) = (if b100 = true then .bool i.reserve else undef) ∧ ρ (.tmp 104) = (if b100 = true then .pointer (some ⟨g + 1, 14, none⟩) else undef) ∧ ρ (.tmp 105) = (if b100 = true then .bool j.reserve else undef) ∧ ρ (.tmp 106) = (if b100 = true then .bool b106 else undef) ∧ ρ (.tmp 107) = (.bool b107) ∧ ρ (.tmp 108) = (.bool b107) ∧ ρ (.tmp 109) = (if b107 = true then .pointer (some ⟨g, 15, none⟩) else undef) ∧ ρ (.tmp 110) = (if b107 = true then .slice sa sn sc else undef) ∧ ρ (.tmp 111) = (if b107 = true then .pointer (some ⟨g + 1, 15, none⟩) else undef) ∧ ρ (.tmp 112) = (if b107 = true then .slice ta tn tc else undef) ∧ ρ (.tmp 113) = (if b107 = true then .bool b113 else undef) ∧ ρ (.tmp 114) = (.bool b114) ∧ True := alld_lit hvs hD
    exact e114
  · intro b W hB hdf hsz h3 hrest
    obtain ⟨⟨bl⟩, bd⟩ := b
    have hdf2 : bd = [] := hdf
    subst hdf2
    obtain ⟨u0, u1, u2, u3, u4, u5, u6, u7, u8, u9, u10, u11, u12, u13, u14, u15, u16, u17, u18, u19, u20, u21, u22, u23, u24, u25, u26, u27, u28, u29, u30, u31, u32, u33, u34, u35, u36, u37, u38, u39, u40, u41, u42, u43, u44, u45, u46, u47, u48, u49, u50, u51, u52, u53, u54, u55, u56, u57, u58, u59, u60, u61, u62, u63, u64, u65, u66, u67, u68, u69, u70, u71, u72, u73, u74, u75, u76, u77, u78, u79, u80, u81, u82, u83, u84, u85, u86, u87, u88, u89, u90, u91, u92, u93, u94, u95, u96, u97, u98, u99, u100, u101, u102, u103, u104, u105, u106, u107, u108, u109, u110, u111, u112, u113, u114, hbl⟩ := fr115 bl hsz
    subst hbl
    obtain rfl : u4 = _ := Option.some.inj h3
    clear h3 hsz hdf hrest hvs
    have HB : Hid (Below w.heap.size w W) := Lib.hid (hB1.trans (hB.mono hB1.size))
    clear hrow hrow2 hB hB1 c101
    go_wp2_with fail
    go_ret
    exact ⟨by rw [hres]; rfl, HB.out⟩

end Go.Proofs.YthijakidnkhbnaaGreatDoor

