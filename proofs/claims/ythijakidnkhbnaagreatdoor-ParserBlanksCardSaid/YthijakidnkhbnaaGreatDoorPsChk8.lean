/-
  (message.Instruction).Check: the walk of its rules.
-/
import Derived.Test.YthijakidnkhbnaaGreatDoorPsChk2
import Derived.Test.YthijakidnkhbnaaGreatDoorPsChkQ
import Derived.Test.YthijakidnkhbnaaGreatDoorPsChk5
namespace Go.Proofs.YthijakidnkhbnaaGreatDoor
open Go.RowKit
open Go.Proofs.YthijakidnkhbnaaGreatDoor.Ord


set_option maxRecDepth 100000 in
theorem ld_ins (g : Nat) (i : Ps.Ins) (sa : Option Addr) (sn sc : Nat) (w : World) (h : InsRow w g i (.slice sa sn sc)) : (Instr.loadAt 25 (.pointer (some ⟨g, 0, none⟩))).run Tryz.prog w = .ok (.agg (insCells i (.slice sa sn sc)).toArray) w := by
  have k0 := h.at 0 _ rfl
  have k1 := h.at 1 _ rfl
  have k2 := h.at 2 _ rfl
  have k3 := h.at 3 _ rfl
  have k4 := h.at 4 _ rfl
  have k5 := h.at 5 _ rfl
  have k6 := h.at 6 _ rfl
  have k7 := h.at 7 _ rfl
  have k8 := h.at 8 _ rfl
  have k9 := h.at 9 _ rfl
  have k10 := h.at 10 _ rfl
  have k11 := h.at 11 _ rfl
  have k12 := h.at 12 _ rfl
  have k13 := h.at 13 _ rfl
  have k14 := h.at 14 _ rfl
  have k15 := h.at 15 _ rfl
  clear h
  go_simp
  rfl

set_option maxRecDepth 100000 in
set_option maxHeartbeats 4000000 in
theorem in_w1 (w : World) (i : Ps.Ins) (sa : Option Addr) (sn sc : Nat) (V : Nat → ByteArray → Bool) (x x1 xL : Int) (hx1 : x1 = firstE (insRules V i sn)) (hn8 : x1 = 0 → sn ≤ 8) (HSN : Hid (sn = i.links.length)) (HSC : Hid (sn ≤ sc)) (hLE : Hid (Ps.linksE V i [] i.links = xL)) (HLK : Hid (0 < sn → ∃ sb, sa = some ⟨sb, 0, none⟩ ∧ ∀ W, Below w.heap.size w W → LkRow W sb i.links)) (hx : x = if x1 ≠ 0 then x1 else xL) (hV0 : ∀ (s : ByteArray) (w' : World), Below w.heap.size w w' → Calls Tryz.prog 65 #[.int .i64 0, .string s] w' fun e w'' => e = .returned (.bool (V 0 s)) ∧ Below w'.heap.size w' w'') (hV1 : ∀ (s : ByteArray) (w' : World), Below w.heap.size w w' → Calls Tryz.prog 65 #[.int .i64 1, .string s] w' fun e w'' => e = .returned (.bool (V 1 s)) ∧ Below w'.heap.size w' w'') (hV2 : ∀ (s : ByteArray) (w' : World), Below w.heap.size w w' → Calls Tryz.prog 65 #[.int .i64 2, .string s] w' fun e w'' => e = .returned (.bool (V 2 s)) ∧ Below w'.heap.size w' w'')
    : Calls Tryz.prog 66 #[.agg (insCells i (.slice sa sn sc)).toArray] w fun e w' => e = .returned (.int .i64 x) ∧ Below w.heap.size w w' := by
  go_enter Tryz.func66, Tryz.ntmps66
  go_upto_region 1 with fail
  obtain ⟨g, hg⟩ : ∃ g, g = w.heap.size := ⟨_, rfl⟩
  rw [← hg]
  rename_i Q1 K1 hK
  obtain ⟨W1, hW1⟩ : ∃ W1, W1 = w.alloc (.cells (insCells i (.slice sa sn sc)).toArray 25) := ⟨_, rfl⟩
  have hrow : ∀ W, Below W1.heap.size W1 W → InsRow W g i (.slice sa sn sc) := fun W hW => by
    have e1 := insRow_new w i (.slice sa sn sc)
    rw [← hW1, ← hg] at e1
    exact e1.below hW
  have hB1 : Below w.heap.size w W1 := by rw [hW1]; exact (Below.refl _ _).alloc (Nat.le_refl _) _
  have hagg : ∀ W, Below W1.heap.size W1 W → _ := fun W hW => ld_ins g i sa sn sc W (hrow W hW)
  rw [← hW1]
  clear hW1 hg
  have hcellg_0 : ∀ W, Below W1.heap.size W1 W → W.cell? ⟨g, 0, none⟩ = some (.string i.ref) := fun W hW => (hrow W hW).at 0 _ rfl
  have hcellg_1 : ∀ W, Below W1.heap.size W1 W → W.cell? ⟨g, 1, none⟩ = some (.int .i64 i.kind) := fun W hW => (hrow W hW).at 1 _ rfl
  have hcellg_2 : ∀ W, Below W1.heap.size W1 W → W.cell? ⟨g, 2, none⟩ = some (.string i.sender) := fun W hW => (hrow W hW).at 2 _ rfl
  have hcellg_3 : ∀ W, Below W1.heap.size W1 W → W.cell? ⟨g, 3, none⟩ = some (.string i.counterparty) := fun W hW => (hrow W hW).at 3 _ rfl
  have hcellg_4 : ∀ W, Below W1.heap.size W1 W → W.cell? ⟨g, 4, none⟩ = some (.int .i64 i.side) := fun W hW => (hrow W hW).at 4 _ rfl
  have hcellg_5 : ∀ W, Below W1.heap.size W1 W → W.cell? ⟨g, 5, none⟩ = some (.string i.asset) := fun W hW => (hrow W hW).at 5 _ rfl
  have hcellg_6 : ∀ W, Below W1.heap.size W1 W → W.cell? ⟨g, 6, none⟩ = some (.int .i64 i.quantity) := fun W hW => (hrow W hW).at 6 _ rfl
  have hcellg_7 : ∀ W, Below W1.heap.size W1 W → W.cell? ⟨g, 7, none⟩ = some (.int .i64 i.amount) := fun W hW => (hrow W hW).at 7 _ rfl
  have hcellg_8 : ∀ W, Below W1.heap.size W1 W → W.cell? ⟨g, 8, none⟩ = some (.int .i64 i.tradeDay) := fun W hW => (hrow W hW).at 8 _ rfl
  have hcellg_9 : ∀ W, Below W1.heap.size W1 W → W.cell? ⟨g, 9, none⟩ = some (.int .i64 i.settleDay) := fun W hW => (hrow W hW).at 9 _ rfl
  have hcellg_10 : ∀ W, Below W1.heap.size W1 W → W.cell? ⟨g, 10, none⟩ = some (.int .i64 i.priority) := fun W hW => (hrow W hW).at 10 _ rfl
  have hcellg_11 : ∀ W, Below W1.heap.size W1 W → W.cell? ⟨g, 11, none⟩ = some (.bool i.partial_) := fun W hW => (hrow W hW).at 11 _ rfl
  have hcellg_12 : ∀ W, Below W1.heap.size W1 W → W.cell? ⟨g, 12, none⟩ = some (.int .i64 i.minLot) := fun W hW => (hrow W hW).at 12 _ rfl
  have hcellg_13 : ∀ W, Below W1.heap.size W1 W → W.cell? ⟨g, 13, none⟩ = some (.bool i.hold) := fun W hW => (hrow W hW).at 13 _ rfl
  have hcellg_14 : ∀ W, Below W1.heap.size W1 W → W.cell? ⟨g, 14, none⟩ = some (.bool i.reserve) := fun W hW => (hrow W hW).at 14 _ rfl
  have hcellg_15 : ∀ W, Below W1.heap.size W1 W → W.cell? ⟨g, 15, none⟩ = some (.slice sa sn sc) := fun W hW => (hrow W hW).at 15 _ rfl
  obtain ⟨b9, hb9⟩ : ∃ b : Bool, (inB i.kind 0 4) = b := ⟨_, rfl⟩
  obtain ⟨b14, hb14⟩ : ∃ b : Bool, (V 2 i.ref) = b := ⟨_, rfl⟩
  obtain ⟨b19, hb19⟩ : ∃ b : Bool, (V 1 i.sender) = b := ⟨_, rfl⟩
  obtain ⟨b23, hb23⟩ : ∃ b : Bool, ((i.kind == 3) || (i.kind == 4)) = b := ⟨_, rfl⟩
  obtain ⟨b27, hb27⟩ : ∃ b : Bool, (!(i.counterparty.toList == (⟨#[]⟩ : ByteArray).toList)) = b := ⟨_, rfl⟩
  obtain ⟨b28, hb28⟩ : ∃ b : Bool, (b23 && b27) = b := ⟨_, rfl⟩
  obtain ⟨b31, hb31⟩ : ∃ b : Bool, ((i.kind == 3) || (i.kind == 4)) = b := ⟨_, rfl⟩
  obtain ⟨b36, hb36⟩ : ∃ b : Bool, (V 1 i.counterparty) = b := ⟨_, rfl⟩
  obtain ⟨b38, hb38⟩ : ∃ b : Bool, ((!b31) && (!b36)) = b := ⟨_, rfl⟩
  obtain ⟨b44, hb44⟩ : ∃ b : Bool, (i.counterparty.toList == i.sender.toList) = b := ⟨_, rfl⟩
  obtain ⟨b48, hb48⟩ : ∃ b : Bool, (inB i.side 0 1) = b := ⟨_, rfl⟩
  obtain ⟨b52, hb52⟩ : ∃ b : Bool, ((i.kind == 1) || (i.kind == 2)) = b := ⟨_, rfl⟩
  obtain ⟨b57, hb57⟩ : ∃ b : Bool, (i.side != 0) = b := ⟨_, rfl⟩
  obtain ⟨b58, hb58⟩ : ∃ b : Bool, ((!b52) && b57) = b := ⟨_, rfl⟩
  obtain ⟨b61, hb61⟩ : ∃ b : Bool, (if (i.kind == 0) = true then (i.asset.toList == [67, 65, 83, 72]) else V 0 i.asset) = b := ⟨_, rfl⟩
  obtain ⟨b68, hb68⟩ : ∃ b : Bool, (i.kind != 0) = b := ⟨_, rfl⟩
  obtain ⟨b69, hb69⟩ : ∃ b : Bool, (bndB i.quantity b68) = b := ⟨_, rfl⟩
  obtain ⟨b76, hb76⟩ : ∃ b : Bool, (i.kind == 0) = b := ⟨_, rfl⟩
  obtain ⟨b80, hb80⟩ : ∃ b : Bool, (i.kind == 1) = b := ⟨_, rfl⟩
  obtain ⟨b81, hb81⟩ : ∃ b : Bool, (b76 || b80) = b := ⟨_, rfl⟩
  obtain ⟨b82, hb82⟩ : ∃ b : Bool, (bndB i.amount b81) = b := ⟨_, rfl⟩
  obtain ⟨b87, hb87⟩ : ∃ b : Bool, (inB i.settleDay 0 73048) = b := ⟨_, rfl⟩
  obtain ⟨b91, hb91⟩ : ∃ b : Bool, ((i.kind == 1) || (i.kind == 2)) = b := ⟨_, rfl⟩
  obtain ⟨b97, hb97⟩ : ∃ b : Bool, (inB i.tradeDay 0 i.settleDay) = b := ⟨_, rfl⟩
  obtain ⟨b99, hb99⟩ : ∃ b : Bool, (b91 && (!b97)) = b := ⟨_, rfl⟩
  obtain ⟨b102, hb102⟩ : ∃ b : Bool, ((i.kind == 1) || (i.kind == 2)) = b := ⟨_, rfl⟩
  obtain ⟨b107, hb107⟩ : ∃ b : Bool, (i.tradeDay != 0) = b := ⟨_, rfl⟩
  obtain ⟨b108, hb108⟩ : ∃ b : Bool, ((!b102) && b107) = b := ⟨_, rfl⟩
  obtain ⟨b109, hb109⟩ : ∃ b : Bool, (b99 || b108) = b := ⟨_, rfl⟩
  obtain ⟨b113, hb113⟩ : ∃ b : Bool, (inB i.priority 0 2) = b := ⟨_, rfl⟩
  obtain ⟨b117, hb117⟩ : ∃ b : Bool, ((i.kind == 3) || (i.kind == 4)) = b := ⟨_, rfl⟩
  obtain ⟨b121, hb121⟩ : ∃ b : Bool, (i.priority != 0) = b := ⟨_, rfl⟩
  obtain ⟨b122, hb122⟩ : ∃ b : Bool, (b117 && b121) = b := ⟨_, rfl⟩
  obtain ⟨b123, hb123⟩ : ∃ b : Bool, ((!b113) || b122) = b := ⟨_, rfl⟩
  obtain ⟨b129, hb129⟩ : ∃ b : Bool, ((i.kind == 1) || (i.kind == 2)) = b := ⟨_, rfl⟩
  obtain ⟨b131, hb131⟩ : ∃ b : Bool, (i.partial_ && (!b129)) = b := ⟨_, rfl⟩
  obtain ⟨b138, hb138⟩ : ∃ b : Bool, (decide (i.minLot < 1)) = b := ⟨_, rfl⟩
  obtain ⟨b139, hb139⟩ : ∃ b : Bool, (i.partial_ && b138) = b := ⟨_, rfl⟩
  obtain ⟨b145, hb145⟩ : ∃ b : Bool, (inB i.minLot 0 (if i.partial_ = true then i.quantity else 0)) = b := ⟨_, rfl⟩
  obtain ⟨b147, hb147⟩ : ∃ b : Bool, (b139 || (!b145)) = b := ⟨_, rfl⟩
  obtain ⟨b153, hb153⟩ : ∃ b : Bool, ((i.kind == 3) || (i.kind == 4)) = b := ⟨_, rfl⟩
  obtain ⟨b154, hb154⟩ : ∃ b : Bool, (i.hold && b153) = b := ⟨_, rfl⟩
  obtain ⟨b161, hb161⟩ : ∃ b : Bool, (i.kind != 0) = b := ⟨_, rfl⟩
  obtain ⟨b165, hb165⟩ : ∃ b : Bool, (i.priority != 2) = b := ⟨_, rfl⟩
  obtain ⟨b166, hb166⟩ : ∃ b : Bool, (b161 || b165) = b := ⟨_, rfl⟩
  obtain ⟨b167, hb167⟩ : ∃ b : Bool, (i.reserve && b166) = b := ⟨_, rfl⟩
  obtain ⟨b170, hb170⟩ : ∃ b : Bool, ((i.kind == 3) || (i.kind == 4)) = b := ⟨_, rfl⟩
  obtain ⟨b175, hb175⟩ : ∃ b : Bool, (decide (0 < (sn : Int))) = b := ⟨_, rfl⟩
  obtain ⟨b176, hb176⟩ : ∃ b : Bool, (b170 && b175) = b := ⟨_, rfl⟩
  obtain ⟨b181, hb181⟩ : ∃ b : Bool, (decide (8 < (sn : Int))) = b := ⟨_, rfl⟩
  have hres : insRules V i sn = [((!b9), 11), ((!b14), 6), ((!b19), 6), (b28, 3), (b38, 6), (b44, 1), ((!b48), 11), (b58, 3), ((!b61), 6), ((!b69), 2), ((!b82), 2), ((!b87), 28), (b109, 28), (b123, 2), (b131, 3), (b147, 2), (b154, 3), (b167, 3), (b176, 3), (b181, 8)] := by
    rw [← hb181, ← hb176, ← hb175, ← hb170, ← hb167, ← hb166, ← hb165, ← hb161, ← hb154, ← hb153, ← hb147, ← hb145, ← hb139, ← hb138, ← hb131, ← hb129, ← hb123, ← hb122, ← hb121, ← hb117, ← hb113, ← hb109, ← hb108, ← hb107, ← hb102, ← hb99, ← hb97, ← hb91, ← hb87, ← hb82, ← hb81, ← hb80, ← hb76, ← hb69, ← hb68, ← hb61, ← hb58, ← hb57, ← hb52, ← hb48, ← hb44, ← hb38, ← hb36, ← hb31, ← hb28, ← hb27, ← hb23, ← hb19, ← hb14, ← hb9]
    rfl
  obtain ⟨vs, hvs⟩ : ∃ vs : List Value, vs = [(.pointer (some ⟨g, 1, none⟩)), (.int .i64 i.kind), (.bool b9), (.bool (!b9)), (.agg #[.bool (!b9), .int .i64 11]), (.pointer (some ⟨g, 0, none⟩)), (.string i.ref), (.bool b14), (.bool (!b14)), (.agg #[.bool (!b14), .int .i64 6]), (.pointer (some ⟨g, 2, none⟩)), (.string i.sender), (.bool b19), (.bool (!b19)), (.agg #[.bool (!b19), .int .i64 6]), (.agg (insCells i (.slice sa sn sc)).toArray), (.bool b23), (.bool b23), (if b23 = true then .pointer (some ⟨g, 3, none⟩) else undef), (if b23 = true then .string i.counterparty else undef), (if b23 = true then .bool b27 else undef), (.bool b28), (.agg #[.bool b28, .int .i64 3]), (.agg (insCells i (.slice sa sn sc)).toArray), (.bool b31), (.bool (!b31)), (.bool (!b31)), (if (!b31) = true then .pointer (some ⟨g, 3, none⟩) else undef), (if (!b31) = true then .string i.counterparty else undef), (if (!b31) = true then .bool b36 else undef), (if (!b31) = true then .bool (!b36) else undef), (.bool b38), (.agg #[.bool b38, .int .i64 6]), (.pointer (some ⟨g, 3, none⟩)), (.string i.counterparty), (.pointer (some ⟨g, 2, none⟩)), (.string i.sender), (.bool b44), (.agg #[.bool b44, .int .i64 1]), (.pointer (some ⟨g, 4, none⟩)), (.int .i64 i.side), (.bool b48), (.bool (!b48)), (.agg #[.bool (!b48), .int .i64 11]), (.agg (insCells i (.slice sa sn sc)).toArray), (.bool b52), (.bool (!b52)), (.bool (!b52)), (if (!b52) = true then .pointer (some ⟨g, 4, none⟩) else undef), (if (!b52) = true then .int .i64 i.side else undef), (if (!b52) = true then .bool b57 else undef), (.bool b58), (.agg #[.bool b58, .int .i64 3]), (.agg (insCells i (.slice sa sn sc)).toArray), (.bool b61), (.bool (!b61)), (.agg #[.bool (!b61), .int .i64 6]), (.pointer (some ⟨g, 6, none⟩)), (.int .i64 i.quantity), (.pointer (some ⟨g, 1, none⟩)), (.int .i64 i.kind), (.bool b68), (.bool b69), (.bool (!b69)), (.agg #[.bool (!b69), .int .i64 2]), (.pointer (some ⟨g, 7, none⟩)), (.int .i64 i.amount), (.pointer (some ⟨g, 1, none⟩)), (.int .i64 i.kind), (.bool b76), (.bool b76), (if (!b76) = true then .pointer (some ⟨g, 1, none⟩) else undef), (if (!b76) = true then .int .i64 i.kind else undef), (if (!b76) = true then .bool b80 else undef), (.bool b81), (.bool b82), (.bool (!b82)), (.agg #[.bool (!b82), .int .i64 2]), (.pointer (some ⟨g, 9, none⟩)), (.int .i64 i.settleDay), (.bool b87), (.bool (!b87)), (.agg #[.bool (!b87), .int .i64 28]), (.agg (insCells i (.slice sa sn sc)).toArray), (.bool b91), (.bool b91), (if b91 = true then .pointer (some ⟨g, 8, none⟩) else undef), (if b91 = true then .int .i64 i.tradeDay else undef), (if b91 = true then .pointer (some ⟨g, 9, none⟩) else undef), (if b91 = true then .int .i64 i.settleDay else undef), (if b91 = true then .bool b97 else undef), (if b91 = true then .bool (!b97) else undef), (.bool b99), (.bool b99), (if (!b99) = true then .agg (insCells i (.slice sa sn sc)).toArray else undef), (if (!b99) = true then .bool b102 else undef), (if (!b99) = true then .bool (!b102) else undef), (if (!b99) = true then .bool (!b102) else undef), (if ((!b99) && (!b102)) = true then .pointer (some ⟨g, 8, none⟩) else undef), (if ((!b99) && (!b102)) = true then .int .i64 i.tradeDay else undef), (if ((!b99) && (!b102)) = true then .bool b107 else undef), (if (!b99) = true then .bool b108 else undef), (.bool b109), (.agg #[.bool b109, .int .i64 28]), (.pointer (some ⟨g, 10, none⟩)), (.int .i64 i.priority), (.bool b113), (.bool (!b113)), (.bool (!b113)), (if (!(!b113)) = true then .agg (insCells i (.slice sa sn sc)).toArray else undef), (if (!(!b113)) = true then .bool b117 else undef), (if (!(!b113)) = true then .bool b117 else undef), (if ((!(!b113)) && b117) = true then .pointer (some ⟨g, 10, none⟩) else undef), (if ((!(!b113)) && b117) = true then .int .i64 i.priority else undef), (if ((!(!b113)) && b117) = true then .bool b121 else undef), (if (!(!b113)) = true then .bool b122 else undef), (.bool b123), (.agg #[.bool b123, .int .i64 2]), (.pointer (some ⟨g, 11, none⟩)), (.bool i.partial_), (.bool i.partial_), (if i.partial_ = true then .agg (insCells i (.slice sa sn sc)).toArray else undef), (if i.partial_ = true then .bool b129 else undef), (if i.partial_ = true then .bool (!b129) else undef), (.bool b131), (.agg #[.bool b131, .int .i64 3]), (.pointer (some ⟨g, 11, none⟩)), (.bool i.partial_), (.bool i.partial_), (if i.partial_ = true then .pointer (some ⟨g, 12, none⟩) else undef), (if i.partial_ = true then .int .i64 i.minLot else undef), (if i.partial_ = true then .bool b138 else undef), (.bool b139), (.bool b139), (if (!b139) = true then .pointer (some ⟨g, 12, none⟩) else undef), (if (!b139) = true then .int .i64 i.minLot else undef), (if (!b139) = true then .agg (insCells i (.slice sa sn sc)).toArray else undef), (if (!b139) = true then .int .i64 (if i.partial_ = true then i.quantity else 0) else undef), (if (!b139) = true then .bool b145 else undef), (if (!b139) = true then .bool (!b145) else undef), (.bool b147), (.agg #[.bool b147, .int .i64 2]), (.pointer (some ⟨g, 13, none⟩)), (.bool i.hold), (.bool i.hold), (if i.hold = true then .agg (insCells i (.slice sa sn sc)).toArray else undef), (if i.hold = true then .bool b153 else undef), (.bool b154), (.agg #[.bool b154, .int .i64 3]), (.pointer (some ⟨g, 14, none⟩)), (.bool i.reserve), (.bool i.reserve), (if i.reserve = true then .pointer (some ⟨g, 1, none⟩) else undef), (if i.reserve = true then .int .i64 i.kind else undef), (if i.reserve = true then .bool b161 else undef), (if i.reserve = true then .bool b161 else undef), (if (i.reserve && (!b161)) = true then .pointer (some ⟨g, 10, none⟩) else undef), (if (i.reserve && (!b161)) = true then .int .i64 i.priority else undef), (if (i.reserve && (!b161)) = true then .bool b165 else undef), (if i.reserve = true then .bool b166 else undef), (.bool b167), (.agg #[.bool b167, .int .i64 3]), (.agg (insCells i (.slice sa sn sc)).toArray), (.bool b170), (.bool b170), (if b170 = true then .pointer (some ⟨g, 15, none⟩) else undef), (if b170 = true then .slice sa sn sc else undef), (if b170 = true then .int .i64 (sn : Int) else undef), (if b170 = true then .bool b175 else undef), (.bool b176), (.agg #[.bool b176, .int .i64 3]), (.pointer (some ⟨g, 15, none⟩)), (.slice sa sn sc), (.int .i64 (sn : Int)), (.bool b181), (.agg #[.bool b181, .int .i64 8])] := ⟨_, rfl⟩
  refine wp_rules (W0 := W1) 176 vs (by rw [hvs]; rfl) (by kernel_rfl) (by kernel_rfl) (by kernel_rfl) (by kernel_rfl) (Below.refl _ _) ?_ [((!b9), 11), ((!b14), 6), ((!b19), 6), (b28, 3), (b38, 6), (b44, 1), ((!b48), 11), (b58, 3), ((!b61), 6), ((!b69), 2), ((!b82), 2), ((!b87), 28), (b109, 28), (b123, 2), (b131, 3), (b147, 2), (b154, 3), (b167, 3), (b176, 3), (b181, 8)] (by simp) (by kernel_rfl) rfl rfl rfl rfl rfl rfl rfl rfl rfl rfl rfl rfl ⟨by show _ < 225; omega, by show _ < 225; omega, by show _ < 225; omega⟩ 110 ?_ ?_
  · intro ρ hD hrest hco hfu
    have e1 : ρ (.tmp 1) = .pointer (some ⟨g, 0, none⟩) := (hrest 1 (by decide +kernel)).trans rfl
    obtain ⟨e7, e8, e9, e10, e11, e12, e13, e14, e15, e16, e17, e18, e19, e20, e21, e22, e23, e24, e25, e26, e27, e28, e29, e30, e31, e32, e33, e34, e35, e36, e37, e38, e39, e40, e41, e42, e43, e44, e45, e46, e47, e48, e49, e50, e51, e52, e53, e54, e55, e56, e57, e58, e59, e60, e61, e62, e63, e64, e65, e66, e67, e68, e69, e70, e71, e72, e73, e74, e75, e76, e77, e78, e79, e80, e81, e82, e83, e84, e85, e86, e87, e88, e89, e90, e91, e92, e93, e94, e95, e96, e97, e98, e99, e100, e101, e102, e103, e104, e105, e106, e107, e108, e109, e110, e111, e112, e113, e114, e115, e116, e117, e118, e119, e120, e121, e122, e123, e124, e125, e126, e127, e128, e129, e130, e131, e132, e133, e134, e135, e136, e137, e138, e139, e140, e141, e142, e143, e144, e145, e146, e147, e148, e149, e150, e151, e152, e153, e154, e155, e156, e157, e158, e159, e160, e161, e162, e163, e164, e165, e166, e167, e168, e169, e170, e171, e172, e173, e174, e175, e176, e177, e178, e179, e180, e181, e182, -⟩ : ρ (.tmp 7) = (.pointer (some ⟨g, 1, none⟩)) ∧ ρ (.tmp 8) = (.int .i64 i.kind) ∧ ρ (.tmp 9) = (.bool b9) ∧ ρ (.tmp 10) = (.bool (!b9)) ∧ ρ (.tmp 11) = (.agg #[.bool (!b9), .int .i64 11]) ∧ ρ (.tmp 12) = (.pointer (some ⟨g, 0, none⟩)) ∧ ρ (.tmp 13) = (.string i.ref) ∧ ρ (.tmp 14) = (.bool b14) ∧ ρ (.tmp 15) = (.bool (!b14)) ∧ ρ (.tmp 16) = (.agg #[.bool (!b14), .int .i64 6]) ∧ ρ (.tmp 17) = (.pointer (some ⟨g, 2, none⟩)) ∧ ρ (.tmp 18) = (.string i.sender) ∧ ρ (.tmp 19) = (.bool b19) ∧ ρ (.tmp 20) = (.bool (!b19)) ∧ ρ (.tmp 21) = (.agg #[.bool (!b19), .int .i64 6]) ∧ ρ (.tmp 22) = (.agg (insCells i (.slice sa sn sc)).toArray) ∧ ρ (.tmp 23) = (.bool b23) ∧ ρ (.tmp 24) = (.bool b23) ∧ ρ (.tmp 25) = (if b23 = true then .pointer (some ⟨g, 3, none⟩) else undef) ∧ ρ (.tmp 26) = (if b23 = true then .string i.counterparty else undef) ∧ ρ (.tmp 27) = (if b23 = true then .bool b27 else undef) ∧ ρ (.tmp 28) = (.bool b28) ∧ ρ (.tmp 29) = (.agg #[.bool b28, .int .i64 3]) ∧ ρ (.tmp 30) = (.agg (insCells i (.slice sa sn sc)).toArray) ∧ ρ (.tmp 31) = (.bool b31) ∧ ρ (.tmp 32) = (.bool (!b31)) ∧ ρ (.tmp 33) = (.bool (!b31)) ∧ ρ (.tmp 34) = (if (!b31) = true then .pointer (some ⟨g, 3, none⟩) else undef) ∧ ρ (.tmp 35) = (if (!b31) = true then .string i.counterparty else undef) ∧ ρ (.tmp 36) = (if (!b31) = true then .bool b36 else undef) ∧ ρ (.tmp 37) = (if (!b31) = true then .bool (!b36) else undef) ∧ ρ (.tmp 38) = (.bool b38) ∧ ρ (.tmp 39) = (.agg #[.bool b38, .int .i64 6]) ∧ ρ (.tmp 40) = (.pointer (some ⟨g, 3, none⟩)) ∧ ρ (.tmp 41) = (.string i.counterparty) ∧ ρ (.tmp 42) = (.pointer (some ⟨g, 2, none⟩)) ∧ ρ (.tmp 43) = (.string i.sender) ∧ ρ (.tmp 44) = (.bool b44) ∧ ρ (.tmp 45) = (.agg #[.bool b44, .int .i64 1]) ∧ ρ (.tmp 46) = (.pointer (some ⟨g, 4, none⟩)) ∧ ρ (.tmp 47) = (.int .i64 i.side) ∧ ρ (.tmp 48) = (.bool b48) ∧ ρ (.tmp 49) = (.bool (!b48)) ∧ ρ (.tmp 50) = (.agg #[.bool (!b48), .int .i64 11]) ∧ ρ (.tmp 51) = (.agg (insCells i (.slice sa sn sc)).toArray) ∧ ρ (.tmp 52) = (.bool b52) ∧ ρ (.tmp 53) = (.bool (!b52)) ∧ ρ (.tmp 54) = (.bool (!b52)) ∧ ρ (.tmp 55) = (if (!b52) = true then .pointer (some ⟨g, 4, none⟩) else undef) ∧ ρ (.tmp 56) = (if (!b52) = true then .int .i64 i.side else undef) ∧ ρ (.tmp 57) = (if (!b52) = true then .bool b57 else undef) ∧ ρ (.tmp 58) = (.bool b58) ∧ ρ (.tmp 59) = (.agg #[.bool b58, .int .i64 3]) ∧ ρ (.tmp 60) = (.agg (insCells i (.slice sa sn sc)).toArray) ∧ ρ (.tmp 61) = (.bool b61) ∧ ρ (.tmp 62) = (.bool (!b61)) ∧ ρ (.tmp 63) = (.agg #[.bool (!b61), .int .i64 6]) ∧ ρ (.tmp 64) = (.pointer (some ⟨g, 6, none⟩)) ∧ ρ (.tmp 65) = (.int .i64 i.quantity) ∧ ρ (.tmp 66) = (.pointer (some ⟨g, 1, none⟩)) ∧ ρ (.tmp 67) = (.int .i64 i.kind) ∧ ρ (.tmp 68) = (.bool b68) ∧ ρ (.tmp 69) = (.bool b69) ∧ ρ (.tmp 70) = (.bool (!b69)) ∧ ρ (.tmp 71) = (.agg #[.bool (!b69), .int .i64 2]) ∧ ρ (.tmp 72) = (.pointer (some ⟨g, 7, none⟩)) ∧ ρ (.tmp 73) = (.int .i64 i.amount) ∧ ρ (.tmp 74) = (.pointer (some ⟨g, 1, none⟩)) ∧ ρ (.tmp 75) = (.int .i64 i.kind) ∧ ρ (.tmp 76) = (.bool b76) ∧ ρ (.tmp 77) = (.bool b76) ∧ ρ (.tmp 78) = (if (!b76) = true then .pointer (some ⟨g, 1, none⟩) else undef) ∧ ρ (.tmp 79) = (if (!b76) = true then .int .i64 i.kind else undef) ∧ ρ (.tmp 80) = (if (!b76) = true then .bool b80 else undef) ∧ ρ (.tmp 81) = (.bool b81) ∧ ρ (.tmp 82) = (.bool b82) ∧ ρ (.tmp 83) = (.bool (!b82)) ∧ ρ (.tmp 84) = (.agg #[.bool (!b82), .int .i64 2]) ∧ ρ (.tmp 85) = (.pointer (some ⟨g, 9, none⟩)) ∧ ρ (.tmp 86) = (.int .i64 i.settleDay) ∧ ρ (.tmp 87) = (.bool b87) ∧ ρ (.tmp 88) = (.bool (!b87)) ∧ ρ (.tmp 89) = (.agg #[.bool (!b87), .int .i64 28]) ∧ ρ (.tmp 90) = (.agg (insCells i (.slice sa sn sc)).toArray) ∧ ρ (.tmp 91) = (.bool b91) ∧ ρ (.tmp 92) = (.bool b91) ∧ ρ (.tmp 93) = (if b91 = true then .pointer (some ⟨g, 8, none⟩) else undef) ∧ ρ (.tmp 94) = (if b91 = true then .int .i64 i.tradeDay else undef) ∧ ρ (.tmp 95) = (if b91 = true then .pointer (some ⟨g, 9, none⟩) else undef) ∧ ρ (.tmp 96) = (if b91 = true then .int .i64 i.settleDay else undef) ∧ ρ (.tmp 97) = (if b91 = true then .bool b97 else undef) ∧ ρ (.tmp 98) = (if b91 = true then .bool (!b97) else undef) ∧ ρ (.tmp 99) = (.bool b99) ∧ ρ (.tmp 100) = (.bool b99) ∧ ρ (.tmp 101) = (if (!b99) = true then .agg (insCells i (.slice sa sn sc)).toArray else undef) ∧ ρ (.tmp 102) = (if (!b99) = true then .bool b102 else undef) ∧ ρ (.tmp 103) = (if (!b99) = true then .bool (!b102) else undef) ∧ ρ (.tmp 104) = (if (!b99) = true then .bool (!b102) else undef) ∧ ρ (.tmp 105) = (if ((!b99) && (!b102)) = true then .pointer (some ⟨g, 8, none⟩) else undef) ∧ ρ (.tmp 106) = (if ((!b99) && (!b102)) = true then .int .i64 i.tradeDay else undef) ∧ ρ (.tmp 107) = (if ((!b99) && (!b102)) = true then .bool b107 else undef) ∧ ρ (.tmp 108) = (if (!b99) = true then .bool b108 else undef) ∧ ρ (.tmp 109) = (.bool b109) ∧ ρ (.tmp 110) = (.agg #[.bool b109, .int .i64 28]) ∧ ρ (.tmp 111) = (.pointer (some ⟨g, 10, none⟩)) ∧ ρ (.tmp 112) = (.int .i64 i.priority) ∧ ρ (.tmp 113) = (.bool b113) ∧ ρ (.tmp 114) = (.bool (!b113)) ∧ ρ (.tmp 115) = (.bool (!b113)) ∧ ρ (.tmp 116) = (if (!(!b113)) = true then .agg (insCells i (.slice sa sn sc)).toArray else undef) ∧ ρ (.tmp 117) = (if (!(!b113)) = true then .bool b117 else undef) ∧ ρ (.tmp 118) = (if (!(!b113)) = true then .bool b117 else undef) ∧ ρ (.tmp 119) = (if ((!(!b113)) && b117) = true then .pointer (some ⟨g, 10, none⟩) else undef) ∧ ρ (.tmp 120) = (if ((!(!b113)) && b117) = true then .int .i64 i.priority else undef) ∧ ρ (.tmp 121) = (if ((!(!b113)) && b117) = true then .bool b121 else undef) ∧ ρ (.tmp 122) = (if (!(!b113)) = true then .bool b122 else undef) ∧ ρ (.tmp 123) = (.bool b123) ∧ ρ (.tmp 124) = (.agg #[.bool b123, .int .i64 2]) ∧ ρ (.tmp 125) = (.pointer (some ⟨g, 11, none⟩)) ∧ ρ (.tmp 126) = (.bool i.partial_) ∧ ρ (.tmp 127) = (.bool i.partial_) ∧ ρ (.tmp 128) = (if i.partial_ = true then .agg (insCells i (.slice sa sn sc)).toArray else undef) ∧ ρ (.tmp 129) = (if i.partial_ = true then .bool b129 else undef) ∧ ρ (.tmp 130) = (if i.partial_ = true then .bool (!b129) else undef) ∧ ρ (.tmp 131) = (.bool b131) ∧ ρ (.tmp 132) = (.agg #[.bool b131, .int .i64 3]) ∧ ρ (.tmp 133) = (.pointer (some ⟨g, 11, none⟩)) ∧ ρ (.tmp 134) = (.bool i.partial_) ∧ ρ (.tmp 135) = (.bool i.partial_) ∧ ρ (.tmp 136) = (if i.partial_ = true then .pointer (some ⟨g, 12, none⟩) else undef) ∧ ρ (.tmp 137) = (if i.partial_ = true then .int .i64 i.minLot else undef) ∧ ρ (.tmp 138) = (if i.partial_ = true then .bool b138 else undef) ∧ ρ (.tmp 139) = (.bool b139) ∧ ρ (.tmp 140) = (.bool b139) ∧ ρ (.tmp 141) = (if (!b139) = true then .pointer (some ⟨g, 12, none⟩) else undef) ∧ ρ (.tmp 142) = (if (!b139) = true then .int .i64 i.minLot else undef) ∧ ρ (.tmp 143) = (if (!b139) = true then .agg (insCells i (.slice sa sn sc)).toArray else undef) ∧ ρ (.tmp 144) = (if (!b139) = true then .int .i64 (if i.partial_ = true then i.quantity else 0) else undef) ∧ ρ (.tmp 145) = (if (!b139) = true then .bool b145 else undef) ∧ ρ (.tmp 146) = (if (!b139) = true then .bool (!b145) else undef) ∧ ρ (.tmp 147) = (.bool b147) ∧ ρ (.tmp 148) = (.agg #[.bool b147, .int .i64 2]) ∧ ρ (.tmp 149) = (.pointer (some ⟨g, 13, none⟩)) ∧ ρ (.tmp 150) = (.bool i.hold) ∧ ρ (.tmp 151) = (.bool i.hold) ∧ ρ (.tmp 152) = (if i.hold = true then .agg (insCells i (.slice sa sn sc)).toArray else undef) ∧ ρ (.tmp 153) = (if i.hold = true then .bool b153 else undef) ∧ ρ (.tmp 154) = (.bool b154) ∧ ρ (.tmp 155) = (.agg #[.bool b154, .int .i64 3]) ∧ ρ (.tmp 156) = (.pointer (some ⟨g, 14, none⟩)) ∧ ρ (.tmp 157) = (.bool i.reserve) ∧ ρ (.tmp 158) = (.bool i.reserve) ∧ ρ (.tmp 159) = (if i.reserve = true then .pointer (some ⟨g, 1, none⟩) else undef) ∧ ρ (.tmp 160) = (if i.reserve = true then .int .i64 i.kind else undef) ∧ ρ (.tmp 161) = (if i.reserve = true then .bool b161 else undef) ∧ ρ (.tmp 162) = (if i.reserve = true then .bool b161 else undef) ∧ ρ (.tmp 163) = (if (i.reserve && (!b161)) = true then .pointer (some ⟨g, 10, none⟩) else undef) ∧ ρ (.tmp 164) = (if (i.reserve && (!b161)) = true then .int .i64 i.priority else undef) ∧ ρ (.tmp 165) = (if (i.reserve && (!b161)) = true then .bool b165 else undef) ∧ ρ (.tmp 166) = (if i.reserve = true then .bool b166 else undef) ∧ ρ (.tmp 167) = (.bool b167) ∧ ρ (.tmp 168) = (.agg #[.bool b167, .int .i64 3]) ∧ ρ (.tmp 169) = (.agg (insCells i (.slice sa sn sc)).toArray) ∧ ρ (.tmp 170) = (.bool b170) ∧ ρ (.tmp 171) = (.bool b170) ∧ ρ (.tmp 172) = (if b170 = true then .pointer (some ⟨g, 15, none⟩) else undef) ∧ ρ (.tmp 173) = (if b170 = true then .slice sa sn sc else undef) ∧ ρ (.tmp 174) = (if b170 = true then .int .i64 (sn : Int) else undef) ∧ ρ (.tmp 175) = (if b170 = true then .bool b175 else undef) ∧ ρ (.tmp 176) = (.bool b176) ∧ ρ (.tmp 177) = (.agg #[.bool b176, .int .i64 3]) ∧ ρ (.tmp 178) = (.pointer (some ⟨g, 15, none⟩)) ∧ ρ (.tmp 179) = (.slice sa sn sc) ∧ ρ (.tmp 180) = (.int .i64 (sn : Int)) ∧ ρ (.tmp 181) = (.bool b181) ∧ ρ (.tmp 182) = (.agg #[.bool b181, .int .i64 8]) ∧ True := alld_lit hvs hD
    refine ally_lit hvs ?_
    refine ⟨y_un rfl (y_addr rfl e1 (fun w => by go_simp)), ?_⟩
    refine ⟨y_un rfl (y_load rfl e7 (fun w hS => ld_int _ w _ (hcellg_1 w hS))), ?_⟩
    refine ⟨y_un rfl (y_call rfl (hfu _) ent57 (by simp only [List.map_toArray, List.map_cons, List.map_nil, e8, hco]) (callE hb9 (callB hB1 fun W _ => ck_withinB W _ _ _))), ?_⟩
    refine ⟨y_un rfl (y_not rfl e9), ?_⟩
    refine ⟨y_un rfl (y_build rfl (bd_rule ρ _ _ _ e10 (hco _))), ?_⟩
    refine ⟨y_un rfl (y_addr rfl e1 (fun w => by go_simp)), ?_⟩
    refine ⟨y_un rfl (y_load rfl e12 (fun w hS => ld_str _ w _ (hcellg_0 w hS))), ?_⟩
    refine ⟨y_un rfl (y_call rfl (hfu _) ent58 (by simp only [List.map_toArray, List.map_cons, List.map_nil, e13, hco]) (callE hb14 (callB hB1 (hV2 _)))), ?_⟩
    refine ⟨y_un rfl (y_not rfl e14), ?_⟩
    refine ⟨y_un rfl (y_build rfl (bd_rule ρ _ _ _ e15 (hco _))), ?_⟩
    refine ⟨y_un rfl (y_addr rfl e1 (fun w => by go_simp)), ?_⟩
    refine ⟨y_un rfl (y_load rfl e17 (fun w hS => ld_str _ w _ (hcellg_2 w hS))), ?_⟩
    refine ⟨y_un rfl (y_call rfl (hfu _) ent58 (by simp only [List.map_toArray, List.map_cons, List.map_nil, e18, hco]) (callE hb19 (callB hB1 (hV1 _)))), ?_⟩
    refine ⟨y_un rfl (y_not rfl e19), ?_⟩
    refine ⟨y_un rfl (y_build rfl (bd_rule ρ _ _ _ e20 (hco _))), ?_⟩
    refine ⟨y_un rfl (y_load rfl e1 (fun w hS => hagg w hS)), ?_⟩
    refine ⟨y_un rfl (y_call rfl (hfu _) ent105 (by simp only [List.map_toArray, List.map_cons, List.map_nil, e22]) (callE hb23 (callB hB1 fun W _ => is_col W i (.slice sa sn sc) _ _ rfl rfl))), ?_⟩
    refine ⟨y_un rfl (y_move rfl e23), ?_⟩
    refine ⟨y_gT rfl (by rw [hvs]; rfl) (fun hG => y_addr rfl e1 (fun w => by go_simp)), ?_⟩
    refine ⟨y_gT rfl (by rw [hvs]; rfl) (fun hG => y_load rfl (pos_of e25 hG) (fun w hS => ld_str _ w _ (hcellg_3 w hS))), ?_⟩
    refine ⟨y_gT rfl (by rw [hvs]; rfl) (fun hG => y_bin rfl (pos_of e26 hG) (hco _) (cmE hb27 (cm_neS _ _ _ _))), ?_⟩
    refine ⟨y_un rfl (y_andE hb28 rfl e24 e27 (hco _)), ?_⟩
    refine ⟨y_un rfl (y_build rfl (bd_rule ρ _ _ _ e28 (hco _))), ?_⟩
    refine ⟨y_un rfl (y_load rfl e1 (fun w hS => hagg w hS)), ?_⟩
    refine ⟨y_un rfl (y_call rfl (hfu _) ent105 (by simp only [List.map_toArray, List.map_cons, List.map_nil, e30]) (callE hb31 (callB hB1 fun W _ => is_col W i (.slice sa sn sc) _ _ rfl rfl))), ?_⟩
    refine ⟨y_un rfl (y_not rfl e31), ?_⟩
    refine ⟨y_un rfl (y_move rfl e32), ?_⟩
    refine ⟨y_gT rfl (by rw [hvs]; rfl) (fun hG => y_addr rfl e1 (fun w => by go_simp)), ?_⟩
    refine ⟨y_gT rfl (by rw [hvs]; rfl) (fun hG => y_load rfl (pos_of e34 hG) (fun w hS => ld_str _ w _ (hcellg_3 w hS))), ?_⟩
    refine ⟨y_gT rfl (by rw [hvs]; rfl) (fun hG => y_call rfl (hfu _) ent58 (by simp only [List.map_toArray, List.map_cons, List.map_nil, (pos_of e35 hG), hco]) (callE hb36 (callB hB1 (hV1 _)))), ?_⟩
    refine ⟨y_gT rfl (by rw [hvs]; rfl) (fun hG => y_not rfl (pos_of e36 hG)), ?_⟩
    refine ⟨y_un rfl (y_andE hb38 rfl e33 e37 (hco _)), ?_⟩
    refine ⟨y_un rfl (y_build rfl (bd_rule ρ _ _ _ e38 (hco _))), ?_⟩
    refine ⟨y_un rfl (y_addr rfl e1 (fun w => by go_simp)), ?_⟩
    refine ⟨y_un rfl (y_load rfl e40 (fun w hS => ld_str _ w _ (hcellg_3 w hS))), ?_⟩
    refine ⟨y_un rfl (y_addr rfl e1 (fun w => by go_simp)), ?_⟩
    refine ⟨y_un rfl (y_load rfl e42 (fun w hS => ld_str _ w _ (hcellg_2 w hS))), ?_⟩
    refine ⟨y_un rfl (y_bin rfl e41 e43 (cmE hb44 (cm_eqS _ _ _ _))), ?_⟩
    refine ⟨y_un rfl (y_build rfl (bd_rule ρ _ _ _ e44 (hco _))), ?_⟩
    refine ⟨y_un rfl (y_addr rfl e1 (fun w => by go_simp)), ?_⟩
    refine ⟨y_un rfl (y_load rfl e46 (fun w hS => ld_int _ w _ (hcellg_4 w hS))), ?_⟩
    refine ⟨y_un rfl (y_call rfl (hfu _) ent57 (by simp only [List.map_toArray, List.map_cons, List.map_nil, e47, hco]) (callE hb48 (callB hB1 fun W _ => ck_withinB W _ _ _))), ?_⟩
    refine ⟨y_un rfl (y_not rfl e48), ?_⟩
    refine ⟨y_un rfl (y_build rfl (bd_rule ρ _ _ _ e49 (hco _))), ?_⟩
    refine ⟨y_un rfl (y_load rfl e1 (fun w hS => hagg w hS)), ?_⟩
    refine ⟨y_un rfl (y_call rfl (hfu _) ent106 (by simp only [List.map_toArray, List.map_cons, List.map_nil, e51]) (callE hb52 (callB hB1 fun W _ => is_sec W i (.slice sa sn sc) _ _ rfl rfl))), ?_⟩
    refine ⟨y_un rfl (y_not rfl e52), ?_⟩
    refine ⟨y_un rfl (y_move rfl e53), ?_⟩
    refine ⟨y_gT rfl (by rw [hvs]; rfl) (fun hG => y_addr rfl e1 (fun w => by go_simp)), ?_⟩
    refine ⟨y_gT rfl (by rw [hvs]; rfl) (fun hG => y_load rfl (pos_of e55 hG) (fun w hS => ld_int _ w _ (hcellg_4 w hS))), ?_⟩
    refine ⟨y_gT rfl (by rw [hvs]; rfl) (fun hG => y_bin rfl (pos_of e56 hG) (hco _) (cmE hb57 (cm_ne3 _ _ _ _))), ?_⟩
    refine ⟨y_un rfl (y_andE hb58 rfl e54 e57 (hco _)), ?_⟩
    refine ⟨y_un rfl (y_build rfl (bd_rule ρ _ _ _ e58 (hco _))), ?_⟩
    refine ⟨y_un rfl (y_load rfl e1 (fun w hS => hagg w hS)), ?_⟩
    refine ⟨y_un rfl (y_call rfl (hfu _) ent107 (by simp only [List.map_toArray, List.map_cons, List.map_nil, e60]) (callE hb61 (callB hB1 fun W hW => is_asset W i (.slice sa sn sc) _ _ _ rfl rfl fun w2 h2 => hV0 _ w2 (hW.trans (h2.mono hW.size))))), ?_⟩
    refine ⟨y_un rfl (y_not rfl e61), ?_⟩
    refine ⟨y_un rfl (y_build rfl (bd_rule ρ _ _ _ e62 (hco _))), ?_⟩
    refine ⟨y_un rfl (y_addr rfl e1 (fun w => by go_simp)), ?_⟩
    refine ⟨y_un rfl (y_load rfl e64 (fun w hS => ld_i64 _ w _ (hcellg_6 w hS))), ?_⟩
    refine ⟨y_un rfl (y_addr rfl e1 (fun w => by go_simp)), ?_⟩
    refine ⟨y_un rfl (y_load rfl e66 (fun w hS => ld_int _ w _ (hcellg_1 w hS))), ?_⟩
    refine ⟨y_un rfl (y_bin rfl e67 (hco _) (cmE hb68 (cm_ne3 _ _ _ _))), ?_⟩
    refine ⟨y_un rfl (y_call rfl (hfu _) ent108 (by simp only [List.map_toArray, List.map_cons, List.map_nil, e65, e68]) (callE hb69 (callB hB1 fun W _ => bounded_ W _ _ _ rfl))), ?_⟩
    refine ⟨y_un rfl (y_not rfl e69), ?_⟩
    refine ⟨y_un rfl (y_build rfl (bd_rule ρ _ _ _ e70 (hco _))), ?_⟩
    refine ⟨y_un rfl (y_addr rfl e1 (fun w => by go_simp)), ?_⟩
    refine ⟨y_un rfl (y_load rfl e72 (fun w hS => ld_i64 _ w _ (hcellg_7 w hS))), ?_⟩
    refine ⟨y_un rfl (y_addr rfl e1 (fun w => by go_simp)), ?_⟩
    refine ⟨y_un rfl (y_load rfl e74 (fun w hS => ld_int _ w _ (hcellg_1 w hS))), ?_⟩
    refine ⟨y_un rfl (y_bin rfl e75 (hco _) (cmE hb76 (cm_eq3 _ _ _ _))), ?_⟩
    refine ⟨y_un rfl (y_move rfl e76), ?_⟩
    refine ⟨y_gF rfl (by rw [hvs]; rfl) (fun hG => y_addr rfl e1 (fun w => by go_simp)), ?_⟩
    refine ⟨y_gF rfl (by rw [hvs]; rfl) (fun hG => y_load rfl (pos_of e78 hG) (fun w hS => ld_int _ w _ (hcellg_1 w hS))), ?_⟩
    refine ⟨y_gF rfl (by rw [hvs]; rfl) (fun hG => y_bin rfl (pos_of e79 hG) (hco _) (cmE hb80 (cm_eq3 _ _ _ _))), ?_⟩
    refine ⟨y_un rfl (y_orE hb81 rfl e77 (hco _) e80), ?_⟩
    refine ⟨y_un rfl (y_call rfl (hfu _) ent108 (by simp only [List.map_toArray, List.map_cons, List.map_nil, e73, e81]) (callE hb82 (callB hB1 fun W _ => bounded_ W _ _ _ rfl))), ?_⟩
    refine ⟨y_un rfl (y_not rfl e82), ?_⟩
    refine ⟨y_un rfl (y_build rfl (bd_rule ρ _ _ _ e83 (hco _))), ?_⟩
    refine ⟨y_un rfl (y_addr rfl e1 (fun w => by go_simp)), ?_⟩
    refine ⟨y_un rfl (y_load rfl e85 (fun w hS => ld_int _ w _ (hcellg_9 w hS))), ?_⟩
    refine ⟨y_un rfl (y_call rfl (hfu _) ent57 (by simp only [List.map_toArray, List.map_cons, List.map_nil, e86, hco]) (callE hb87 (callB hB1 fun W _ => ck_withinB W _ _ _))), ?_⟩
    refine ⟨y_un rfl (y_not rfl e87), ?_⟩
    refine ⟨y_un rfl (y_build rfl (bd_rule ρ _ _ _ e88 (hco _))), ?_⟩
    refine ⟨y_un rfl (y_load rfl e1 (fun w hS => hagg w hS)), ?_⟩
    refine ⟨y_un rfl (y_call rfl (hfu _) ent106 (by simp only [List.map_toArray, List.map_cons, List.map_nil, e90]) (callE hb91 (callB hB1 fun W _ => is_sec W i (.slice sa sn sc) _ _ rfl rfl))), ?_⟩
    refine ⟨y_un rfl (y_move rfl e91), ?_⟩
    refine ⟨y_gT rfl (by rw [hvs]; rfl) (fun hG => y_addr rfl e1 (fun w => by go_simp)), ?_⟩
    refine ⟨y_gT rfl (by rw [hvs]; rfl) (fun hG => y_load rfl (pos_of e93 hG) (fun w hS => ld_int _ w _ (hcellg_8 w hS))), ?_⟩
    refine ⟨y_gT rfl (by rw [hvs]; rfl) (fun hG => y_addr rfl e1 (fun w => by go_simp)), ?_⟩
    refine ⟨y_gT rfl (by rw [hvs]; rfl) (fun hG => y_load rfl (pos_of e95 hG) (fun w hS => ld_int _ w _ (hcellg_9 w hS))), ?_⟩
    refine ⟨y_gT rfl (by rw [hvs]; rfl) (fun hG => y_call rfl (hfu _) ent57 (by simp only [List.map_toArray, List.map_cons, List.map_nil, (pos_of e94 hG), (pos_of e96 hG), hco]) (callE hb97 (callB hB1 fun W _ => ck_withinB W _ _ _))), ?_⟩
    refine ⟨y_gT rfl (by rw [hvs]; rfl) (fun hG => y_not rfl (pos_of e97 hG)), ?_⟩
    refine ⟨y_un rfl (y_andE hb99 rfl e92 e98 (hco _)), ?_⟩
    refine ⟨y_un rfl (y_move rfl e99), ?_⟩
    refine ⟨y_gF rfl (by rw [hvs]; rfl) (fun hG => y_load rfl e1 (fun w hS => hagg w hS)), ?_⟩
    refine ⟨y_gF rfl (by rw [hvs]; rfl) (fun hG => y_call rfl (hfu _) ent106 (by simp only [List.map_toArray, List.map_cons, List.map_nil, (pos_of e101 hG)]) (callE hb102 (callB hB1 fun W _ => is_sec W i (.slice sa sn sc) _ _ rfl rfl))), ?_⟩
    refine ⟨y_gF rfl (by rw [hvs]; rfl) (fun hG => y_not rfl (pos_of e102 hG)), ?_⟩
    refine ⟨y_gF rfl (by rw [hvs]; rfl) (fun hG => y_move rfl (pos_of e103 hG)), ?_⟩
    refine ⟨y_gTT rfl (by rw [hvs]; rfl) (fun hG => y_addr rfl e1 (fun w => by go_simp)), ?_⟩
    refine ⟨y_gTT rfl (by rw [hvs]; rfl) (fun hG => y_load rfl (pos_of e105 hG) (fun w hS => ld_int _ w _ (hcellg_8 w hS))), ?_⟩
    refine ⟨y_gTT rfl (by rw [hvs]; rfl) (fun hG => y_bin rfl (pos_of e106 hG) (hco _) (cmE hb107 (cm_ne3 _ _ _ _))), ?_⟩
    refine ⟨y_gF rfl (by rw [hvs]; rfl) (fun hG => y_andE hb108 rfl (pos_of e104 hG) (sub_of e107 hG) (hco _)), ?_⟩
    refine ⟨y_un rfl (y_orE hb109 rfl e100 (hco _) e108), ?_⟩
    refine ⟨y_un rfl (y_build rfl (bd_rule ρ _ _ _ e109 (hco _))), ?_⟩
    refine ⟨y_un rfl (y_addr rfl e1 (fun w => by go_simp)), ?_⟩
    refine ⟨y_un rfl (y_load rfl e111 (fun w hS => ld_int _ w _ (hcellg_10 w hS))), ?_⟩
    refine ⟨y_un rfl (y_call rfl (hfu _) ent57 (by simp only [List.map_toArray, List.map_cons, List.map_nil, e112, hco]) (callE hb113 (callB hB1 fun W _ => ck_withinB W _ _ _))), ?_⟩
    refine ⟨y_un rfl (y_not rfl e113), ?_⟩
    refine ⟨y_un rfl (y_move rfl e114), ?_⟩
    refine ⟨y_gF rfl (by rw [hvs]; rfl) (fun hG => y_load rfl e1 (fun w hS => hagg w hS)), ?_⟩
    refine ⟨y_gF rfl (by rw [hvs]; rfl) (fun hG => y_call rfl (hfu _) ent105 (by simp only [List.map_toArray, List.map_cons, List.map_nil, (pos_of e116 hG)]) (callE hb117 (callB hB1 fun W _ => is_col W i (.slice sa sn sc) _ _ rfl rfl))), ?_⟩
    refine ⟨y_gF rfl (by rw [hvs]; rfl) (fun hG => y_move rfl (pos_of e117 hG)), ?_⟩
    refine ⟨y_gTT rfl (by rw [hvs]; rfl) (fun hG => y_addr rfl e1 (fun w => by go_simp)), ?_⟩
    refine ⟨y_gTT rfl (by rw [hvs]; rfl) (fun hG => y_load rfl (pos_of e119 hG) (fun w hS => ld_int _ w _ (hcellg_10 w hS))), ?_⟩
    refine ⟨y_gTT rfl (by rw [hvs]; rfl) (fun hG => y_bin rfl (pos_of e120 hG) (hco _) (cmE hb121 (cm_ne3 _ _ _ _))), ?_⟩
    refine ⟨y_gF rfl (by rw [hvs]; rfl) (fun hG => y_andE hb122 rfl (pos_of e118 hG) (sub_of e121 hG) (hco _)), ?_⟩
    refine ⟨y_un rfl (y_orE hb123 rfl e115 (hco _) e122), ?_⟩
    refine ⟨y_un rfl (y_build rfl (bd_rule ρ _ _ _ e123 (hco _))), ?_⟩
    refine ⟨y_un rfl (y_addr rfl e1 (fun w => by go_simp)), ?_⟩
    refine ⟨y_un rfl (y_load rfl e125 (fun w hS => ld_bool _ w _ (hcellg_11 w hS))), ?_⟩
    refine ⟨y_un rfl (y_move rfl e126), ?_⟩
    refine ⟨y_gT rfl (by rw [hvs]; rfl) (fun hG => y_load rfl e1 (fun w hS => hagg w hS)), ?_⟩
    refine ⟨y_gT rfl (by rw [hvs]; rfl) (fun hG => y_call rfl (hfu _) ent106 (by simp only [List.map_toArray, List.map_cons, List.map_nil, (pos_of e128 hG)]) (callE hb129 (callB hB1 fun W _ => is_sec W i (.slice sa sn sc) _ _ rfl rfl))), ?_⟩
    refine ⟨y_gT rfl (by rw [hvs]; rfl) (fun hG => y_not rfl (pos_of e129 hG)), ?_⟩
    refine ⟨y_un rfl (y_andE hb131 rfl e127 e130 (hco _)), ?_⟩
    refine ⟨y_un rfl (y_build rfl (bd_rule ρ _ _ _ e131 (hco _))), ?_⟩
    refine ⟨y_un rfl (y_addr rfl e1 (fun w => by go_simp)), ?_⟩
    refine ⟨y_un rfl (y_load rfl e133 (fun w hS => ld_bool _ w _ (hcellg_11 w hS))), ?_⟩
    refine ⟨y_un rfl (y_move rfl e134), ?_⟩
    refine ⟨y_gT rfl (by rw [hvs]; rfl) (fun hG => y_addr rfl e1 (fun w => by go_simp)), ?_⟩
    refine ⟨y_gT rfl (by rw [hvs]; rfl) (fun hG => y_load rfl (pos_of e136 hG) (fun w hS => ld_i64 _ w _ (hcellg_12 w hS))), ?_⟩
    refine ⟨y_gT rfl (by rw [hvs]; rfl) (fun hG => y_bin rfl (pos_of e137 hG) (hco _) (cmE hb138 (cm_lt2 _ _ _ _))), ?_⟩
    refine ⟨y_un rfl (y_andE hb139 rfl e135 e138 (hco _)), ?_⟩
    refine ⟨y_un rfl (y_move rfl e139), ?_⟩
    refine ⟨y_gF rfl (by rw [hvs]; rfl) (fun hG => y_addr rfl e1 (fun w => by go_simp)), ?_⟩
    refine ⟨y_gF rfl (by rw [hvs]; rfl) (fun hG => y_load rfl (pos_of e141 hG) (fun w hS => ld_i64 _ w _ (hcellg_12 w hS))), ?_⟩
    refine ⟨y_gF rfl (by rw [hvs]; rfl) (fun hG => y_load rfl e1 (fun w hS => hagg w hS)), ?_⟩
    refine ⟨y_gF rfl (by rw [hvs]; rfl) (fun hG => y_call rfl (hfu _) ent110 (by simp only [List.map_toArray, List.map_cons, List.map_nil, (pos_of e143 hG)]) (callB hB1 fun W _ => max_lot W i (.slice sa sn sc) _ rfl)), ?_⟩
    refine ⟨y_gF rfl (by rw [hvs]; rfl) (fun hG => y_call rfl (hfu _) ent109 (by simp only [List.map_toArray, List.map_cons, List.map_nil, (pos_of e142 hG), (pos_of e144 hG), hco]) (callE hb145 (callB hB1 fun W _ => ck_within64B W _ _ _))), ?_⟩
    refine ⟨y_gF rfl (by rw [hvs]; rfl) (fun hG => y_not rfl (pos_of e145 hG)), ?_⟩
    refine ⟨y_un rfl (y_orE hb147 rfl e140 (hco _) e146), ?_⟩
    refine ⟨y_un rfl (y_build rfl (bd_rule ρ _ _ _ e147 (hco _))), ?_⟩
    refine ⟨y_un rfl (y_addr rfl e1 (fun w => by go_simp)), ?_⟩
    refine ⟨y_un rfl (y_load rfl e149 (fun w hS => ld_bool _ w _ (hcellg_13 w hS))), ?_⟩
    refine ⟨y_un rfl (y_move rfl e150), ?_⟩
    refine ⟨y_gT rfl (by rw [hvs]; rfl) (fun hG => y_load rfl e1 (fun w hS => hagg w hS)), ?_⟩
    refine ⟨y_gT rfl (by rw [hvs]; rfl) (fun hG => y_call rfl (hfu _) ent105 (by simp only [List.map_toArray, List.map_cons, List.map_nil, (pos_of e152 hG)]) (callE hb153 (callB hB1 fun W _ => is_col W i (.slice sa sn sc) _ _ rfl rfl))), ?_⟩
    refine ⟨y_un rfl (y_andE hb154 rfl e151 e153 (hco _)), ?_⟩
    refine ⟨y_un rfl (y_build rfl (bd_rule ρ _ _ _ e154 (hco _))), ?_⟩
    refine ⟨y_un rfl (y_addr rfl e1 (fun w => by go_simp)), ?_⟩
    refine ⟨y_un rfl (y_load rfl e156 (fun w hS => ld_bool _ w _ (hcellg_14 w hS))), ?_⟩
    refine ⟨y_un rfl (y_move rfl e157), ?_⟩
    refine ⟨y_gT rfl (by rw [hvs]; rfl) (fun hG => y_addr rfl e1 (fun w => by go_simp)), ?_⟩
    refine ⟨y_gT rfl (by rw [hvs]; rfl) (fun hG => y_load rfl (pos_of e159 hG) (fun w hS => ld_int _ w _ (hcellg_1 w hS))), ?_⟩
    refine ⟨y_gT rfl (by rw [hvs]; rfl) (fun hG => y_bin rfl (pos_of e160 hG) (hco _) (cmE hb161 (cm_ne3 _ _ _ _))), ?_⟩
    refine ⟨y_gT rfl (by rw [hvs]; rfl) (fun hG => y_move rfl (pos_of e161 hG)), ?_⟩
    refine ⟨y_gTF rfl (by rw [hvs]; rfl) (fun hG => y_addr rfl e1 (fun w => by go_simp)), ?_⟩
    refine ⟨y_gTF rfl (by rw [hvs]; rfl) (fun hG => y_load rfl (pos_of e163 hG) (fun w hS => ld_int _ w _ (hcellg_10 w hS))), ?_⟩
    refine ⟨y_gTF rfl (by rw [hvs]; rfl) (fun hG => y_bin rfl (pos_of e164 hG) (hco _) (cmE hb165 (cm_ne3 _ _ _ _))), ?_⟩
    refine ⟨y_gT rfl (by rw [hvs]; rfl) (fun hG => y_orE hb166 rfl (pos_of e162 hG) (hco _) (sub_of e165 hG)), ?_⟩
    refine ⟨y_un rfl (y_andE hb167 rfl e158 e166 (hco _)), ?_⟩
    refine ⟨y_un rfl (y_build rfl (bd_rule ρ _ _ _ e167 (hco _))), ?_⟩
    refine ⟨y_un rfl (y_load rfl e1 (fun w hS => hagg w hS)), ?_⟩
    refine ⟨y_un rfl (y_call rfl (hfu _) ent105 (by simp only [List.map_toArray, List.map_cons, List.map_nil, e169]) (callE hb170 (callB hB1 fun W _ => is_col W i (.slice sa sn sc) _ _ rfl rfl))), ?_⟩
    refine ⟨y_un rfl (y_move rfl e170), ?_⟩
    refine ⟨y_gT rfl (by rw [hvs]; rfl) (fun hG => y_addr rfl e1 (fun w => by go_simp)), ?_⟩
    refine ⟨y_gT rfl (by rw [hvs]; rfl) (fun hG => y_load rfl (pos_of e172 hG) (fun w hS => ld_sl _ w _ _ _ (hcellg_15 w hS))), ?_⟩
    refine ⟨y_gT rfl (by rw [hvs]; rfl) (fun hG => y_len rfl rfl (pos_of e173 hG)), ?_⟩
    refine ⟨y_gT rfl (by rw [hvs]; rfl) (fun hG => y_bin rfl (pos_of e174 hG) (hco _) (cmE hb175 (cm_gt3 _ _ _ _))), ?_⟩
    refine ⟨y_un rfl (y_andE hb176 rfl e171 e175 (hco _)), ?_⟩
    refine ⟨y_un rfl (y_build rfl (bd_rule ρ _ _ _ e176 (hco _))), ?_⟩
    refine ⟨y_un rfl (y_addr rfl e1 (fun w => by go_simp)), ?_⟩
    refine ⟨y_un rfl (y_load rfl e178 (fun w hS => ld_sl _ w _ _ _ (hcellg_15 w hS))), ?_⟩
    refine ⟨y_un rfl (y_len rfl rfl e179), ?_⟩
    refine ⟨y_un rfl (y_bin rfl e180 (hco _) (cmE hb181 (cm_gt3 _ _ _ _))), ?_⟩
    refine ⟨y_un rfl (y_build rfl (bd_rule ρ _ _ _ e181 (hco _))), ?_⟩
    exact trivial
  · intro ρ hD W
    obtain ⟨e7, e8, e9, e10, e11, e12, e13, e14, e15, e16, e17, e18, e19, e20, e21, e22, e23, e24, e25, e26, e27, e28, e29, e30, e31, e32, e33, e34, e35, e36, e37, e38, e39, e40, e41, e42, e43, e44, e45, e46, e47, e48, e49, e50, e51, e52, e53, e54, e55, e56, e57, e58, e59, e60, e61, e62, e63, e64, e65, e66, e67, e68, e69, e70, e71, e72, e73, e74, e75, e76, e77, e78, e79, e80, e81, e82, e83, e84, e85, e86, e87, e88, e89, e90, e91, e92, e93, e94, e95, e96, e97, e98, e99, e100, e101, e102, e103, e104, e105, e106, e107, e108, e109, e110, e111, e112, e113, e114, e115, e116, e117, e118, e119, e120, e121, e122, e123, e124, e125, e126, e127, e128, e129, e130, e131, e132, e133, e134, e135, e136, e137, e138, e139, e140, e141, e142, e143, e144, e145, e146, e147, e148, e149, e150, e151, e152, e153, e154, e155, e156, e157, e158, e159, e160, e161, e162, e163, e164, e165, e166, e167, e168, e169, e170, e171, e172, e173, e174, e175, e176, e177, e178, e179, e180, e181, e182, -⟩ : ρ (.tmp 7) = (.pointer (some ⟨g, 1, none⟩)) ∧ ρ (.tmp 8) = (.int .i64 i.kind) ∧ ρ (.tmp 9) = (.bool b9) ∧ ρ (.tmp 10) = (.bool (!b9)) ∧ ρ (.tmp 11) = (.agg #[.bool (!b9), .int .i64 11]) ∧ ρ (.tmp 12) = (.pointer (some ⟨g, 0, none⟩)) ∧ ρ (.tmp 13) = (.string i.ref) ∧ ρ (.tmp 14) = (.bool b14) ∧ ρ (.tmp 15) = (.bool (!b14)) ∧ ρ (.tmp 16) = (.agg #[.bool (!b14), .int .i64 6]) ∧ ρ (.tmp 17) = (.pointer (some ⟨g, 2, none⟩)) ∧ ρ (.tmp 18) = (.string i.sender) ∧ ρ (.tmp 19) = (.bool b19) ∧ ρ (.tmp 20) = (.bool (!b19)) ∧ ρ (.tmp 21) = (.agg #[.bool (!b19), .int .i64 6]) ∧ ρ (.tmp 22) = (.agg (insCells i (.slice sa sn sc)).toArray) ∧ ρ (.tmp 23) = (.bool b23) ∧ ρ (.tmp 24) = (.bool b23) ∧ ρ (.tmp 25) = (if b23 = true then .pointer (some ⟨g, 3, none⟩) else undef) ∧ ρ (.tmp 26) = (if b23 = true then .string i.counterparty else undef) ∧ ρ (.tmp 27) = (if b23 = true then .bool b27 else undef) ∧ ρ (.tmp 28) = (.bool b28) ∧ ρ (.tmp 29) = (.agg #[.bool b28, .int .i64 3]) ∧ ρ (.tmp 30) = (.agg (insCells i (.slice sa sn sc)).toArray) ∧ ρ (.tmp 31) = (.bool b31) ∧ ρ (.tmp 32) = (.bool (!b31)) ∧ ρ (.tmp 33) = (.bool (!b31)) ∧ ρ (.tmp 34) = (if (!b31) = true then .pointer (some ⟨g, 3, none⟩) else undef) ∧ ρ (.tmp 35) = (if (!b31) = true then .string i.counterparty else undef) ∧ ρ (.tmp 36) = (if (!b31) = true then .bool b36 else undef) ∧ ρ (.tmp 37) = (if (!b31) = true then .bool (!b36) else undef) ∧ ρ (.tmp 38) = (.bool b38) ∧ ρ (.tmp 39) = (.agg #[.bool b38, .int .i64 6]) ∧ ρ (.tmp 40) = (.pointer (some ⟨g, 3, none⟩)) ∧ ρ (.tmp 41) = (.string i.counterparty) ∧ ρ (.tmp 42) = (.pointer (some ⟨g, 2, none⟩)) ∧ ρ (.tmp 43) = (.string i.sender) ∧ ρ (.tmp 44) = (.bool b44) ∧ ρ (.tmp 45) = (.agg #[.bool b44, .int .i64 1]) ∧ ρ (.tmp 46) = (.pointer (some ⟨g, 4, none⟩)) ∧ ρ (.tmp 47) = (.int .i64 i.side) ∧ ρ (.tmp 48) = (.bool b48) ∧ ρ (.tmp 49) = (.bool (!b48)) ∧ ρ (.tmp 50) = (.agg #[.bool (!b48), .int .i64 11]) ∧ ρ (.tmp 51) = (.agg (insCells i (.slice sa sn sc)).toArray) ∧ ρ (.tmp 52) = (.bool b52) ∧ ρ (.tmp 53) = (.bool (!b52)) ∧ ρ (.tmp 54) = (.bool (!b52)) ∧ ρ (.tmp 55) = (if (!b52) = true then .pointer (some ⟨g, 4, none⟩) else undef) ∧ ρ (.tmp 56) = (if (!b52) = true then .int .i64 i.side else undef) ∧ ρ (.tmp 57) = (if (!b52) = true then .bool b57 else undef) ∧ ρ (.tmp 58) = (.bool b58) ∧ ρ (.tmp 59) = (.agg #[.bool b58, .int .i64 3]) ∧ ρ (.tmp 60) = (.agg (insCells i (.slice sa sn sc)).toArray) ∧ ρ (.tmp 61) = (.bool b61) ∧ ρ (.tmp 62) = (.bool (!b61)) ∧ ρ (.tmp 63) = (.agg #[.bool (!b61), .int .i64 6]) ∧ ρ (.tmp 64) = (.pointer (some ⟨g, 6, none⟩)) ∧ ρ (.tmp 65) = (.int .i64 i.quantity) ∧ ρ (.tmp 66) = (.pointer (some ⟨g, 1, none⟩)) ∧ ρ (.tmp 67) = (.int .i64 i.kind) ∧ ρ (.tmp 68) = (.bool b68) ∧ ρ (.tmp 69) = (.bool b69) ∧ ρ (.tmp 70) = (.bool (!b69)) ∧ ρ (.tmp 71) = (.agg #[.bool (!b69), .int .i64 2]) ∧ ρ (.tmp 72) = (.pointer (some ⟨g, 7, none⟩)) ∧ ρ (.tmp 73) = (.int .i64 i.amount) ∧ ρ (.tmp 74) = (.pointer (some ⟨g, 1, none⟩)) ∧ ρ (.tmp 75) = (.int .i64 i.kind) ∧ ρ (.tmp 76) = (.bool b76) ∧ ρ (.tmp 77) = (.bool b76) ∧ ρ (.tmp 78) = (if (!b76) = true then .pointer (some ⟨g, 1, none⟩) else undef) ∧ ρ (.tmp 79) = (if (!b76) = true then .int .i64 i.kind else undef) ∧ ρ (.tmp 80) = (if (!b76) = true then .bool b80 else undef) ∧ ρ (.tmp 81) = (.bool b81) ∧ ρ (.tmp 82) = (.bool b82) ∧ ρ (.tmp 83) = (.bool (!b82)) ∧ ρ (.tmp 84) = (.agg #[.bool (!b82), .int .i64 2]) ∧ ρ (.tmp 85) = (.pointer (some ⟨g, 9, none⟩)) ∧ ρ (.tmp 86) = (.int .i64 i.settleDay) ∧ ρ (.tmp 87) = (.bool b87) ∧ ρ (.tmp 88) = (.bool (!b87)) ∧ ρ (.tmp 89) = (.agg #[.bool (!b87), .int .i64 28]) ∧ ρ (.tmp 90) = (.agg (insCells i (.slice sa sn sc)).toArray) ∧ ρ (.tmp 91) = (.bool b91) ∧ ρ (.tmp 92) = (.bool b91) ∧ ρ (.tmp 93) = (if b91 = true then .pointer (some ⟨g, 8, none⟩) else undef) ∧ ρ (.tmp 94) = (if b91 = true then .int .i64 i.tradeDay else undef) ∧ ρ (.tmp 95) = (if b91 = true then .pointer (some ⟨g, 9, none⟩) else undef) ∧ ρ (.tmp 96) = (if b91 = true then .int .i64 i.settleDay else undef) ∧ ρ (.tmp 97) = (if b91 = true then .bool b97 else undef) ∧ ρ (.tmp 98) = (if b91 = true then .bool (!b97) else undef) ∧ ρ (.tmp 99) = (.bool b99) ∧ ρ (.tmp 100) = (.bool b99) ∧ ρ (.tmp 101) = (if (!b99) = true then .agg (insCells i (.slice sa sn sc)).toArray else undef) ∧ ρ (.tmp 102) = (if (!b99) = true then .bool b102 else undef) ∧ ρ (.tmp 103) = (if (!b99) = true then .bool (!b102) else undef) ∧ ρ (.tmp 104) = (if (!b99) = true then .bool (!b102) else undef) ∧ ρ (.tmp 105) = (if ((!b99) && (!b102)) = true then .pointer (some ⟨g, 8, none⟩) else undef) ∧ ρ (.tmp 106) = (if ((!b99) && (!b102)) = true then .int .i64 i.tradeDay else undef) ∧ ρ (.tmp 107) = (if ((!b99) && (!b102)) = true then .bool b107 else undef) ∧ ρ (.tmp 108) = (if (!b99) = true then .bool b108 else undef) ∧ ρ (.tmp 109) = (.bool b109) ∧ ρ (.tmp 110) = (.agg #[.bool b109, .int .i64 28]) ∧ ρ (.tmp 111) = (.pointer (some ⟨g, 10, none⟩)) ∧ ρ (.tmp 112) = (.int .i64 i.priority) ∧ ρ (.tmp 113) = (.bool b113) ∧ ρ (.tmp 114) = (.bool (!b113)) ∧ ρ (.tmp 115) = (.bool (!b113)) ∧ ρ (.tmp 116) = (if (!(!b113)) = true then .agg (insCells i (.slice sa sn sc)).toArray else undef) ∧ ρ (.tmp 117) = (if (!(!b113)) = true then .bool b117 else undef) ∧ ρ (.tmp 118) = (if (!(!b113)) = true then .bool b117 else undef) ∧ ρ (.tmp 119) = (if ((!(!b113)) && b117) = true then .pointer (some ⟨g, 10, none⟩) else undef) ∧ ρ (.tmp 120) = (if ((!(!b113)) && b117) = true then .int .i64 i.priority else undef) ∧ ρ (.tmp 121) = (if ((!(!b113)) && b117) = true then .bool b121 else undef) ∧ ρ (.tmp 122) = (if (!(!b113)) = true then .bool b122 else undef) ∧ ρ (.tmp 123) = (.bool b123) ∧ ρ (.tmp 124) = (.agg #[.bool b123, .int .i64 2]) ∧ ρ (.tmp 125) = (.pointer (some ⟨g, 11, none⟩)) ∧ ρ (.tmp 126) = (.bool i.partial_) ∧ ρ (.tmp 127) = (.bool i.partial_) ∧ ρ (.tmp 128) = (if i.partial_ = true then .agg (insCells i (.slice sa sn sc)).toArray else undef) ∧ ρ (.tmp 129) = (if i.partial_ = true then .bool b129 else undef) ∧ ρ (.tmp 130) = (if i.partial_ = true then .bool (!b129) else undef) ∧ ρ (.tmp 131) = (.bool b131) ∧ ρ (.tmp 132) = (.agg #[.bool b131, .int .i64 3]) ∧ ρ (.tmp 133) = (.pointer (some ⟨g, 11, none⟩)) ∧ ρ (.tmp 134) = (.bool i.partial_) ∧ ρ (.tmp 135) = (.bool i.partial_) ∧ ρ (.tmp 136) = (if i.partial_ = true then .pointer (some ⟨g, 12, none⟩) else undef) ∧ ρ (.tmp 137) = (if i.partial_ = true then .int .i64 i.minLot else undef) ∧ ρ (.tmp 138) = (if i.partial_ = true then .bool b138 else undef) ∧ ρ (.tmp 139) = (.bool b139) ∧ ρ (.tmp 140) = (.bool b139) ∧ ρ (.tmp 141) = (if (!b139) = true then .pointer (some ⟨g, 12, none⟩) else undef) ∧ ρ (.tmp 142) = (if (!b139) = true then .int .i64 i.minLot else undef) ∧ ρ (.tmp 143) = (if (!b139) = true then .agg (insCells i (.slice sa sn sc)).toArray else undef) ∧ ρ (.tmp 144) = (if (!b139) = true then .int .i64 (if i.partial_ = true then i.quantity else 0) else undef) ∧ ρ (.tmp 145) = (if (!b139) = true then .bool b145 else undef) ∧ ρ (.tmp 146) = (if (!b139) = true then .bool (!b145) else undef) ∧ ρ (.tmp 147) = (.bool b147) ∧ ρ (.tmp 148) = (.agg #[.bool b147, .int .i64 2]) ∧ ρ (.tmp 149) = (.pointer (some ⟨g, 13, none⟩)) ∧ ρ (.tmp 150) = (.bool i.hold) ∧ ρ (.tmp 151) = (.bool i.hold) ∧ ρ (.tmp 152) = (if i.hold = true then .agg (insCells i (.slice sa sn sc)).toArray else undef) ∧ ρ (.tmp 153) = (if i.hold = true then .bool b153 else undef) ∧ ρ (.tmp 154) = (.bool b154) ∧ ρ (.tmp 155) = (.agg #[.bool b154, .int .i64 3]) ∧ ρ (.tmp 156) = (.pointer (some ⟨g, 14, none⟩)) ∧ ρ (.tmp 157) = (.bool i.reserve) ∧ ρ (.tmp 158) = (.bool i.reserve) ∧ ρ (.tmp 159) = (if i.reserve = true then .pointer (some ⟨g, 1, none⟩) else undef) ∧ ρ (.tmp 160) = (if i.reserve = true then .int .i64 i.kind else undef) ∧ ρ (.tmp 161) = (if i.reserve = true then .bool b161 else undef) ∧ ρ (.tmp 162) = (if i.reserve = true then .bool b161 else undef) ∧ ρ (.tmp 163) = (if (i.reserve && (!b161)) = true then .pointer (some ⟨g, 10, none⟩) else undef) ∧ ρ (.tmp 164) = (if (i.reserve && (!b161)) = true then .int .i64 i.priority else undef) ∧ ρ (.tmp 165) = (if (i.reserve && (!b161)) = true then .bool b165 else undef) ∧ ρ (.tmp 166) = (if i.reserve = true then .bool b166 else undef) ∧ ρ (.tmp 167) = (.bool b167) ∧ ρ (.tmp 168) = (.agg #[.bool b167, .int .i64 3]) ∧ ρ (.tmp 169) = (.agg (insCells i (.slice sa sn sc)).toArray) ∧ ρ (.tmp 170) = (.bool b170) ∧ ρ (.tmp 171) = (.bool b170) ∧ ρ (.tmp 172) = (if b170 = true then .pointer (some ⟨g, 15, none⟩) else undef) ∧ ρ (.tmp 173) = (if b170 = true then .slice sa sn sc else undef) ∧ ρ (.tmp 174) = (if b170 = true then .int .i64 (sn : Int) else undef) ∧ ρ (.tmp 175) = (if b170 = true then .bool b175 else undef) ∧ ρ (.tmp 176) = (.bool b176) ∧ ρ (.tmp 177) = (.agg #[.bool b176, .int .i64 3]) ∧ ρ (.tmp 178) = (.pointer (some ⟨g, 15, none⟩)) ∧ ρ (.tmp 179) = (.slice sa sn sc) ∧ ρ (.tmp 180) = (.int .i64 (sn : Int)) ∧ ρ (.tmp 181) = (.bool b181) ∧ ρ (.tmp 182) = (.agg #[.bool b181, .int .i64 8]) ∧ True := alld_lit hvs hD
    simp only [List.map_toArray, List.map_cons, List.map_nil, e11, e16, e21, e29, e39, e45, e50, e59, e63, e71, e84, e89, e110, e124, e132, e148, e155, e168, e177, e182]
    go_simp
    rfl
  · intro b W hB hdf hsz h3 hrest
    have q1 : b.tmps[1]? = some (.pointer (some ⟨g, 0, none⟩)) := (hrest 1 (by decide +kernel)).trans rfl
    have q2 : b.tmps[2]? = some (.int .i64 0) := (hrest 2 (by decide +kernel)).trans rfl
    clear hrest
    rw [← hres, ← hx1] at h3
    have HB : Hid (Below w.heap.size w W) := Lib.hid (hB1.trans (hB.mono hB1.size))
    have HR : Hid (InsRow W g i (.slice sa sn sc)) := Lib.hid (hrow W hB)
    have HV2 := Lib.hid hV2
    clear hrow hB hB1 hagg hres hvs hV0 hV1 hV2 hcellg_0 hcellg_1 hcellg_2 hcellg_3 hcellg_4 hcellg_5 hcellg_6 hcellg_7 hcellg_8 hcellg_9 hcellg_10 hcellg_11 hcellg_12 hcellg_13 hcellg_14 hcellg_15 hb9 hb14 hb19 hb23 hb27 hb28 hb31 hb36 hb38 hb44 hb48 hb52 hb57 hb58 hb61 hb68 hb69 hb76 hb80 hb81 hb82 hb87 hb91 hb97 hb99 hb102 hb107 hb108 hb109 hb113 hb117 hb121 hb122 hb123 hb129 hb131 hb138 hb139 hb145 hb147 hb153 hb154 hb161 hb165 hb166 hb167 hb170 hb175 hb176 hb181
    have hdf2 : b.defers = [] := hdf
    clear hdf
    revert q1 q2 h3
    refine act_allF 225 (fun b => b.tmps[3]? = some (.int .i64 x1) → b.tmps[1]? = some (.pointer (some ⟨g, 0, none⟩)) → b.tmps[2]? = some (.int .i64 0) → Exit.then K1 Q1 .normal b W) ?_ b hdf2 hsz
    clear hdf2 hsz b vs
    intro u0 u1 u2 u3 u4 u5 u6 u7 u8 u9 u10 u11 u12 u13 u14 u15 u16 u17 u18 u19 u20 u21 u22 u23 u24 u25 u26 u27 u28 u29 u30 u31 u32 u33 u34 u35 u36 u37 u38 u39 u40 u41 u42 u43 u44 u45 u46 u47 u48 u49 u50 u51 u52 u53 u54 u55 u56 u57 u58 u59 u60 u61 u62 u63 u64 u65 u66 u67 u68 u69 u70 u71 u72 u73 u74 u75 u76 u77 u78 u79 u80 u81 u82 u83 u84 u85 u86 u87 u88 u89 u90 u91 u92 u93 u94 u95 u96 u97 u98 u99 u100 u101 u102 u103 u104 u105 u106 u107 u108 u109 u110 u111 u112 u113 u114 u115 u116 u117 u118 u119 u120 u121 u122 u123 u124 u125 u126 u127 u128 u129 u130 u131 u132 u133 u134 u135 u136 u137 u138 u139 u140 u141 u142 u143 u144 u145 u146 u147 u148 u149 u150 u151 u152 u153 u154 u155 u156 u157 u158 u159 u160 u161 u162 u163 u164 u165 u166 u167 u168 u169 u170 u171 u172 u173 u174 u175 u176 u177 u178 u179 u180 u181 u182 u183 u184 u185 u186 u187 u188 u189 u190 u191 u192 u193 u194 u195 u196 u197 u198 u199 u200 u201 u202 u203 u204 u205 u206 u207 u208 u209 u210 u211 u212 u213 u214 u215 u216 u217 u218 u219 u220 u221 u222 u223 u224 h3 q1 q2
    obtain rfl : u1 = _ := Option.some.inj q1
    obtain rfl : u2 = _ := Option.some.inj q2
    obtain rfl : u3 = _ := Option.some.inj h3
    clear q1 q2 h3
    refine hK _ _ ?_
    by_cases t1 : x1 = 0
    · rw [t1] at hx
      rw [if_neg (by simp)] at hx
      have h8 := hn8 t1
      subst t1
      clear hK hx1 hn8
      subst hx
      have k15 := HR.out.at 15 _ rfl
      go_wp2_with fail
      go_loopw [191] (fun iv wr => ∃ k : Nat, iv = .int .i64 k ∧ k ≤ sn ∧ Hid (Below W.heap.size W wr) ∧ Hid (Ps.linksE V i (i.links.take k) (i.links.drop k) = x)) (fun iv _ => 2000 - (RowKit.intOf iv).toNat)
      case atStart => exact ⟨0, rfl, Nat.zero_le _, Lib.hid (Below.refl _ _), hLE⟩
      case round =>
        obtain ⟨k, rfl, hk, HBk, HL⟩ := hrel
        clear k15
        by_cases hlt : k < sn
        · have hsn := HSN.out
          have hsnc := HSC.out
          obtain ⟨sb, rfl, hLK⟩ := HLK.out (by omega)
          obtain ⟨x0, hx0⟩ : ∃ x0, i.links[k]? = some x0 := ⟨_, List.getElem?_eq_getElem (by omega)⟩
          have hltI : (k : Int) < (sn : Int) := by omega
          have HBW := Lib.hid (HB.out.trans (HBk.out.mono HB.out.size))
          obtain ⟨y0, y1⟩ := hLK wr HBW.out k x0 hx0
          have HX : Hid (i.links[k]'(by omega) = x0) := Lib.hid (Option.some.inj ((List.getElem?_eq_getElem (by omega)).symm.trans hx0))
          clear hLE HLK hx0
          have hdrop : i.links.drop k = x0 :: i.links.drop (k + 1) := (List.drop_eq_getElem_cons (by omega)).trans (by rw [HX.out])
          have htake : i.links.take (k + 1) = i.links.take k ++ [x0] := by rw [List.take_succ_eq_append_getElem (by omega), HX.out]
          have HL2 := HL.out
          rw [hdrop, links_plain] at HL2
          have HLN := Lib.hid HL2
          have HTK := Lib.hid htake
          have hksn : k ≤ sn := hk
          have hsn1 : sn ≤ 1000 := by omega
          have hk1 : k ≤ 1000 := by omega
          have hkc : k ≤ sc := by omega
          have hkl : k ≤ i.links.length := by omega
          clear HL2 hdrop htake HL
          go_upto_region 7 with fail
          rename_i K7 hK7
          obtain ⟨h, hh⟩ : ∃ h, h = wr.heap.size := ⟨_, rfl⟩
          obtain ⟨W7, hW7⟩ : ∃ W7, W7 = wr.alloc (Obj.cells #[.int .i64 x0.type, .string x0.ref] 117) := ⟨_, rfl⟩
          rw [← hh, ← hW7]
          have hB7 : Below w.heap.size w W7 := by rw [hW7]; exact HBW.out.alloc HBW.out.size _
          have hBk7 : Below W.heap.size W W7 := by rw [hW7]; exact HBk.out.alloc HBk.out.size _
          have hrow7 : ∀ w8, Below W7.heap.size W7 w8 → w8.heap[h]? = some (.cells #[.int .i64 x0.type, .string x0.ref] 117 (0, 0)) := fun w8 h8 => by
            rw [h8.block h (by rw [hW7, hh]; simp), hW7, hh]; exact ps_alloc_new wr _
          have hcellh_0 : ∀ w8, Below W7.heap.size W7 w8 → w8.cell? ⟨h, 0, none⟩ = some (.int .i64 x0.type) := fun w8 h8 => by rw [cell_of_row _ _ _ _ _ _ (hrow7 w8 h8)]; rfl
          have hcellh_1 : ∀ w8, Below W7.heap.size W7 w8 → w8.cell? ⟨h, 1, none⟩ = some (.string x0.ref) := fun w8 h8 => by rw [cell_of_row _ _ _ _ _ _ (hrow7 w8 h8)]; rfl
          have hir : ∀ w8, Below W7.heap.size W7 w8 → InsRow w8 g i (.slice (some ⟨sb, 0, none⟩) sn sc) := fun w8 h8 => HR.out.below (hBk7.trans (h8.mono hBk7.size))
          have hcellg_0 : ∀ w8, Below W7.heap.size W7 w8 → w8.cell? ⟨g, 0, none⟩ = some (.string i.ref) := fun w8 h8 => (hir w8 h8).at 0 _ rfl
          have hcellg_15 : ∀ w8, Below W7.heap.size W7 w8 → w8.cell? ⟨g, 15, none⟩ = some (.slice (some ⟨sb, 0, none⟩) sn sc) := fun w8 h8 => (hir w8 h8).at 15 _ rfl
          have hV2 := HV2.out
          clear hrow7 hir hW7 hh y0 y1 HV2
          obtain ⟨b198, hb198⟩ : ∃ b : Bool, (inB x0.type 0 1) = b := ⟨_, rfl⟩
          obtain ⟨b203, hb203⟩ : ∃ b : Bool, (V 2 x0.ref) = b := ⟨_, rfl⟩
          obtain ⟨b210, hb210⟩ : ∃ b : Bool, (x0.ref.toList == i.ref.toList) = b := ⟨_, rfl⟩
          obtain ⟨b217, hb217⟩ : ∃ b : Bool, (hasRef (i.links.take k) x0.ref) = b := ⟨_, rfl⟩
          have hres7 : lkRules V i (i.links.take k) x0 = [((!b198), 11), ((!b203), 6), (b210, 26), (b217, 7)] := by
            rw [← hb217, ← hb210, ← hb203, ← hb198]
            rfl
          obtain ⟨vs, hvs⟩ : ∃ vs : List Value, vs = [(.pointer (some ⟨h, 0, none⟩)), (.int .i64 x0.type), (.bool b198), (.bool (!b198)), (.agg #[.bool (!b198), .int .i64 11]), (.pointer (some ⟨h, 1, none⟩)), (.string x0.ref), (.bool b203), (.bool (!b203)), (.agg #[.bool (!b203), .int .i64 6]), (.pointer (some ⟨h, 1, none⟩)), (.string x0.ref), (.pointer (some ⟨g, 0, none⟩)), (.string i.ref), (.bool b210), (.agg #[.bool b210, .int .i64 26]), (.pointer (some ⟨g, 15, none⟩)), (.slice (some ⟨sb, 0, none⟩) sn sc), (.int .i64 (k : Int)), (.slice (some ⟨sb, 0, none⟩) k sc), (.func (.func 109) #[] #[.pointer (some ⟨h, 0, none⟩)]), (.bool b217), (.agg #[.bool b217, .int .i64 7])] := ⟨_, rfl⟩
          refine wp_rules (W0 := W7) 23 vs (by rw [hvs]; rfl) (by kernel_rfl) (by kernel_rfl) (by kernel_rfl) (by kernel_rfl) (Below.refl _ _) ?_ [((!b198), 11), ((!b203), 6), (b210, 26), (b217, 7)] (by simp) (by kernel_rfl) rfl rfl rfl rfl rfl rfl rfl rfl rfl rfl rfl rfl ⟨by show _ < 225; omega, by show _ < 225; omega, by show _ < 225; omega⟩ 110 ?_ ?_
          · intro ρ hD hrest hco hfu
            have e1 : ρ (.tmp 1) = .pointer (some ⟨g, 0, none⟩) := (hrest 1 (by decide +kernel)).trans rfl
            have e5 : ρ (.tmp 5) = .pointer (some ⟨h, 0, none⟩) := (hrest 5 (by decide +kernel)).trans rfl
            have e4 : ρ (.tmp 4) = .int .i64 (k : Int) := (hrest 4 (by decide +kernel)).trans rfl
            obtain ⟨e196, e197, e198, e199, e200, e201, e202, e203, e204, e205, e206, e207, e208, e209, e210, e211, e212, e213, e214, e215, e216, e217, e218, -⟩ : ρ (.tmp 196) = (.pointer (some ⟨h, 0, none⟩)) ∧ ρ (.tmp 197) = (.int .i64 x0.type) ∧ ρ (.tmp 198) = (.bool b198) ∧ ρ (.tmp 199) = (.bool (!b198)) ∧ ρ (.tmp 200) = (.agg #[.bool (!b198), .int .i64 11]) ∧ ρ (.tmp 201) = (.pointer (some ⟨h, 1, none⟩)) ∧ ρ (.tmp 202) = (.string x0.ref) ∧ ρ (.tmp 203) = (.bool b203) ∧ ρ (.tmp 204) = (.bool (!b203)) ∧ ρ (.tmp 205) = (.agg #[.bool (!b203), .int .i64 6]) ∧ ρ (.tmp 206) = (.pointer (some ⟨h, 1, none⟩)) ∧ ρ (.tmp 207) = (.string x0.ref) ∧ ρ (.tmp 208) = (.pointer (some ⟨g, 0, none⟩)) ∧ ρ (.tmp 209) = (.string i.ref) ∧ ρ (.tmp 210) = (.bool b210) ∧ ρ (.tmp 211) = (.agg #[.bool b210, .int .i64 26]) ∧ ρ (.tmp 212) = (.pointer (some ⟨g, 15, none⟩)) ∧ ρ (.tmp 213) = (.slice (some ⟨sb, 0, none⟩) sn sc) ∧ ρ (.tmp 214) = (.int .i64 (k : Int)) ∧ ρ (.tmp 215) = (.slice (some ⟨sb, 0, none⟩) k sc) ∧ ρ (.tmp 216) = (.func (.func 109) #[] #[.pointer (some ⟨h, 0, none⟩)]) ∧ ρ (.tmp 217) = (.bool b217) ∧ ρ (.tmp 218) = (.agg #[.bool b217, .int .i64 7]) ∧ True := alld_lit hvs hD
            refine ally_lit hvs ?_
            refine ⟨y_un rfl (y_addr rfl e5 (fun w => by go_simp)), ?_⟩
            refine ⟨y_un rfl (y_load rfl e196 (fun w hS => ld_int _ w _ (hcellh_0 w hS))), ?_⟩
            refine ⟨y_un rfl (y_call rfl (hfu _) ent57 (by simp only [List.map_toArray, List.map_cons, List.map_nil, e197, hco]) (callE hb198 (callB hB7 fun W _ => ck_withinB W _ _ _))), ?_⟩
            refine ⟨y_un rfl (y_not rfl e198), ?_⟩
            refine ⟨y_un rfl (y_build rfl (bd_rule ρ _ _ _ e199 (hco _))), ?_⟩
            refine ⟨y_un rfl (y_addr rfl e5 (fun w => by go_simp)), ?_⟩
            refine ⟨y_un rfl (y_load rfl e201 (fun w hS => ld_str _ w _ (hcellh_1 w hS))), ?_⟩
            refine ⟨y_un rfl (y_call rfl (hfu _) ent58 (by simp only [List.map_toArray, List.map_cons, List.map_nil, e202, hco]) (callE hb203 (callB hB7 (hV2 _)))), ?_⟩
            refine ⟨y_un rfl (y_not rfl e203), ?_⟩
            refine ⟨y_un rfl (y_build rfl (bd_rule ρ _ _ _ e204 (hco _))), ?_⟩
            refine ⟨y_un rfl (y_addr rfl e5 (fun w => by go_simp)), ?_⟩
            refine ⟨y_un rfl (y_load rfl e206 (fun w hS => ld_str _ w _ (hcellh_1 w hS))), ?_⟩
            refine ⟨y_un rfl (y_addr rfl e1 (fun w => by go_simp)), ?_⟩
            refine ⟨y_un rfl (y_load rfl e208 (fun w hS => ld_str _ w _ (hcellg_0 w hS))), ?_⟩
            refine ⟨y_un rfl (y_bin rfl e207 e209 (cmE hb210 (cm_eqS _ _ _ _))), ?_⟩
            refine ⟨y_un rfl (y_build rfl (bd_rule ρ _ _ _ e210 (hco _))), ?_⟩
            refine ⟨y_un rfl (y_addr rfl e1 (fun w => by go_simp)), ?_⟩
            refine ⟨y_un rfl (y_load rfl e212 (fun w hS => ld_sl _ w _ _ _ (hcellg_15 w hS))), ?_⟩
            refine ⟨y_un rfl (y_move rfl e4), ?_⟩
            refine ⟨y_un rfl (y_slice rfl e213 e214 (fun w => sl_to _ sn sc k hksn hsnc hsn1 w)), ?_⟩
            refine ⟨y_un rfl (y_makeFunc rfl e5), ?_⟩
            refine ⟨y_un rfl (y_call rfl (hfu _) ent111 (by simp only [List.map_toArray, List.map_cons, List.map_nil, e215, e216]) (callE hb217 (fun w7 h7 => (lk_contains w7 sb h sc i.links x0.ref k ((hLK W7 hB7).below h7) hkl hkc hk1 (hcellh_1 w7 h7)).mono fun e w8 ⟨c1, c2⟩ => ⟨c1, h7.trans (c2.mono h7.size)⟩))), ?_⟩
            refine ⟨y_un rfl (y_build rfl (bd_rule ρ _ _ _ e217 (hco _))), ?_⟩
            exact trivial
          · intro ρ hD W
            obtain ⟨e196, e197, e198, e199, e200, e201, e202, e203, e204, e205, e206, e207, e208, e209, e210, e211, e212, e213, e214, e215, e216, e217, e218, -⟩ : ρ (.tmp 196) = (.pointer (some ⟨h, 0, none⟩)) ∧ ρ (.tmp 197) = (.int .i64 x0.type) ∧ ρ (.tmp 198) = (.bool b198) ∧ ρ (.tmp 199) = (.bool (!b198)) ∧ ρ (.tmp 200) = (.agg #[.bool (!b198), .int .i64 11]) ∧ ρ (.tmp 201) = (.pointer (some ⟨h, 1, none⟩)) ∧ ρ (.tmp 202) = (.string x0.ref) ∧ ρ (.tmp 203) = (.bool b203) ∧ ρ (.tmp 204) = (.bool (!b203)) ∧ ρ (.tmp 205) = (.agg #[.bool (!b203), .int .i64 6]) ∧ ρ (.tmp 206) = (.pointer (some ⟨h, 1, none⟩)) ∧ ρ (.tmp 207) = (.string x0.ref) ∧ ρ (.tmp 208) = (.pointer (some ⟨g, 0, none⟩)) ∧ ρ (.tmp 209) = (.string i.ref) ∧ ρ (.tmp 210) = (.bool b210) ∧ ρ (.tmp 211) = (.agg #[.bool b210, .int .i64 26]) ∧ ρ (.tmp 212) = (.pointer (some ⟨g, 15, none⟩)) ∧ ρ (.tmp 213) = (.slice (some ⟨sb, 0, none⟩) sn sc) ∧ ρ (.tmp 214) = (.int .i64 (k : Int)) ∧ ρ (.tmp 215) = (.slice (some ⟨sb, 0, none⟩) k sc) ∧ ρ (.tmp 216) = (.func (.func 109) #[] #[.pointer (some ⟨h, 0, none⟩)]) ∧ ρ (.tmp 217) = (.bool b217) ∧ ρ (.tmp 218) = (.agg #[.bool b217, .int .i64 7]) ∧ True := alld_lit hvs hD
            simp only [List.map_toArray, List.map_cons, List.map_nil, e200, e205, e211, e218]
            go_simp
            rfl
          · intro b W2 hB2 hdf hsz h6 hrest
            rw [← hres7] at h6
            have hr : ∀ t, ([6, 196, 197, 198, 199, 200, 201, 202, 203, 204, 205, 206, 207, 208, 209, 210, 211, 212, 213, 214, 215, 216, 217, 218, 219, 220] : List Nat).contains t = false → b.tmps[t]? = _ := fun t ht => hrest t (not_dst (by kernel_rfl) ht)
            have HB2 : Hid (Below W.heap.size W W2) := Lib.hid (hBk7.trans (hB2.mono hBk7.size))
            have HBZ : Hid (Below w.heap.size w W2) := Lib.hid (hB7.trans (hB2.mono hB7.size))
            clear hrest hres7 hvs hB2 hB7 hBk7 hcellh_0 hcellh_1 hcellg_0 hcellg_15 hV2 hLK hb198 hb203 hb210 hb217
            have hdf2 : b.defers = [] := hdf
            obtain ⟨y, hy⟩ : ∃ y, firstE (lkRules V i (i.links.take k) x0) = y := ⟨_, rfl⟩
            rw [hy] at h6
            have HLY := HLN.out
            rw [hy] at HLY
            clear HLN hy hdf
            refine act_endW [6, 196, 197, 198, 199, 200, 201, 202, 203, 204, 205, 206, 207, 208, 209, 210, 211, 212, 213, 214, 215, 216, 217, 218, 219, 220] _ 6 (.int .i64 y) ?_ b hdf2 hsz hr h6
            clear hdf2 hsz hr h6 b vs
            intro u6 u196 u197 u198 u199 u200 u201 u202 u203 u204 u205 u206 u207 u208 u209 u210 u211 u212 u213 u214 u215 u216 u217 u218 u219 u220 h6
            obtain rfl : u6 = _ := Option.some.inj h6
            clear h6
            refine hK7 _ _ ?_
            clear hK7 HX HSN HSC hsn hsnc hltI hk HBW HBk
            by_cases y0 : y = 0
            · rw [if_neg (by simp [y0])] at HLY
              have e7 : (y != 0) = false := by simp [y0]
              have HL7 : Hid (Ps.linksE V i (i.links.take (k + 1)) (i.links.drop (k + 1)) = x) := Lib.hid (by rw [HTK.out]; exact HLY)
              have hw1 : wrap64 ((k : Int) + 1) = ((k + 1 : Nat) : Int) := by unfold wrap64; omega
              clear HLY HTK y0
              go_wp2_with fail
              refine ⟨⟨k + 1, by first | rfl | go_num, hlt, HB2, HL7⟩, by simp [RowKit.intOf] <;> omega⟩
            · rw [if_pos y0] at HLY
              have e7 : (y != 0) = true := by simp [y0]
              subst HLY
              clear y0 HTK
              go_wp2_with fail
              go_ret
              exact ⟨rfl, HBZ.out⟩
        · have hke : k = sn := by omega
          have hltI : ¬ (k : Int) < (sn : Int) := by omega
          have hx0 : x = 0 := by
            rw [← HL.out, hke, HSN.out, List.drop_length]
            rfl
          subst hx0
          clear HL
          go_wp2_with fail
          go_ret
          exact ⟨rfl, HB.out.trans (HBk.out.mono HB.out.size)⟩
    · rw [if_pos t1] at hx
      have t2 : (x1 != 0) = true := by simp [t1]
      subst hx
      clear hx1 hn8
      go_wp2_with fail
      go_ret
      exact ⟨rfl, HB.out⟩

end Go.Proofs.YthijakidnkhbnaaGreatDoor
