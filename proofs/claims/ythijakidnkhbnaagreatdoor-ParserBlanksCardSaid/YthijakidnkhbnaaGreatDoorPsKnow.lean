/-
  The three lines of the document's example, plain.
  known: the walk.
  EqualRequests of equal requests.
-/
import Derived.Test.YthijakidnkhbnaaGreatDoorPsParse
import Derived.Test.YthijakidnkhbnaaGreatDoorPsChkU
import Derived.Deep.WholeRow
import Derived.Test.YthijakidnkhbnaaGreatDoorPsChk2
import Derived.Test.YthijakidnkhbnaaGreatDoorPsChk6

namespace Go.Proofs.YthijakidnkhbnaaGreatDoor
open Go.RowKit
def kn1 : ByteArray := ⟨#[112, 97, 121, 32, 80, 49, 32, 102, 114, 111, 109, 32, 66, 65, 78, 75, 65, 32, 116, 111, 32, 66, 65, 78, 75, 66, 32, 97, 109, 111, 117, 110, 116, 32, 49, 53, 48, 48, 46, 48, 48, 32, 100, 97, 121, 32, 50, 48, 50, 54, 45, 49, 49, 45, 49, 54, 32, 117, 114, 103, 101, 110, 116]⟩
def kn2 : ByteArray := ⟨#[112, 97, 121, 32, 80, 49, 32, 102, 114, 111, 109, 32, 66, 65, 78, 75, 65, 32, 116, 111]⟩
def kn3 : ByteArray := ⟨#[99, 97, 110, 99, 101, 108, 32, 80, 49, 32, 98, 121, 32, 66, 65, 78, 75, 65, 32, 110, 111, 119]⟩
theorem kn_two : (Ps.parse psE0 psR kn2).2 = (20, 4) := by decide +kernel
theorem kn_three : (Ps.parse psE0 psR kn3).2 = (19, 30) := by decide +kernel
theorem kn_one : (Ps.parse psE0 psR kn1).2 = (0, 0) := by decide +kernel
end Go.Proofs.YthijakidnkhbnaaGreatDoor

namespace Go.Proofs.YthijakidnkhbnaaGreatDoor
open Go.RowKit

/-- what Parse says of a text -/
def PrsC (W : World) (s : ByteArray) (Q : Ps.Req) (o x : Int) : Prop := Calls Tryz.prog 9 #[.string s] W fun e W' => ∃ a n c, e = .returned (.tuple #[.agg (reqCells Q (.slice a n c)), .int .i64 o, .int .i64 x]) ∧ LkAt W' W.heap.size (.slice a n c) Q.ins.links ∧ Below W.heap.size W W'
theorem prs_of {m : Int} {kb ko kc : Nat} {w : World} (env : PvEnv m kb ko kc w) (s : ByteArray) (hs : s.size ≤ 9223372036854775807) (W : World) (hW : Below w.heap.size w W) : PrsC W s (Ps.parse psE0 psR s).1 (Ps.parse psE0 psR s).2.1 (Ps.parse psE0 psR s).2.2 := by
  refine (pr_parse0 (env.below hW) s hs).mono ?_
  rintro e W' ⟨rv, o, x, rfl, ⟨lv, rfl, hl⟩, rfl, rfl, hb⟩
  obtain ⟨a, c, rfl⟩ := hl.slice
  exact ⟨a, _, c, rfl, hl, hb⟩

def zReq : Array Value := #[Value.int IntKind.i64 0, Value.string { data := #[] }, Value.string { data := #[] }, Value.string { data := #[] }, Value.int IntKind.i64 0, Value.string { data := #[] }, Value.string { data := #[] }, Value.int IntKind.i64 0, Value.string { data := #[] }, Value.int IntKind.i64 0, Value.int IntKind.i64 0, Value.int IntKind.i64 0, Value.int IntKind.i64 0, Value.int IntKind.i64 0, Value.bool false, Value.int IntKind.i64 0, Value.bool false, Value.bool false, Value.slice none 0 0, Value.bool false, Value.bool false, Value.bool false, Value.bool false, Value.int IntKind.i64 0, Value.int IntKind.i64 0, Value.int IntKind.i64 0, Value.bool false, Value.int IntKind.i64 0]
def zIns : Array Value := #[Value.string { data := #[] }, Value.int IntKind.i64 0, Value.string { data := #[] }, Value.string { data := #[] }, Value.int IntKind.i64 0, Value.string { data := #[] }, Value.int IntKind.i64 0, Value.int IntKind.i64 0, Value.int IntKind.i64 0, Value.int IntKind.i64 0, Value.int IntKind.i64 0, Value.bool false, Value.int IntKind.i64 0, Value.bool false, Value.bool false, Value.slice none 0 0]
/-- a request stored into a new variable -/
theorem st_req (w : World) (Q : Ps.Req) (a : Option Addr) (n c : Nat) : Sem.run Tryz.prog (storeCells ⟨w.heap.size, 0, none⟩ (reqCells Q (.slice a n c)).toList) (w.alloc (.cells #[Value.int IntKind.i64 0, Value.string { data := #[] }, Value.string { data := #[] }, Value.string { data := #[] }, Value.int IntKind.i64 0, Value.string { data := #[] }, Value.string { data := #[] }, Value.int IntKind.i64 0, Value.string { data := #[] }, Value.int IntKind.i64 0, Value.int IntKind.i64 0, Value.int IntKind.i64 0, Value.int IntKind.i64 0, Value.int IntKind.i64 0, Value.bool false, Value.int IntKind.i64 0, Value.bool false, Value.bool false, Value.slice none 0 0, Value.bool false, Value.bool false, Value.bool false, Value.bool false, Value.int IntKind.i64 0, Value.int IntKind.i64 0, Value.int IntKind.i64 0, Value.bool false, Value.int IntKind.i64 0] 29)) = .ok () (w.alloc (.cells (reqCells Q (.slice a n c)) 29)) :=
  run_storeCells_new w 29 zReq _ (by kernel_rfl) rfl (reqCells_one Q a n c)
theorem insCells_one (i : Ps.Ins) (a : Option Addr) (n c : Nat) : (insCells i (.slice a n c)).toArray.all (·.oneCell') = true := by
  rw [← Array.all_toList]
  simp [insCells, Value.oneCell']
theorem st_ins (w : World) (i : Ps.Ins) (a : Option Addr) (n c : Nat) : Sem.run Tryz.prog (storeCells ⟨w.heap.size, 0, none⟩ (insCells i (.slice a n c))) (w.alloc (.cells #[Value.string { data := #[] }, Value.int IntKind.i64 0, Value.string { data := #[] }, Value.string { data := #[] }, Value.int IntKind.i64 0, Value.string { data := #[] }, Value.int IntKind.i64 0, Value.int IntKind.i64 0, Value.int IntKind.i64 0, Value.int IntKind.i64 0, Value.int IntKind.i64 0, Value.bool false, Value.int IntKind.i64 0, Value.bool false, Value.bool false, Value.slice none 0 0] 25)) = .ok () (w.alloc (.cells (insCells i (.slice a n c)).toArray 25)) :=
  run_storeCells_new w 25 zIns (insCells i (.slice a n c)).toArray (by kernel_rfl) rfl (insCells_one i a n c)

set_option maxRecDepth 100000 in
set_option maxHeartbeats 2000000 in
theorem kn_walk (w : World) (Q1 Q2 Q3 : Ps.Req)
    (m1 : Hid (∀ W, Below w.heap.size w W → PrsC W kn1 Q1 0 0)) (m2 : Hid (∀ W, Below w.heap.size w W → PrsC W kn2 Q2 20 4)) (m3 : Hid (∀ W, Below w.heap.size w W → PrsC W kn3 Q3 19 30))
    (z0 : Q1.op = 0) (z1 : (Q1.sender.toList == [66, 65, 78, 75, 65]) = true) (z2 : (Q1.ref.toList == [80, 49]) = true) (y1 : Q1.ins.kind = 0) (y3 : (Q1.ins.counterparty.toList == [66, 65, 78, 75, 66]) = true) (y7 : Q1.ins.amount = 150000) (y9 : Q1.ins.settleDay = 9816) (y10 : Q1.ins.priority = 2) :
    Calls Tryz.prog 8 #[] w fun e W' => e = .returned (.bool true) ∧ Below w.heap.size w W' := by
  have hst := st_req
  go_enter Tryz.func8, Tryz.ntmps8
  go_upto_region 2 with (go_at_call 9; refine (m1.out _ (Below.refl _ _)).mono ?_; rintro e w1 ⟨a1, n1, c1, rfl, hl1, hb1⟩; have HB1 := Lib.hid hb1; clear hb1 hl1)
  obtain ⟨g, hg⟩ : ∃ g, g = w1.heap.size := ⟨_, rfl⟩
  obtain ⟨W2, hW2⟩ : ∃ W2, W2 = w1.alloc (.cells (reqCells Q1 (.slice a1 n1 c1)) 29) := ⟨_, rfl⟩
  have HR2 : Hid (W2.heap[g]? = some (.cells (reqCells Q1 (.slice a1 n1 c1)) 29 (0, 0))) := Lib.hid (by rw [hW2, hg]; exact ps_alloc_new w1 _)
  have HB2 : Hid (Below w.heap.size w W2) := Lib.hid (by rw [hW2]; exact HB1.out.alloc HB1.out.size _)
  rw [← hW2, ← hg]
  clear hW2 hg HB1
  go_upto_region 3 with (go_at_call 9; refine (m2.out _ HB2.out).mono ?_; rintro e w3 ⟨a2, n2, c2, rfl, hl3, hb3⟩; have HB3 := Lib.hid hb3; clear hb3 hl3)
  obtain ⟨W4, hW4⟩ : ∃ W4, W4 = w3.alloc (.cells (reqCells Q2 (.slice a2 n2 c2)) 29) := ⟨_, rfl⟩
  have hb4 : Below W2.heap.size W2 W4 := by rw [hW4]; exact HB3.out.alloc HB3.out.size _
  have HR4 : Hid (W4.heap[g]? = some (.cells (reqCells Q1 (.slice a1 n1 c1)) 29 (0, 0))) := Lib.hid ((hb4.block g (Array.getElem?_eq_some_iff.1 HR2.out).1).trans HR2.out)
  have HB4 : Hid (Below w.heap.size w W4) := Lib.hid (HB2.out.trans (hb4.mono HB2.out.size))
  rw [← hW4]
  clear hW4 hb4 HB3 HR2 HB2
  generalize w3.heap.size = g2
  go_upto_region 4 with (go_at_call 9; refine (m3.out _ HB4.out).mono ?_; rintro e w5 ⟨a3, n3, c3, rfl, hl5, hb5⟩; have HB5 := Lib.hid hb5; clear hb5 hl5)
  obtain ⟨W6, hW6⟩ : ∃ W6, W6 = w5.alloc (.cells (reqCells Q3 (.slice a3 n3 c3)) 29) := ⟨_, rfl⟩
  have hb6 : Below W4.heap.size W4 W6 := by rw [hW6]; exact HB5.out.alloc HB5.out.size _
  have HR6 : Hid (W6.heap[g]? = some (.cells (reqCells Q1 (.slice a1 n1 c1)) 29 (0, 0))) := Lib.hid ((hb6.block g (Array.getElem?_eq_some_iff.1 HR4.out).1).trans HR4.out)
  have HB6 : Hid (Below w.heap.size w W6) := Lib.hid (HB4.out.trans (hb6.mono HB4.out.size))
  rw [← hW6]
  clear hW6 hb6 HB5 HR4 HB4 hst m1 m2 m3
  generalize w5.heap.size = g3
  refine wp_region_lit ?_
  refine wl_addr rfl rfl rfl rfl (u := .pointer (some ⟨g, 3, none⟩)) (by clear z0 z1 z2 y1 y3 y7 y9 y10; go_simp) ?_
  refine wl_load rfl rfl rfl rfl (rq_ins g Q1 a1 n1 c1 W6 HR6.out) ?_
  have hsi := st_ins
  go_upto_region 5 with fail
  obtain ⟨h, hh⟩ : ∃ h, h = W6.heap.size := ⟨_, rfl⟩
  obtain ⟨W7, hW7⟩ : ∃ W7, W7 = W6.alloc (.cells (insCells Q1.ins (.slice a1 n1 c1)).toArray 25) := ⟨_, rfl⟩
  have hb7 : Below W6.heap.size W6 W7 := by rw [hW7]; exact (Below.refl _ _).alloc (Nat.le_refl _) _
  have hr7 : W7.heap[g]? = some (.cells (reqCells Q1 (.slice a1 n1 c1)) 29 (0, 0)) := (hb7.block g (Array.getElem?_eq_some_iff.1 HR6.out).1).trans HR6.out
  have hi7 : W7.heap[h]? = some (.cells (insCells Q1.ins (.slice a1 n1 c1)).toArray 25 (0, 0)) := by rw [hW7, hh]; exact ps_alloc_new W6 _
  have HB7 : Hid (Below w.heap.size w W7) := Lib.hid (HB6.out.trans (hb7.mono HB6.out.size))
  have k0 : W7.cell? ⟨g, 0, none⟩ = some (.int .i64 0) := by rw [cell_of_row _ _ _ _ _ _ hr7, ← z0]; rfl
  have k1 : W7.cell? ⟨g, 1, none⟩ = some (.string Q1.sender) := by rw [cell_of_row _ _ _ _ _ _ hr7]; rfl
  have k2 : W7.cell? ⟨g, 2, none⟩ = some (.string Q1.ref) := by rw [cell_of_row _ _ _ _ _ _ hr7]; rfl
  have i1 : W7.cell? ⟨h, 1, none⟩ = some (.int .i64 0) := by rw [cell_of_row _ _ _ _ _ _ hi7, ← y1]; rfl
  have i3 : W7.cell? ⟨h, 3, none⟩ = some (.string Q1.ins.counterparty) := by rw [cell_of_row _ _ _ _ _ _ hi7]; rfl
  have i7 : W7.cell? ⟨h, 7, none⟩ = some (.int .i64 150000) := by rw [cell_of_row _ _ _ _ _ _ hi7, ← y7]; rfl
  have i9 : W7.cell? ⟨h, 9, none⟩ = some (.int .i64 9816) := by rw [cell_of_row _ _ _ _ _ _ hi7, ← y9]; rfl
  have i10 : W7.cell? ⟨h, 10, none⟩ = some (.int .i64 2) := by rw [cell_of_row _ _ _ _ _ _ hi7, ← y10]; rfl
  rw [← hW7, ← hh]
  clear hW7 hh hb7 hr7 hi7 HR6 HB6 hsi z0 y1 y7 y9 y10
  go_wp2_with fail
  go_ret
  exact ⟨rfl, HB7.out⟩

theorem kn_one' : (Ps.parse psE0 psR kn1).1.op = 0 ∧ ((Ps.parse psE0 psR kn1).1.sender.toList == [66, 65, 78, 75, 65]) = true ∧ ((Ps.parse psE0 psR kn1).1.ref.toList == [80, 49]) = true ∧ (Ps.parse psE0 psR kn1).1.ins.kind = 0 ∧ ((Ps.parse psE0 psR kn1).1.ins.counterparty.toList == [66, 65, 78, 75, 66]) = true ∧ (Ps.parse psE0 psR kn1).1.ins.amount = 150000 ∧ (Ps.parse psE0 psR kn1).1.ins.settleDay = 9816 ∧ (Ps.parse psE0 psR kn1).1.ins.priority = 2 := by decide +kernel

/-- known: the document's example holds -/
theorem pr_known {m : Int} {kb ko kc : Nat} {w : World} (env : PvEnv m kb ko kc w) : Calls Tryz.prog 8 #[] w fun e W' => e = .returned (.bool true) ∧ Below w.heap.size w W' := by
  obtain ⟨z0, z1, z2, y1, y3, y7, y9, y10⟩ := kn_one'
  have e1 := kn_one
  have e2 := kn_two
  have e3 := kn_three
  refine kn_walk w (Ps.parse psE0 psR kn1).1 (Ps.parse psE0 psR kn2).1 (Ps.parse psE0 psR kn3).1 (Lib.hid fun W hW => ?_) (Lib.hid fun W hW => ?_) (Lib.hid fun W hW => ?_) z0 z1 z2 y1 y3 y7 y9 y10
  · have := prs_of env kn1 (by decide) W hW
    rw [e1] at this
    exact this
  · have := prs_of env kn2 (by decide) W hW
    rw [e2] at this
    exact this
  · have := prs_of env kn3 (by decide) W hW
    rw [e3] at this
    exact this
end Go.Proofs.YthijakidnkhbnaaGreatDoor

namespace Go.Proofs.YthijakidnkhbnaaGreatDoor
open Go.RowKit
open Go.Proofs.YthijakidnkhbnaaGreatDoor.Ord

set_option maxRecDepth 100000 in
set_option maxHeartbeats 1000000 in
/-- slices of the same links are equal -/
theorem lk_eqSame (w : World) (ka kb : Option Addr) (n c d : Nat) (ks : List Ps.Link) (hn : n = ks.length) (hl : n ≤ 1000) (_hc : n ≤ c) (_hd : n ≤ d) (h1 : Hid (0 < n → ∃ sb, ka = some ⟨sb, 0, none⟩ ∧ LkRow w sb ks)) (h2 : Hid (0 < n → ∃ sb, kb = some ⟨sb, 0, none⟩ ∧ LkRow w sb ks)) :
    Calls Tryz.prog 83 #[.slice ka n c, .slice kb n d] w fun e w' => e = .returned (.bool true) ∧ Below w.heap.size w w' := by
  have HN := Lib.hid hn
  clear hn
  go_enter Tryz.func83, Tryz.ntmps83
  go_wp2_with fail
  go_loopw [5, 13] (fun _ iv wr => ∃ k : Nat, iv = .int .i64 k ∧ k ≤ n ∧ ∃ q, wr = w.drewN q) (fun _ iv _ => 2000 - (RowKit.intOf iv).toNat)
  case atStart => exact ⟨0, rfl, Nat.zero_le _, 0, rfl⟩
  case round =>
    obtain ⟨k, rfl, hk, q, rfl⟩ := hrel
    by_cases hlt : k < n
    · obtain ⟨sb, rfl, r1⟩ := h1.out (by omega)
      obtain ⟨tb, rfl, r2⟩ := h2.out (by omega)
      have hkl : k < ks.length := by rw [← HN.out]; exact hlt
      obtain ⟨x, hx⟩ : ∃ x, ks[k]? = some x := ⟨_, List.getElem?_eq_getElem hkl⟩
      obtain ⟨y0', y1'⟩ := r1 k x hx
      obtain ⟨z0', z1'⟩ := r2 k x hx
      obtain ⟨wq, hwq⟩ : ∃ wq, wq = w.drewN q := ⟨_, rfl⟩
      have y0 : wq.cell? ⟨sb, k * 2, none⟩ = some (.int .i64 x.type) := by rw [hwq]; exact y0'
      have y1 : wq.cell? ⟨sb, k * 2 + 1, none⟩ = some (.string x.ref) := by rw [hwq]; exact y1'
      have z0 : wq.cell? ⟨tb, k * 2, none⟩ = some (.int .i64 x.type) := by rw [hwq]; exact z0'
      have z1 : wq.cell? ⟨tb, k * 2 + 1, none⟩ = some (.string x.ref) := by rw [hwq]; exact z1'
      rw [← hwq]
      have HWQ := Lib.hid hwq
      clear y0' y1' z0' z1' hwq
      have hltI : (k : Int) < (n : Int) := by omega
      have hw1 : wrap64 ((k : Int) + 1) = ((k + 1 : Nat) : Int) := by unfold wrap64; omega
      clear r1 r2 hx h1 h2 hkl HN
      go_wp2_with fail
      go_quiet (fail)
      go_wp2_with fail
      refine ⟨⟨k + 1, by first | rfl | go_num, hlt, ?_⟩, by simp [RowKit.intOf] <;> omega⟩
      rw [HWQ.out]
      first | exact ⟨_, rfl⟩ | exact ⟨_, World.drewN_drewN _ _ _⟩
    · have hltI : ¬ (k : Int) < (n : Int) := by omega
      clear h1 h2 HN
      go_wp2_with fail
      go_ret
      exact ⟨rfl, below_drewN' (Below.refl _ _) _⟩

theorem insEq_refl (i : Ps.Ins) : insEqB i i true = true := by
  unfold insEqB
  simp




theorem ent55 : ∀ args w, (callFunc 45 args).run Tryz.prog w = .ok (.enter 45 args) w := enters_of Tryz.func45 (by kernel_rfl) rfl
set_option maxRecDepth 100000 in
theorem eq27s (A : Ps.Amd) (x y : Operand) (w : World) : (do eqGuard .eql 27 x y (.agg (amdCells A).toArray) (.agg (amdCells A).toArray); binOp .eql 27 (.agg (amdCells A).toArray) (.agg (amdCells A).toArray) : Sem Value).run Tryz.prog w = .ok (.bool true) w := by
  unfold amdCells
  go_simp

set_option maxRecDepth 100000 in
set_option maxHeartbeats 4000000 in
theorem eq_reqL (w : World) (Q : Ps.Req) (a b : Option Addr) (n c m d : Nat)
    (n1 : Hid (∀ W, Below w.heap.size w W → Calls Tryz.prog 45 #[.agg (insCells Q.ins (.slice a n c)).toArray, .agg (insCells Q.ins (.slice b m d)).toArray] W fun e W' => e = .returned (.bool true) ∧ Below W.heap.size W W')) :
    Calls Tryz.prog 16 #[.agg (reqCells Q (.slice a n c)), .agg (reqCells Q (.slice b m d))] w fun e w' => e = .returned (.bool true) ∧ Below w.heap.size w w' := by
  go_enter Tryz.func16, Tryz.ntmps16
  go_upto_region 1 with fail
  obtain ⟨g, hg⟩ : ∃ g, g = w.heap.size := ⟨_, rfl⟩
  obtain ⟨W1, hW1⟩ : ∃ W1, W1 = (w.alloc (.cells (reqCells Q (.slice a n c)) 29)).alloc (.cells (reqCells Q (.slice b m d)) 29) := ⟨_, rfl⟩
  have hsz0 : (w.alloc (.cells (reqCells Q (.slice a n c)) 29)).heap.size = w.heap.size + 1 := by simp
  have r : W1.heap[g]? = some (.cells (reqCells Q (.slice a n c)) 29 (0, 0)) := by
    have e1 := ps_alloc_new w (.cells (reqCells Q (.slice a n c)) 29)
    rw [hW1, hg]
    exact (((Below.refl _ _).alloc (Nat.le_refl _) _ : Below (w.alloc (.cells (reqCells Q (.slice a n c)) 29)).heap.size _ _).block w.heap.size (by rw [hsz0]; omega)).trans e1
  have q : W1.heap[g + 1]? = some (.cells (reqCells Q (.slice b m d)) 29 (0, 0)) := by
    have e1 := ps_alloc_new (w.alloc (.cells (reqCells Q (.slice a n c)) 29)) (.cells (reqCells Q (.slice b m d)) 29)
    rw [hsz0] at e1
    rw [hW1, hg]
    exact e1
  have hB1 : Below w.heap.size w W1 := by rw [hW1]; exact ((Below.refl _ _).alloc (Nat.le_refl _) _).alloc (by rw [hsz0]; omega) _
  try rw [hsz0]
  rw [← hW1, ← hg]
  have hrow : ∀ W, Below W1.heap.size W1 W → W.heap[g]? = some (.cells (reqCells Q (.slice a n c)) 29 (0, 0)) := fun W hW => (hW.block g (Array.getElem?_eq_some_iff.1 r).1).trans r
  have hrow2 : ∀ W, Below W1.heap.size W1 W → W.heap[g + 1]? = some (.cells (reqCells Q (.slice b m d)) 29 (0, 0)) := fun W hW => (hW.block (g + 1) (Array.getElem?_eq_some_iff.1 q).1).trans q
  have c55 := n1.out
  clear hW1 hg hsz0 n1 r q
  have hagg25g : ∀ W, Below W1.heap.size W1 W → _ := fun W hW => rq_ins g Q a n c W (hrow W hW)
  have hagg25h : ∀ W, Below W1.heap.size W1 W → _ := fun W hW => rq_ins (g + 1) Q b m d W (hrow2 W hW)
  have hagg27g : ∀ W, Below W1.heap.size W1 W → _ := fun W hW => rq_amd g Q _ W (hrow W hW)
  have hagg27h : ∀ W, Below W1.heap.size W1 W → _ := fun W hW => rq_amd (g + 1) Q _ W (hrow2 W hW)
  have hcellg_0 : ∀ W, Below W1.heap.size W1 W → W.cell? ⟨g, 0, none⟩ = some (.int .i64 Q.op) := fun W hW => by rw [cell_of_row _ _ _ _ _ _ (hrow W hW)]; rfl
  have hcellg_1 : ∀ W, Below W1.heap.size W1 W → W.cell? ⟨g, 1, none⟩ = some (.string Q.sender) := fun W hW => by rw [cell_of_row _ _ _ _ _ _ (hrow W hW)]; rfl
  have hcellg_2 : ∀ W, Below W1.heap.size W1 W → W.cell? ⟨g, 2, none⟩ = some (.string Q.ref) := fun W hW => by rw [cell_of_row _ _ _ _ _ _ (hrow W hW)]; rfl
  have hcellh_0 : ∀ W, Below W1.heap.size W1 W → W.cell? ⟨g + 1, 0, none⟩ = some (.int .i64 Q.op) := fun W hW => by rw [cell_of_row _ _ _ _ _ _ (hrow2 W hW)]; rfl
  have hcellh_1 : ∀ W, Below W1.heap.size W1 W → W.cell? ⟨g + 1, 1, none⟩ = some (.string Q.sender) := fun W hW => by rw [cell_of_row _ _ _ _ _ _ (hrow2 W hW)]; rfl
  have hcellh_2 : ∀ W, Below W1.heap.size W1 W → W.cell? ⟨g + 1, 2, none⟩ = some (.string Q.ref) := fun W hW => by rw [cell_of_row _ _ _ _ _ _ (hrow2 W hW)]; rfl
  obtain ⟨b9, hb9⟩ : ∃ b : Bool, (Q.op == Q.op) = b := ⟨_, rfl⟩
  obtain ⟨b15, hb15⟩ : ∃ b : Bool, (Q.sender.toList == Q.sender.toList) = b := ⟨_, rfl⟩
  obtain ⟨b16, hb16⟩ : ∃ b : Bool, (b9 && b15) = b := ⟨_, rfl⟩
  obtain ⟨b22, hb22⟩ : ∃ b : Bool, (Q.ref.toList == Q.ref.toList) = b := ⟨_, rfl⟩
  obtain ⟨b23, hb23⟩ : ∃ b : Bool, (b16 && b22) = b := ⟨_, rfl⟩
  obtain ⟨b29, hb29⟩ : ∃ b : Bool, true = b := ⟨_, rfl⟩
  obtain ⟨b30, hb30⟩ : ∃ b : Bool, (b23 && b29) = b := ⟨_, rfl⟩
  obtain ⟨b36, hb36⟩ : ∃ b : Bool, true = b := ⟨_, rfl⟩
  obtain ⟨b37, hb37⟩ : ∃ b : Bool, (b30 && b36) = b := ⟨_, rfl⟩
  have hres : b37 = true := by
    rw [← hb37, ← hb36, ← hb30, ← hb29, ← hb23, ← hb22, ← hb16, ← hb15, ← hb9]
    simp
  obtain ⟨vs, hvs⟩ : ∃ vs : List Value, vs = [(.pointer (some ⟨g, 0, none⟩)), (.int .i64 Q.op), (.pointer (some ⟨g + 1, 0, none⟩)), (.int .i64 Q.op), (.bool b9), (.bool b9), (if b9 = true then .pointer (some ⟨g, 1, none⟩) else undef), (if b9 = true then .string Q.sender else undef), (if b9 = true then .pointer (some ⟨g + 1, 1, none⟩) else undef), (if b9 = true then .string Q.sender else undef), (if b9 = true then .bool b15 else undef), (.bool b16), (.bool b16), (if b16 = true then .pointer (some ⟨g, 2, none⟩) else undef), (if b16 = true then .string Q.ref else undef), (if b16 = true then .pointer (some ⟨g + 1, 2, none⟩) else undef), (if b16 = true then .string Q.ref else undef), (if b16 = true then .bool b22 else undef), (.bool b23), (.bool b23), (if b23 = true then .pointer (some ⟨g, 3, none⟩) else undef), (if b23 = true then .agg (insCells Q.ins (.slice a n c)).toArray else undef), (if b23 = true then .pointer (some ⟨g + 1, 3, none⟩) else undef), (if b23 = true then .agg (insCells Q.ins (.slice b m d)).toArray else undef), (if b23 = true then .bool b29 else undef), (.bool b30), (.bool b30), (if b30 = true then .pointer (some ⟨g, 19, none⟩) else undef), (if b30 = true then .agg (amdCells Q.amd).toArray else undef), (if b30 = true then .pointer (some ⟨g + 1, 19, none⟩) else undef), (if b30 = true then .agg (amdCells Q.amd).toArray else undef), (if b30 = true then .bool b36 else undef), (.bool b37)] := ⟨_, rfl⟩
  refine wp_lastF (W0 := W1) 33 vs (by rw [hvs]; rfl) (by kernel_rfl) (by kernel_rfl) (by kernel_rfl) (Below.refl _ _) ?_ (.bool b37) (by kernel_rfl) rfl rfl rfl rfl (by show _ < 38; omega) ?_ ?_
  · intro ρ hD hrest hco hfu
    have e2 : ρ (.tmp 2) = .pointer (some ⟨g, 0, none⟩) := (hrest 2 (by decide +kernel)).trans rfl
    have e3 : ρ (.tmp 3) = .pointer (some ⟨g + 1, 0, none⟩) := (hrest 3 (by decide +kernel)).trans rfl
    obtain ⟨e5, e6, e7, e8, e9, e10, e11, e12, e13, e14, e15, e16, e17, e18, e19, e20, e21, e22, e23, e24, e25, e26, e27, e28, e29, e30, e31, e32, e33, e34, e35, e36, e37, -⟩ : ρ (.tmp 5) = (.pointer (some ⟨g, 0, none⟩)) ∧ ρ (.tmp 6) = (.int .i64 Q.op) ∧ ρ (.tmp 7) = (.pointer (some ⟨g + 1, 0, none⟩)) ∧ ρ (.tmp 8) = (.int .i64 Q.op) ∧ ρ (.tmp 9) = (.bool b9) ∧ ρ (.tmp 10) = (.bool b9) ∧ ρ (.tmp 11) = (if b9 = true then .pointer (some ⟨g, 1, none⟩) else undef) ∧ ρ (.tmp 12) = (if b9 = true then .string Q.sender else undef) ∧ ρ (.tmp 13) = (if b9 = true then .pointer (some ⟨g + 1, 1, none⟩) else undef) ∧ ρ (.tmp 14) = (if b9 = true then .string Q.sender else undef) ∧ ρ (.tmp 15) = (if b9 = true then .bool b15 else undef) ∧ ρ (.tmp 16) = (.bool b16) ∧ ρ (.tmp 17) = (.bool b16) ∧ ρ (.tmp 18) = (if b16 = true then .pointer (some ⟨g, 2, none⟩) else undef) ∧ ρ (.tmp 19) = (if b16 = true then .string Q.ref else undef) ∧ ρ (.tmp 20) = (if b16 = true then .pointer (some ⟨g + 1, 2, none⟩) else undef) ∧ ρ (.tmp 21) = (if b16 = true then .string Q.ref else undef) ∧ ρ (.tmp 22) = (if b16 = true then .bool b22 else undef) ∧ ρ (.tmp 23) = (.bool b23) ∧ ρ (.tmp 24) = (.bool b23) ∧ ρ (.tmp 25) = (if b23 = true then .pointer (some ⟨g, 3, none⟩) else undef) ∧ ρ (.tmp 26) = (if b23 = true then .agg (insCells Q.ins (.slice a n c)).toArray else undef) ∧ ρ (.tmp 27) = (if b23 = true then .pointer (some ⟨g + 1, 3, none⟩) else undef) ∧ ρ (.tmp 28) = (if b23 = true then .agg (insCells Q.ins (.slice b m d)).toArray else undef) ∧ ρ (.tmp 29) = (if b23 = true then .bool b29 else undef) ∧ ρ (.tmp 30) = (.bool b30) ∧ ρ (.tmp 31) = (.bool b30) ∧ ρ (.tmp 32) = (if b30 = true then .pointer (some ⟨g, 19, none⟩) else undef) ∧ ρ (.tmp 33) = (if b30 = true then .agg (amdCells Q.amd).toArray else undef) ∧ ρ (.tmp 34) = (if b30 = true then .pointer (some ⟨g + 1, 19, none⟩) else undef) ∧ ρ (.tmp 35) = (if b30 = true then .agg (amdCells Q.amd).toArray else undef) ∧ ρ (.tmp 36) = (if b30 = true then .bool b36 else undef) ∧ ρ (.tmp 37) = (.bool b37) ∧ True := alld_lit hvs hD
    refine ally_lit hvs ?_
    refine ⟨y_un rfl (y_addr rfl e2 (fun w => by go_simp)), ?_⟩
    refine ⟨y_un rfl (y_load rfl e5 (fun w hS => ld_int _ w _ (hcellg_0 w hS))), ?_⟩
    refine ⟨y_un rfl (y_addr rfl e3 (fun w => by go_simp)), ?_⟩
    refine ⟨y_un rfl (y_load rfl e7 (fun w hS => ld_int _ w _ (hcellh_0 w hS))), ?_⟩
    refine ⟨y_un rfl (y_bin rfl e6 e8 (cmE hb9 (cm_eq3 _ _ _ _))), ?_⟩
    refine ⟨y_un rfl (y_move rfl e9), ?_⟩
    refine ⟨y_gT rfl (by rw [hvs]; rfl) (fun hG => y_addr rfl e2 (fun w => by go_simp)), ?_⟩
    refine ⟨y_gT rfl (by rw [hvs]; rfl) (fun hG => y_load rfl (pos_of e11 hG) (fun w hS => ld_str _ w _ (hcellg_1 w hS))), ?_⟩
    refine ⟨y_gT rfl (by rw [hvs]; rfl) (fun hG => y_addr rfl e3 (fun w => by go_simp)), ?_⟩
    refine ⟨y_gT rfl (by rw [hvs]; rfl) (fun hG => y_load rfl (pos_of e13 hG) (fun w hS => ld_str _ w _ (hcellh_1 w hS))), ?_⟩
    refine ⟨y_gT rfl (by rw [hvs]; rfl) (fun hG => y_bin rfl (pos_of e12 hG) (pos_of e14 hG) (cmE hb15 (cm_eqS _ _ _ _))), ?_⟩
    refine ⟨y_un rfl (y_andE hb16 rfl e10 e15 (hco _)), ?_⟩
    refine ⟨y_un rfl (y_move rfl e16), ?_⟩
    refine ⟨y_gT rfl (by rw [hvs]; rfl) (fun hG => y_addr rfl e2 (fun w => by go_simp)), ?_⟩
    refine ⟨y_gT rfl (by rw [hvs]; rfl) (fun hG => y_load rfl (pos_of e18 hG) (fun w hS => ld_str _ w _ (hcellg_2 w hS))), ?_⟩
    refine ⟨y_gT rfl (by rw [hvs]; rfl) (fun hG => y_addr rfl e3 (fun w => by go_simp)), ?_⟩
    refine ⟨y_gT rfl (by rw [hvs]; rfl) (fun hG => y_load rfl (pos_of e20 hG) (fun w hS => ld_str _ w _ (hcellh_2 w hS))), ?_⟩
    refine ⟨y_gT rfl (by rw [hvs]; rfl) (fun hG => y_bin rfl (pos_of e19 hG) (pos_of e21 hG) (cmE hb22 (cm_eqS _ _ _ _))), ?_⟩
    refine ⟨y_un rfl (y_andE hb23 rfl e17 e22 (hco _)), ?_⟩
    refine ⟨y_un rfl (y_move rfl e23), ?_⟩
    refine ⟨y_gT rfl (by rw [hvs]; rfl) (fun hG => y_addr rfl e2 (fun w => by go_simp)), ?_⟩
    refine ⟨y_gT rfl (by rw [hvs]; rfl) (fun hG => y_load rfl (pos_of e25 hG) (fun w hS => hagg25g w hS)), ?_⟩
    refine ⟨y_gT rfl (by rw [hvs]; rfl) (fun hG => y_addr rfl e3 (fun w => by go_simp)), ?_⟩
    refine ⟨y_gT rfl (by rw [hvs]; rfl) (fun hG => y_load rfl (pos_of e27 hG) (fun w hS => hagg25h w hS)), ?_⟩
    refine ⟨y_gT rfl (by rw [hvs]; rfl) (fun hG => y_call rfl (hfu _) ent55 (by simp only [List.map_toArray, List.map_cons, List.map_nil, (pos_of e26 hG), (pos_of e28 hG)]) (callE hb29 (callB hB1 c55))), ?_⟩
    refine ⟨y_un rfl (y_andE hb30 rfl e24 e29 (hco _)), ?_⟩
    refine ⟨y_un rfl (y_move rfl e30), ?_⟩
    refine ⟨y_gT rfl (by rw [hvs]; rfl) (fun hG => y_addr rfl e2 (fun w => by go_simp)), ?_⟩
    refine ⟨y_gT rfl (by rw [hvs]; rfl) (fun hG => y_load rfl (pos_of e32 hG) (fun w hS => hagg27g w hS)), ?_⟩
    refine ⟨y_gT rfl (by rw [hvs]; rfl) (fun hG => y_addr rfl e3 (fun w => by go_simp)), ?_⟩
    refine ⟨y_gT rfl (by rw [hvs]; rfl) (fun hG => y_load rfl (pos_of e34 hG) (fun w hS => hagg27h w hS)), ?_⟩
    refine ⟨y_gT rfl (by rw [hvs]; rfl) (fun hG => y_bin rfl (pos_of e33 hG) (pos_of e35 hG) (cmE hb36 (eq27s _ _ _))), ?_⟩
    refine ⟨y_un rfl (y_andE hb37 rfl e31 e36 (hco _)), ?_⟩
    exact trivial
  · intro ρ hD
    obtain ⟨e5, e6, e7, e8, e9, e10, e11, e12, e13, e14, e15, e16, e17, e18, e19, e20, e21, e22, e23, e24, e25, e26, e27, e28, e29, e30, e31, e32, e33, e34, e35, e36, e37, -⟩ : ρ (.tmp 5) = (.pointer (some ⟨g, 0, none⟩)) ∧ ρ (.tmp 6) = (.int .i64 Q.op) ∧ ρ (.tmp 7) = (.pointer (some ⟨g + 1, 0, none⟩)) ∧ ρ (.tmp 8) = (.int .i64 Q.op) ∧ ρ (.tmp 9) = (.bool b9) ∧ ρ (.tmp 10) = (.bool b9) ∧ ρ (.tmp 11) = (if b9 = true then .pointer (some ⟨g, 1, none⟩) else undef) ∧ ρ (.tmp 12) = (if b9 = true then .string Q.sender else undef) ∧ ρ (.tmp 13) = (if b9 = true then .pointer (some ⟨g + 1, 1, none⟩) else undef) ∧ ρ (.tmp 14) = (if b9 = true then .string Q.sender else undef) ∧ ρ (.tmp 15) = (if b9 = true then .bool b15 else undef) ∧ ρ (.tmp 16) = (.bool b16) ∧ ρ (.tmp 17) = (.bool b16) ∧ ρ (.tmp 18) = (if b16 = true then .pointer (some ⟨g, 2, none⟩) else undef) ∧ ρ (.tmp 19) = (if b16 = true then .string Q.ref else undef) ∧ ρ (.tmp 20) = (if b16 = true then .pointer (some ⟨g + 1, 2, none⟩) else undef) ∧ ρ (.tmp 21) = (if b16 = true then .string Q.ref else undef) ∧ ρ (.tmp 22) = (if b16 = true then .bool b22 else undef) ∧ ρ (.tmp 23) = (.bool b23) ∧ ρ (.tmp 24) = (.bool b23) ∧ ρ (.tmp 25) = (if b23 = true then .pointer (some ⟨g, 3, none⟩) else undef) ∧ ρ (.tmp 26) = (if b23 = true then .agg (insCells Q.ins (.slice a n c)).toArray else undef) ∧ ρ (.tmp 27) = (if b23 = true then .pointer (some ⟨g + 1, 3, none⟩) else undef) ∧ ρ (.tmp 28) = (if b23 = true then .agg (insCells Q.ins (.slice b m d)).toArray else undef) ∧ ρ (.tmp 29) = (if b23 = true then .bool b29 else undef) ∧ ρ (.tmp 30) = (.bool b30) ∧ ρ (.tmp 31) = (.bool b30) ∧ ρ (.tmp 32) = (if b30 = true then .pointer (some ⟨g, 19, none⟩) else undef) ∧ ρ (.tmp 33) = (if b30 = true then .agg (amdCells Q.amd).toArray else undef) ∧ ρ (.tmp 34) = (if b30 = true then .pointer (some ⟨g + 1, 19, none⟩) else undef) ∧ ρ (.tmp 35) = (if b30 = true then .agg (amdCells Q.amd).toArray else undef) ∧ ρ (.tmp 36) = (if b30 = true then .bool b36 else undef) ∧ ρ (.tmp 37) = (.bool b37) ∧ True := alld_lit hvs hD
    exact e37
  · intro b W hB hdf hsz h3 hrest
    have HB : Hid (Below w.heap.size w W) := Lib.hid (hB1.trans (hB.mono hB1.size))
    have hdf2 : b.defers = [] := hdf
    rw [hres] at h3
    clear hrest hvs hrow hrow2 hB hB1 c55 hagg25g hagg25h hagg27g hagg27h hcellg_0 hcellg_1 hcellg_2 hcellh_0 hcellh_1 hcellh_2 hdf hres hb9 hb15 hb16 hb22 hb23 hb29 hb30 hb36 hb37
    refine act_endF 38 4 _ ?_ b hdf2 hsz h3
    clear hdf2 hsz h3 b vs
    intro u0 u1 u2 u3 u4 u5 u6 u7 u8 u9 u10 u11 u12 u13 u14 u15 u16 u17 u18 u19 u20 u21 u22 u23 u24 u25 u26 u27 u28 u29 u30 u31 u32 u33 u34 u35 u36 u37 h3
    obtain rfl : u4 = _ := Option.some.inj h3
    clear h3
    go_wp2_with fail
    go_ret
    exact ⟨rfl, HB.out⟩

/-- requests of the same value, whatever rows their links lie in -/
theorem eq_req (w : World) (Q : Ps.Req) (B B' : Nat) (a b : Option Addr) (n c m d : Nat) (hl : Q.ins.links.length ≤ 1000) (h1 : LkAt w B (.slice a n c) Q.ins.links) (h2 : LkAt w B' (.slice b m d) Q.ins.links) :
    Calls Tryz.prog 16 #[.agg (reqCells Q (.slice a n c)), .agg (reqCells Q (.slice b m d))] w fun e w' => e = .returned (.bool true) ∧ Below w.heap.size w w' := by
  obtain ⟨hn, hc⟩ := lk_cap h1
  obtain ⟨hm, hd⟩ := lk_cap h2
  refine eq_reqL w Q a b n c m d (Lib.hid fun W hW => ?_)
  have := ins_equal W Q.ins Q.ins a b n c m d true fun w' hw' => ?_
  · rw [insEq_refl] at this
    exact this
  · have hmn : m = n := by rw [hm, hn]
    subst hmn
    have hW' := hW.trans (hw'.mono hW.size)
    refine lk_eqSame w' a b m c d Q.ins.links hn (by omega) hc hd (Lib.hid fun hp => ?_) (Lib.hid fun hp => ?_)
    · obtain ⟨sb, e, h⟩ := lk_row h1 hp
      exact ⟨sb, e, h w' hW'⟩
    · obtain ⟨sb, e, h⟩ := lk_row h2 hp
      exact ⟨sb, e, h w' hW'⟩
end Go.Proofs.YthijakidnkhbnaaGreatDoor
