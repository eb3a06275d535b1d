/-
  Operations of a region, one by one: what they come to, read by ρ.
  message: within, first.
  A region of rules: pure operations in any order, the slice of the rules, first, the assignment.
  Frames of any length written out.
  Links: is one's reference among those before it.
-/
import Derived.Test.YthijakidnkhbnaaGreatDoorOrd
import Derived.Test.YthijakidnkhbnaaGreatDoorPsParse
import Derived.Test.YthijakidnkhbnaaGreatDoorPsPlain

namespace Go.Proofs.YthijakidnkhbnaaGreatDoor
open Go.RowKit
open Go.Proofs.YthijakidnkhbnaaGreatDoor.Ord

section
variable {S : World → Prop} {ρ : Operand → Value} {o : Oper}

theorem y_move {x : Operand} {v : Value} (ho : o.op = .move x) (h : ρ x = v) : YB Tryz.prog S ρ o v := fun w hS => by
  unfold execOp; simp only [ho, h]; exact ⟨rfl, hS⟩
theorem y_not {t : TypeId} {x : Operand} {b : Bool} (ho : o.op = .unOp .not t x) (h : ρ x = .bool b) : YB Tryz.prog S ρ o (.bool (!b)) := fun w hS => by
  unfold execOp; simp only [ho, h]; exact ⟨rfl, hS⟩
theorem y_pick {c x y : Operand} {b : Bool} {v1 v2 : Value} (ho : o.op = .pick c x y) (hc : ρ c = .bool b) (h1 : ρ x = v1) (h2 : ρ y = v2) : YB Tryz.prog S ρ o (if b = true then v1 else v2) := fun w hS => by
  unfold execOp; simp only [ho, hc, h1, h2]; cases b <;> exact ⟨rfl, hS⟩
theorem y_addr {t : TypeId} {x : Operand} {f : Nat} {p p' : Addr} (ho : o.op = .fieldAddr t x f) (h : ρ x = .pointer (some p)) (hr : ∀ w, (Instr.fieldAt t (.pointer (some p)) f).run Tryz.prog w = .ok (.pointer (some p')) w) : YB Tryz.prog S ρ o (.pointer (some p')) := fun w hS => by
  unfold execOp; simp only [ho, h, Sem.run_bind, hr, Result.andThen_ok]; exact ⟨rfl, hS⟩
theorem y_load {t : TypeId} {x : Operand} {p : Addr} {v : Value} (ho : o.op = .load t x) (h : ρ x = .pointer (some p)) (hr : ∀ w, S w → (Instr.loadAt t (.pointer (some p))).run Tryz.prog w = .ok v w) : YB Tryz.prog S ρ o v := fun w hS => by
  unfold execOp; simp only [ho, h, Sem.run_bind, hr w hS, Result.andThen_ok]; exact ⟨rfl, hS⟩
theorem y_bin {op : BinOp} {t t2 : TypeId} {x y : Operand} {v1 v2 v : Value} (ho : o.op = .binOp op t x y t2) (h1 : ρ x = v1) (h2 : ρ y = v2) (hr : ∀ w, (do eqGuard op t x y v1 v2; binOp op t v1 v2 : Sem Value).run Tryz.prog w = .ok v w) : YB Tryz.prog S ρ o v := fun w hS => by
  unfold execOp; simp only [ho, h1, h2]
  rw [Sem.run_bind, hr w]; exact ⟨rfl, hS⟩
theorem y_build {t : TypeId} {parts : Array (Nat × Operand)} {v : Value} (ho : o.op = .build t parts) (hr : ∀ w, (Instr.build t (parts.map fun (i, x) => (i, ρ x))).run Tryz.prog w = .ok v w) : YB Tryz.prog S ρ o v := fun w hS => by
  unfold execOp; simp only [ho, Sem.run_bind, hr, Result.andThen_ok]; exact ⟨rfl, hS⟩
theorem y_call {k : FuncId} {xo : Array Operand} {ts : Array TypeId} {args : Array Value} {v : Value} (ho : o.op = .call { callee := .value (.func k), args := xo, argTypes := ts }) (hf : ρ (.func k) = .func (.func k) #[] #[]) (hent : ∀ args w, (callFunc k args).run Tryz.prog w = .ok (.enter k args) w)
    (hargs : xo.map ρ = args) (h : ∀ w, S w → Calls Tryz.prog k args w fun e w' => e = .returned v ∧ S w') : YB Tryz.prog S ρ o v := fun w hS => by
  unfold execOp
  simp [ho, resolve, invoke, hf, hargs, Deferred.ofValue, hent]
  exact h w hS
end

section
variable {S : World → Prop} {ρ : Operand → Value} {o : Oper} {vs : List Value}
theorem y_un {v : Value} (hg : o.guard = none) (h : YB Tryz.prog S ρ o v) : YV Tryz.prog S ρ vs o v := by
  unfold YV wantV
  rw [hg]
  exact ⟨fun _ => h, fun h => by cases h⟩
theorem y_gT {j : Nat} {x : Bool} {X : Value} (hg : o.guard = some (j, true)) (hj : vs[j]? = some (.bool x)) (h : x = true → YB Tryz.prog S ρ o X) : YV Tryz.prog S ρ vs o (if x = true then X else undef) := by
  unfold YV wantV
  simp only [hg, hj]
  cases x
  · exact ⟨fun h => (by cases h), fun _ => rfl⟩
  · exact ⟨fun _ => h rfl, fun h => by cases h⟩
theorem y_gF {j : Nat} {x : Bool} {X : Value} (hg : o.guard = some (j, false)) (hj : vs[j]? = some (.bool x)) (h : (!x) = true → YB Tryz.prog S ρ o X) : YV Tryz.prog S ρ vs o (if (!x) = true then X else undef) := by
  unfold YV wantV
  simp only [hg, hj]
  cases x
  · exact ⟨fun _ => h rfl, fun h => by cases h⟩
  · exact ⟨fun h => (by cases h), fun _ => rfl⟩
theorem y_gTT {j : Nat} {G x : Bool} {X : Value} (hg : o.guard = some (j, true)) (hj : vs[j]? = some (if G = true then .bool x else undef)) (h : (G && x) = true → YB Tryz.prog S ρ o X) : YV Tryz.prog S ρ vs o (if (G && x) = true then X else undef) := by
  unfold YV wantV
  simp only [hg, hj]
  cases G <;> cases x
  · exact ⟨fun h => (by cases h), fun _ => rfl⟩
  · exact ⟨fun h => (by cases h), fun _ => rfl⟩
  · exact ⟨fun h => (by cases h), fun _ => rfl⟩
  · exact ⟨fun _ => h rfl, fun h => by cases h⟩
theorem y_gTF {j : Nat} {G x : Bool} {X : Value} (hg : o.guard = some (j, false)) (hj : vs[j]? = some (if G = true then .bool x else undef)) (h : (G && !x) = true → YB Tryz.prog S ρ o X) : YV Tryz.prog S ρ vs o (if (G && !x) = true then X else undef) := by
  unfold YV wantV
  simp only [hg, hj]
  cases G <;> cases x
  · exact ⟨fun h => (by cases h), fun _ => rfl⟩
  · exact ⟨fun h => (by cases h), fun _ => rfl⟩
  · exact ⟨fun _ => h rfl, fun h => by cases h⟩
  · exact ⟨fun h => (by cases h), fun _ => rfl⟩
theorem y_and {c x y : Operand} {b v : Bool} (ho : o.op = .pick c x y) (hc : ρ c = .bool b) (hx : ρ x = if b = true then .bool v else undef) (hy : ρ y = .bool false) : YB Tryz.prog S ρ o (.bool (b && v)) := by
  have := y_pick (S := S) ho hc hx hy
  cases b
  · exact this
  · exact this
theorem y_or {c x y : Operand} {b v : Bool} (ho : o.op = .pick c x y) (hc : ρ c = .bool b) (hx : ρ x = .bool true) (hy : ρ y = if (!b) = true then .bool v else undef) : YB Tryz.prog S ρ o (.bool (b || v)) := by
  have := y_pick (S := S) ho hc hx hy
  cases b
  · exact this
  · exact this
theorem pos_of {G : Bool} {x : Operand} {X : Value} (e : ρ x = if G = true then X else undef) (h : G = true) : ρ x = X := by rw [e, if_pos h]
theorem sub_of {G b : Bool} {x : Operand} {X : Value} (e : ρ x = if (G && b) = true then X else undef) (h : G = true) : ρ x = if b = true then X else undef := by rw [e, h, Bool.true_and]
end

theorem ld_int (p : Addr) (w : World) (v : Int) (h : w.cell? p = some (.int .i64 v)) : (Instr.loadAt 3 (.pointer (some p))).run Tryz.prog w = .ok (.int .i64 v) w := by go_simp
theorem ld_str (p : Addr) (w : World) (v : ByteArray) (h : w.cell? p = some (.string v)) : (Instr.loadAt 9 (.pointer (some p))).run Tryz.prog w = .ok (.string v) w := by go_simp
theorem bd_rule (ρ : Operand → Value) (x : Operand) (b : Bool) (n : Int) (hx : ρ x = .bool b) (hc : ρ (.const (.int .i64 n)) = .int .i64 n) : ∀ w, (Instr.build 110 (#[(0, x), (1, .const (.int .i64 n))].map fun (i, x) => (i, ρ x))).run Tryz.prog w = .ok (.agg #[.bool b, .int .i64 n]) w := fun w => by
  go_simp

end Go.Proofs.YthijakidnkhbnaaGreatDoor

namespace Go.Proofs.YthijakidnkhbnaaGreatDoor
open Go.RowKit

set_option maxRecDepth 100000 in
set_option maxHeartbeats 400000 in
theorem ck_withinL (w : World) (n lo hi : Int) (b1 b2 : Bool) (h1 : decide (lo ≤ n) = b1) (h2 : decide (n ≤ hi) = b2) :
    Calls Tryz.prog 64 #[.int .i64 n, .int .i64 lo, .int .i64 hi] w fun e w' => e = .returned (.bool (b1 && b2)) ∧ w = w' := by
  cases b1
  all_goals cases b2
  all_goals simp only [decide_eq_true_eq, decide_eq_false_iff_not] at h1 h2
  all_goals
    go_enter Tryz.func64, Tryz.ntmps64
    go_wp2_with fail
    go_ret
    exact ⟨rfl, rfl⟩
set_option maxRecDepth 100000 in
set_option maxHeartbeats 400000 in
theorem ck_within64L (w : World) (n lo hi : Int) (b1 b2 : Bool) (h1 : decide (lo ≤ n) = b1) (h2 : decide (n ≤ hi) = b2) :
    Calls Tryz.prog 106 #[.int .i64 n, .int .i64 lo, .int .i64 hi] w fun e w' => e = .returned (.bool (b1 && b2)) ∧ w = w' := by
  cases b1
  all_goals cases b2
  all_goals simp only [decide_eq_true_eq, decide_eq_false_iff_not] at h1 h2
  all_goals
    go_enter Tryz.func106, Tryz.ntmps106
    go_wp2_with fail
    go_ret
    exact ⟨rfl, rfl⟩
/-- from lo to hi -/
def inB (n lo hi : Int) : Bool := decide (lo ≤ n) && decide (n ≤ hi)
theorem ck_within (w : World) (n lo hi : Int) : Calls Tryz.prog 64 #[.int .i64 n, .int .i64 lo, .int .i64 hi] w fun e w' => e = .returned (.bool (inB n lo hi)) ∧ w = w' := ck_withinL w n lo hi _ _ rfl rfl
theorem ck_within64 (w : World) (n lo hi : Int) : Calls Tryz.prog 106 #[.int .i64 n, .int .i64 lo, .int .i64 hi] w fun e w' => e = .returned (.bool (inB n lo hi)) ∧ w = w' := ck_within64L w n lo hi _ _ rfl rfl

theorem ck_withinB (w : World) (n lo hi : Int) : Calls Tryz.prog 64 #[.int .i64 n, .int .i64 lo, .int .i64 hi] w fun e w' => e = .returned (.bool (inB n lo hi)) ∧ Below w.heap.size w w' := (ck_within w n lo hi).mono fun _e _w' ⟨h1, h2⟩ => ⟨h1, h2 ▸ Below.refl _ _⟩
theorem ck_within64B (w : World) (n lo hi : Int) : Calls Tryz.prog 106 #[.int .i64 n, .int .i64 lo, .int .i64 hi] w fun e w' => e = .returned (.bool (inB n lo hi)) ∧ Below w.heap.size w w' := (ck_within64 w n lo hi).mono fun _e _w' ⟨h1, h2⟩ => ⟨h1, h2 ▸ Below.refl _ _⟩

set_option maxRecDepth 100000 in
set_option maxHeartbeats 400000 in
theorem ck_broken (w : World) (b : Bool) (n : Int) : Calls Tryz.prog 100 #[.agg #[.bool b, .int .i64 n]] w fun e w' => e = .returned (.bool b) ∧ Below w.heap.size w w' := by
  go_enter Tryz.func100, Tryz.ntmps100
  go_wp2_with fail
  go_ret
  exact ⟨rfl, (Below.refl _ _).alloc (Nat.le_refl _) _⟩

def rsCells (rs : List (Bool × Int)) : List Value := rs.flatMap fun x => [.bool x.1, .int .i64 x.2]
/-- the error of the first broken rule -/
def firstE : List (Bool × Int) → Int
  | [] => 0
  | x :: rs => if x.1 = true then x.2 else firstE rs
theorem rs_at : ∀ (rs : List (Bool × Int)) (j : Nat) (x : Bool × Int), rs[j]? = some x → (rsCells rs)[j * 2]? = some (.bool x.1) ∧ (rsCells rs)[j * 2 + 1]? = some (.int .i64 x.2)
  | [], j, x, h => by simp at h
  | y :: rs, 0, x, h => by
    obtain rfl : y = x := by simpa using h
    exact ⟨rfl, rfl⟩
  | y :: rs, j + 1, x, h => by
    have ih := rs_at rs j x (by simpa using h)
    rw [show (j + 1) * 2 = j * 2 + 1 + 1 from by omega]
    exact ih

set_option maxRecDepth 100000 in
set_option maxHeartbeats 1000000 in
theorem ck_index (W : World) (g cap : Nat) (rs : List (Bool × Int)) (t : TypeId) (hrow : W.heap[g]? = some (.cells (rsCells rs).toArray t (0, 0))) (_hc : rs.length ≤ cap) (hl : rs.length ≤ 1000) (m : Nat) (hm : m ≤ rs.length) (hlow : Hid (∀ j x, j < m → rs[j]? = some x → x.1 = false))
    (v : Int) (hv : Hid ((m < rs.length → (∃ e, rs[m]? = some (true, e)) ∧ v = (m : Int)) ∧ (m = rs.length → v = -1))) :
    Calls Tryz.prog 99 #[.slice (some ⟨g, 0, none⟩) rs.length cap, .func (.func 100) #[] #[]] W fun e W' => e = .returned (.int .i64 v) ∧ Below W.heap.size W W' := by
  have eg := enters_of Tryz.func100 (by kernel_rfl) rfl
  have HR := Lib.hid hrow
  clear hrow
  go_enter Tryz.func99, Tryz.ntmps99
  go_wp2_with fail
  go_loopw [5, 8] (fun _ iv wr => ∃ j : Nat, iv = .int .i64 j ∧ j ≤ m ∧ Hid (Below W.heap.size W wr)) (fun _ iv _ => 2000 - (RowKit.intOf iv).toNat)
  case atStart => exact ⟨0, rfl, Nat.zero_le _, Lib.hid (Below.refl _ _)⟩
  case round =>
    obtain ⟨j, rfl, hj, HB⟩ := hrel
    by_cases hlt : j < rs.length
    · obtain ⟨x, hx⟩ : ∃ x, rs[j]? = some x := ⟨_, List.getElem?_eq_getElem hlt⟩
      obtain ⟨b, n⟩ := x
      have hr2 : wr.heap[g]? = some (.cells (rsCells rs).toArray t (0, 0)) := (HB.out.block g (Array.getElem?_eq_some_iff.1 HR.out).1).trans HR.out
      have y0 : wr.cell? ⟨g, j * 2, none⟩ = some (.bool b) := by rw [cell_of_row _ _ _ _ _ _ hr2, List.getElem?_toArray]; exact (rs_at rs j _ hx).1
      have y1 : wr.cell? ⟨g, j * 2 + 1, none⟩ = some (.int .i64 n) := by rw [cell_of_row _ _ _ _ _ _ hr2, List.getElem?_toArray]; exact (rs_at rs j _ hx).2
      have hltI : (j : Int) < (rs.length : Int) := by omega
      have m1 := ck_broken wr b n
      clear hr2
      by_cases hjm : j < m
      · have hbf := hlow.out j _ hjm hx
        simp only at hbf
        subst hbf
        have hw1 : wrap64 ((j : Int) + 1) = ((j + 1 : Nat) : Int) := by unfold wrap64; omega
        clear hx hlow hv
        go_wp2_with ((first | go_at_fn 100 | go_at_call 100); refine m1.mono ?_; rintro e w1 ⟨rfl, hb⟩; have HB2 := Lib.hid (HB.out.trans (hb.mono HB.out.size)); clear hb)
        refine ⟨⟨j + 1, by first | rfl | go_num, by omega, HB2⟩, by simp [RowKit.intOf] <;> omega⟩
      · obtain rfl : j = m := by omega
        obtain ⟨⟨e0, he0⟩, hve⟩ := hv.out.1 hlt
        rw [hx] at he0
        cases he0
        subst hve
        clear hx hlow hv
        go_wp2_with ((first | go_at_fn 100 | go_at_call 100); refine m1.mono ?_; rintro e w1 ⟨rfl, hb⟩; have HB2 := Lib.hid (HB.out.trans (hb.mono HB.out.size)); clear hb)
        go_ret
        exact ⟨rfl, HB2.out⟩
    · have hje : j = rs.length := by omega
      have hve := hv.out.2 (by omega)
      subst hve
      have hltI : ¬ (j : Int) < (rs.length : Int) := by omega
      clear hlow hv
      go_wp2_with fail
      go_ret
      exact ⟨rfl, HB.out⟩

set_option maxRecDepth 100000 in
set_option maxHeartbeats 400000 in
theorem ck_firstYes (W : World) (g cap k m : Nat) (n : Int) (_hm : m < k) (hmI : (m : Int) < (k : Int)) (_hc : k ≤ cap) (_hl : k ≤ 1000)
    (n1 : Calls Tryz.prog 99 #[.slice (some ⟨g, 0, none⟩) k cap, .func (.func 100) #[] #[]] W fun e W' => e = .returned (.int .i64 m) ∧ W'.cell? ⟨g, m * 2 + 1, none⟩ = some (.int .i64 n) ∧ Below W.heap.size W W') :
    Calls Tryz.prog 63 #[.slice (some ⟨g, 0, none⟩) k cap] W fun e W' => e = .returned (.int .i64 n) ∧ Below W.heap.size W W' := by
  go_enter Tryz.func63, Tryz.ntmps63
  go_wp2_with fail
  refine n1.mono ?_
  rintro e w ⟨rfl, hc2, hb⟩
  have HB := Lib.hid hb
  clear n1 hb
  go_wp2_with fail
  go_ret
  exact ⟨rfl, HB.out⟩
set_option maxRecDepth 100000 in
set_option maxHeartbeats 400000 in
theorem ck_firstNo (W : World) (v : Value)
    (n1 : Calls Tryz.prog 99 #[v, .func (.func 100) #[] #[]] W fun e W' => e = .returned (.int .i64 (-1)) ∧ Below W.heap.size W W') :
    Calls Tryz.prog 63 #[v] W fun e W' => e = .returned (.int .i64 0) ∧ Below W.heap.size W W' := by
  go_enter Tryz.func63, Tryz.ntmps63
  go_wp2_with fail
  refine n1.mono ?_
  rintro e w ⟨rfl, hb⟩
  have HB := Lib.hid hb
  clear n1 hb
  go_wp2_with fail
  go_ret
  exact ⟨rfl, HB.out⟩

theorem firstE_split : ∀ rs : List (Bool × Int), ∃ m, m ≤ rs.length ∧ (∀ (j : Nat) (x : Bool × Int), j < m → rs[j]? = some x → x.1 = false) ∧ ((m < rs.length ∧ ∃ e, rs[m]? = some (true, e) ∧ firstE rs = e) ∨ (m = rs.length ∧ firstE rs = 0))
  | [] => ⟨0, Nat.le_refl _, fun j x h => by omega, .inr ⟨rfl, rfl⟩⟩
  | (b, n) :: rs => by
    cases b with
    | true => exact ⟨0, Nat.zero_le _, fun j x h => by omega, .inl ⟨by simp, n, rfl, rfl⟩⟩
    | false =>
      obtain ⟨m, h1, h2, h3⟩ := firstE_split rs
      refine ⟨m + 1, by simpa using h1, fun j x hj hx => ?_, ?_⟩
      · cases j with
        | zero => simp at hx; rw [← hx]
        | succ j => exact h2 j x (by omega) (by simpa using hx)
      · rcases h3 with ⟨h4, e, h5, h6⟩ | ⟨h4, h5⟩
        · exact .inl ⟨by simpa using h4, e, by simpa using h5, by simpa [firstE] using h6⟩
        · exact .inr ⟨by simpa using h4, by simpa [firstE] using h5⟩

theorem ck_first (W : World) (g cap : Nat) (rs : List (Bool × Int)) (t : TypeId) (hrow : W.heap[g]? = some (.cells (rsCells rs).toArray t (0, 0))) (hc : rs.length ≤ cap) (hl : rs.length ≤ 1000) :
    Calls Tryz.prog 63 #[.slice (some ⟨g, 0, none⟩) rs.length cap] W fun e W' => e = .returned (.int .i64 (firstE rs)) ∧ Below W.heap.size W W' := by
  obtain ⟨m, h1, h2, h3⟩ := firstE_split rs
  rcases h3 with ⟨h4, e, h5, h6⟩ | ⟨h4, h5⟩
  · rw [h6]
    refine ck_firstYes W g cap rs.length m e h4 (by omega) hc hl ((ck_index W g cap rs t hrow hc hl m h1 (Lib.hid h2) m (Lib.hid ⟨fun _ => ⟨⟨e, h5⟩, rfl⟩, fun h => by omega⟩)).mono ?_)
    rintro x w ⟨rfl, hb⟩
    have hr2 : w.heap[g]? = some (.cells (rsCells rs).toArray t (0, 0)) := (hb.block g (Array.getElem?_eq_some_iff.1 hrow).1).trans hrow
    exact ⟨rfl, by rw [cell_of_row _ _ _ _ _ _ hr2, List.getElem?_toArray]; exact (rs_at rs m _ h5).2, hb⟩
  · rw [h5]
    exact ck_firstNo W _ (ck_index W g cap rs t hrow hc hl m h1 (Lib.hid h2) (-1) (Lib.hid ⟨fun h => by omega, fun _ => rfl⟩))

end Go.Proofs.YthijakidnkhbnaaGreatDoor

namespace Go.Proofs.YthijakidnkhbnaaGreatDoor
open Go.RowKit
open Go.Proofs.YthijakidnkhbnaaGreatDoor.Ord

theorem ent57 : ∀ args w, (callFunc 64 args).run Tryz.prog w = .ok (.enter 64 args) w := enters_of Tryz.func64 (by kernel_rfl) rfl
theorem ent58 : ∀ args w, (callFunc 65 args).run Tryz.prog w = .ok (.enter 65 args) w := enters_of Tryz.func65 (by kernel_rfl) rfl
theorem ent56 : ∀ args w, (callFunc 63 args).run Tryz.prog w = .ok (.enter 63 args) w := enters_of Tryz.func63 (by kernel_rfl) rfl
theorem ent108 : ∀ args w, (callFunc 105 args).run Tryz.prog w = .ok (.enter 105 args) w := enters_of Tryz.func105 (by kernel_rfl) rfl
theorem ent101 : ∀ args w, (callFunc 83 args).run Tryz.prog w = .ok (.enter 83 args) w := enters_of Tryz.func83 (by kernel_rfl) rfl
theorem ent105 : ∀ args w, (callFunc 102 args).run Tryz.prog w = .ok (.enter 102 args) w := enters_of Tryz.func102 (by kernel_rfl) rfl
theorem ent106 : ∀ args w, (callFunc 103 args).run Tryz.prog w = .ok (.enter 103 args) w := enters_of Tryz.func103 (by kernel_rfl) rfl
theorem ent107 : ∀ args w, (callFunc 104 args).run Tryz.prog w = .ok (.enter 104 args) w := enters_of Tryz.func104 (by kernel_rfl) rfl
theorem ent109 : ∀ args w, (callFunc 106 args).run Tryz.prog w = .ok (.enter 106 args) w := enters_of Tryz.func106 (by kernel_rfl) rfl
theorem ent110 : ∀ args w, (callFunc 107 args).run Tryz.prog w = .ok (.enter 107 args) w := enters_of Tryz.func107 (by kernel_rfl) rfl
theorem ent111 : ∀ args w, (callFunc 108 args).run Tryz.prog w = .ok (.enter 108 args) w := enters_of Tryz.func108 (by kernel_rfl) rfl

section
variable {P : Program} {ops : Array Oper} {Q : Exit → Act → World → Prop}
theorem ops_step {i : Nat} {rest : List Nat} {o : Oper} {a : Act} {w : World} (hi : ops[i]? = some o) (hg : o.guard = none) (h : o.wp P a w (wpOps P ops Q rest) Q) : wpOps P ops Q (i :: rest) a w := by
  rw [wpOps_cons]
  unfold wpOp
  simp only [hi, Region.wanted, hg, if_true]
  exact .inl h
theorem wl_load {rest : List Oper} {o : Oper} {a : Act} {w : World} {t : TypeId} {x : Operand} {v u : Value} {d : Nat} (hg : o.guard = none) (hd : o.dst = some d) (ho : o.op = .load t x) (hx : a.eval x = v) (hr : (Instr.loadAt t v).run P w = .ok u w) (h : wpList P ops Q rest ⟨a.tmps.setIfInBounds d u, a.defers⟩ w) : wpList P ops Q (o :: rest) a w := by
  refine wpList_plain hg fun K hK => ?_
  unfold Oper.wp execOp
  rw [ho]
  simp only [hx, Sem.run_bind, hr, Result.andThen_ok]
  refine hK _ _ ?_
  rw [hd]
  exact h
theorem wl_addr {rest : List Oper} {o : Oper} {a : Act} {w : World} {t : TypeId} {x : Operand} {f : Nat} {v u : Value} {d : Nat} (hg : o.guard = none) (hd : o.dst = some d) (ho : o.op = .fieldAddr t x f) (hx : a.eval x = v) (hr : (Instr.fieldAt t v f).run P w = .ok u w) (h : wpList P ops Q rest ⟨a.tmps.setIfInBounds d u, a.defers⟩ w) : wpList P ops Q (o :: rest) a w := by
  refine wpList_plain hg fun K hK => ?_
  unfold Oper.wp execOp
  rw [ho]
  simp only [hx, Sem.run_bind, hr, Result.andThen_ok]
  refine hK _ _ ?_
  rw [hd]
  exact h
theorem wl_val {rest : List Oper} {o : Oper} {a : Act} {w : World} {u : Value} {d : Nat} (hg : o.guard = none) (hd : o.dst = some d) (hr : (execOp a.eval o).run P w = .ok (.value u) w) (h : wpList P ops Q rest ⟨a.tmps.setIfInBounds d u, a.defers⟩ w) : wpList P ops Q (o :: rest) a w := by
  refine wpList_plain hg fun K hK => ?_
  unfold Oper.wp
  rw [hr]
  refine hK _ _ ?_
  rw [hd]
  exact h
theorem wl_bin {rest : List Oper} {o : Oper} {a : Act} {w : World} {op : BinOp} {t t2 : TypeId} {x y : Operand} {v1 v2 u : Value} {d : Nat} (hg : o.guard = none) (hd : o.dst = some d) (ho : o.op = .binOp op t x y t2) (h1 : a.eval x = v1) (h2 : a.eval y = v2) (hr : (do eqGuard op t x y v1 v2; binOp op t v1 v2 : Sem Value).run P w = .ok u w) (h : wpList P ops Q rest ⟨a.tmps.setIfInBounds d u, a.defers⟩ w) : wpList P ops Q (o :: rest) a w := by
  refine wl_val hg hd ?_ h
  unfold execOp
  simp only [ho, h1, h2]
  rw [Sem.run_bind, hr]
  rfl
theorem wl_build {rest : List Oper} {o : Oper} {a : Act} {w : World} {t : TypeId} {parts : Array (Nat × Operand)} {u : Value} {d : Nat} (hg : o.guard = none) (hd : o.dst = some d) (ho : o.op = .build t parts) (hr : (Instr.build t (parts.map fun (i, x) => (i, a.eval x))).run P w = .ok u w) (h : wpList P ops Q rest ⟨a.tmps.setIfInBounds d u, a.defers⟩ w) : wpList P ops Q (o :: rest) a w := by
  refine wl_val hg hd ?_ h
  unfold execOp
  simp only [ho, Sem.run_bind, hr, Result.andThen_ok]
  rfl
theorem eval_put {b : Act} {d : Nat} {v : Value} (hd : d < b.tmps.size) : (b.put (some d) v).eval (.tmp d) = v := by
  show (b.tmps.setIfInBounds d v).getD d undef = v
  simp [hd]
end

/-! ### loads, comparisons -/
theorem ld_i64 (p : Addr) (w : World) (v : Int) (h : w.cell? p = some (.int .i64 v)) : (Instr.loadAt 2 (.pointer (some p))).run Tryz.prog w = .ok (.int .i64 v) w := by go_simp
theorem ld_bool (p : Addr) (w : World) (v : Bool) (h : w.cell? p = some (.bool v)) : (Instr.loadAt 4 (.pointer (some p))).run Tryz.prog w = .ok (.bool v) w := by go_simp
theorem ld_sl (p : Addr) (w : World) (a : Option Addr) (n c : Nat) (h : w.cell? p = some (.slice a n c)) : (Instr.loadAt 23 (.pointer (some p))).run Tryz.prog w = .ok (.slice a n c) w := by go_simp
section
variable (x y : Operand) (n m : Int) (s t : ByteArray) (w : World)
theorem cm_ne3 : (do eqGuard .neq 3 x y (.int .i64 n) (.int .i64 m); binOp .neq 3 (.int .i64 n) (.int .i64 m) : Sem Value).run Tryz.prog w = .ok (.bool (n != m)) w := by go_simp
theorem cm_ne2 : (do eqGuard .neq 2 x y (.int .i64 n) (.int .i64 m); binOp .neq 2 (.int .i64 n) (.int .i64 m) : Sem Value).run Tryz.prog w = .ok (.bool (n != m)) w := by go_simp
theorem cm_eq3 : (do eqGuard .eql 3 x y (.int .i64 n) (.int .i64 m); binOp .eql 3 (.int .i64 n) (.int .i64 m) : Sem Value).run Tryz.prog w = .ok (.bool (n == m)) w := by go_simp
theorem cm_eq2 : (do eqGuard .eql 2 x y (.int .i64 n) (.int .i64 m); binOp .eql 2 (.int .i64 n) (.int .i64 m) : Sem Value).run Tryz.prog w = .ok (.bool (n == m)) w := by go_simp
theorem cm_eqB (a b : Bool) (w : World) : (do eqGuard .eql 4 x y (.bool a) (.bool b); binOp .eql 4 (.bool a) (.bool b) : Sem Value).run Tryz.prog w = .ok (.bool (a == b)) w := by go_simp
theorem cm_lt2 : (do eqGuard .lss 2 x y (.int .i64 n) (.int .i64 m); binOp .lss 2 (.int .i64 n) (.int .i64 m) : Sem Value).run Tryz.prog w = .ok (.bool (decide (n < m))) w := by go_simp
theorem cm_gt3 : (do eqGuard .gtr 3 x y (.int .i64 n) (.int .i64 m); binOp .gtr 3 (.int .i64 n) (.int .i64 m) : Sem Value).run Tryz.prog w = .ok (.bool (decide (m < n))) w := by go_simp
theorem cm_eqS : (do eqGuard .eql 9 x y (.string s) (.string t); binOp .eql 9 (.string s) (.string t) : Sem Value).run Tryz.prog w = .ok (.bool (s.toList == t.toList)) w := by go_simp
theorem cm_neS : (do eqGuard .neq 9 x y (.string s) (.string t); binOp .neq 9 (.string s) (.string t) : Sem Value).run Tryz.prog w = .ok (.bool (!(s.toList == t.toList))) w := by go_simp
end
theorem y_len {S : World → Prop} {ρ : Operand → Value} {o : Oper} {x : Operand} {a : Option Addr} {n c : Nat} (ho : o.op = .call { callee := .builtin .len, args := #[x], argTypes := #[23] }) (ht : o.type = 3) (h : ρ x = .slice a n c) : YB Tryz.prog S ρ o (.int .i64 n) := fun w hS => by
  unfold execOp
  simp only [ho, ht]
  go_simp
  exact ⟨rfl, hS⟩

/-! ### parts of a request -/
set_option maxRecDepth 100000 in
theorem rq_ins (g : Nat) (Q : Ps.Req) (a : Option Addr) (n c : Nat) (w : World) (h : w.heap[g]? = some (.cells (reqCells Q (.slice a n c)) 29 (0, 0))) : (Instr.loadAt 25 (.pointer (some ⟨g, 3, none⟩))).run Tryz.prog w = .ok (.agg (insCells Q.ins (.slice a n c)).toArray) w := by
  have k0 : w.cell? ⟨g, 3, none⟩ = some (.string Q.ins.ref) := by rw [cell_of_row _ _ _ _ _ _ h]; rfl
  have k1 : w.cell? ⟨g, 4, none⟩ = some (.int .i64 Q.ins.kind) := by rw [cell_of_row _ _ _ _ _ _ h]; rfl
  have k2 : w.cell? ⟨g, 5, none⟩ = some (.string Q.ins.sender) := by rw [cell_of_row _ _ _ _ _ _ h]; rfl
  have k3 : w.cell? ⟨g, 6, none⟩ = some (.string Q.ins.counterparty) := by rw [cell_of_row _ _ _ _ _ _ h]; rfl
  have k4 : w.cell? ⟨g, 7, none⟩ = some (.int .i64 Q.ins.side) := by rw [cell_of_row _ _ _ _ _ _ h]; rfl
  have k5 : w.cell? ⟨g, 8, none⟩ = some (.string Q.ins.asset) := by rw [cell_of_row _ _ _ _ _ _ h]; rfl
  have k6 : w.cell? ⟨g, 9, none⟩ = some (.int .i64 Q.ins.quantity) := by rw [cell_of_row _ _ _ _ _ _ h]; rfl
  have k7 : w.cell? ⟨g, 10, none⟩ = some (.int .i64 Q.ins.amount) := by rw [cell_of_row _ _ _ _ _ _ h]; rfl
  have k8 : w.cell? ⟨g, 11, none⟩ = some (.int .i64 Q.ins.tradeDay) := by rw [cell_of_row _ _ _ _ _ _ h]; rfl
  have k9 : w.cell? ⟨g, 12, none⟩ = some (.int .i64 Q.ins.settleDay) := by rw [cell_of_row _ _ _ _ _ _ h]; rfl
  have k10 : w.cell? ⟨g, 13, none⟩ = some (.int .i64 Q.ins.priority) := by rw [cell_of_row _ _ _ _ _ _ h]; rfl
  have k11 : w.cell? ⟨g, 14, none⟩ = some (.bool Q.ins.partial_) := by rw [cell_of_row _ _ _ _ _ _ h]; rfl
  have k12 : w.cell? ⟨g, 15, none⟩ = some (.int .i64 Q.ins.minLot) := by rw [cell_of_row _ _ _ _ _ _ h]; rfl
  have k13 : w.cell? ⟨g, 16, none⟩ = some (.bool Q.ins.hold) := by rw [cell_of_row _ _ _ _ _ _ h]; rfl
  have k14 : w.cell? ⟨g, 17, none⟩ = some (.bool Q.ins.reserve) := by rw [cell_of_row _ _ _ _ _ _ h]; rfl
  have k15 : w.cell? ⟨g, 18, none⟩ = some (.slice a n c) := by rw [cell_of_row _ _ _ _ _ _ h]; rfl
  clear h
  go_simp
  rfl
set_option maxRecDepth 100000 in
theorem rq_amd (g : Nat) (Q : Ps.Req) (lv : Value) (w : World) (h : w.heap[g]? = some (.cells (reqCells Q lv) 29 (0, 0))) : (Instr.loadAt 27 (.pointer (some ⟨g, 19, none⟩))).run Tryz.prog w = .ok (.agg (amdCells Q.amd).toArray) w := by
  have k0 : w.cell? ⟨g, 19, none⟩ = some (.bool Q.amd.hasAmount) := by rw [cell_of_row _ _ _ _ _ _ h]; rfl
  have k1 : w.cell? ⟨g, 20, none⟩ = some (.bool Q.amd.hasSettleDay) := by rw [cell_of_row _ _ _ _ _ _ h]; rfl
  have k2 : w.cell? ⟨g, 21, none⟩ = some (.bool Q.amd.hasPriority) := by rw [cell_of_row _ _ _ _ _ _ h]; rfl
  have k3 : w.cell? ⟨g, 22, none⟩ = some (.bool Q.amd.hasPartial) := by rw [cell_of_row _ _ _ _ _ _ h]; rfl
  have k4 : w.cell? ⟨g, 23, none⟩ = some (.int .i64 Q.amd.amount) := by rw [cell_of_row _ _ _ _ _ _ h]; rfl
  have k5 : w.cell? ⟨g, 24, none⟩ = some (.int .i64 Q.amd.settleDay) := by rw [cell_of_row _ _ _ _ _ _ h]; rfl
  have k6 : w.cell? ⟨g, 25, none⟩ = some (.int .i64 Q.amd.priority) := by rw [cell_of_row _ _ _ _ _ _ h]; rfl
  have k7 : w.cell? ⟨g, 26, none⟩ = some (.bool Q.amd.partial_) := by rw [cell_of_row _ _ _ _ _ _ h]; rfl
  have k8 : w.cell? ⟨g, 27, none⟩ = some (.int .i64 Q.amd.minLot) := by rw [cell_of_row _ _ _ _ _ _ h]; rfl
  clear h
  go_simp
  rfl
theorem rq_cells (g : Nat) (Q : Ps.Req) (lv : Value) (w : World) (h : w.heap[g]? = some (.cells (reqCells Q lv) 29 (0, 0))) :
    w.cell? ⟨g, 0, none⟩ = some (.int .i64 Q.op) ∧ w.cell? ⟨g, 1, none⟩ = some (.string Q.sender) ∧ w.cell? ⟨g, 2, none⟩ = some (.string Q.ref) ∧ w.cell? ⟨g, 3, none⟩ = some (.string Q.ins.ref) ∧ w.cell? ⟨g, 5, none⟩ = some (.string Q.ins.sender) := by
  refine ⟨?_, ?_, ?_, ?_, ?_⟩
  all_goals
    rw [cell_of_row _ _ _ _ _ _ h]
    rfl
set_option maxRecDepth 100000 in
theorem bd27 (ρ : Operand → Value) (w : World) : (Instr.build 27 ((#[] : Array (Nat × Operand)).map fun (i, x) => (i, ρ x))).run Tryz.prog w = .ok (.agg (amdCells {}).toArray) w := by
  go_simp
  rfl
set_option maxRecDepth 100000 in
theorem bd25 (ρ : Operand → Value) (w : World) : (Instr.build 25 ((#[] : Array (Nat × Operand)).map fun (i, x) => (i, ρ x))).run Tryz.prog w = .ok (.agg (insCells {} (.slice none 0 0)).toArray) w := by
  go_simp
  rfl
set_option maxRecDepth 100000 in
theorem ne27 (A : Ps.Amd) (x y : Operand) (w : World) : (do eqGuard .neq 27 x y (.agg (amdCells A).toArray) (.agg (amdCells {}).toArray); binOp .neq 27 (.agg (amdCells A).toArray) (.agg (amdCells {}).toArray) : Sem Value).run Tryz.prog w = .ok (.bool (!decide A.none)) w := by
  unfold amdCells
  go_simp
  repeat' split
  all_goals simp_all [Ps.Amd.none]

theorem ally_lit {P : Program} {S : World → Prop} {ρ : Operand → Value} {vs vs2 : List Value} {l : List Oper} (h : vs = vs2) (h2 : AllY P S ρ vs l vs2) : AllY P S ρ vs l vs := by
  rw [← h] at h2; exact h2
theorem alld_lit {ρ : Operand → Value} {vs vs2 : List Value} {l : List Oper} (h : vs = vs2) (h2 : AllD ρ l vs) : AllD ρ l vs2 := by
  rw [h] at h2; exact h2
theorem callB {k : FuncId} {args : Array Value} {v : Value} {W0 W1 : World} (hB : Below W0.heap.size W0 W1) (h : ∀ w, Below W0.heap.size W0 w → Calls Tryz.prog k args w fun e w' => e = .returned v ∧ Below w.heap.size w w') : ∀ w, Below W1.heap.size W1 w → Calls Tryz.prog k args w fun e w' => e = .returned v ∧ Below W1.heap.size W1 w' := fun w hS =>
  (h w (hB.trans (hS.mono hB.size))).mono fun _e _w' ⟨h1, h2⟩ => ⟨h1, hS.trans (h2.mono hS.size)⟩

theorem callE {k : FuncId} {args : Array Value} {e b : Bool} {W0 : World} (he : e = b) (h : ∀ w, Below W0.heap.size W0 w → Calls Tryz.prog k args w fun x w' => x = .returned (.bool e) ∧ Below W0.heap.size W0 w') : ∀ w, Below W0.heap.size W0 w → Calls Tryz.prog k args w fun x w' => x = .returned (.bool b) ∧ Below W0.heap.size W0 w' := by
  subst he; exact h
theorem cmE {e b : Bool} {s : Sem Value} (he : e = b) (h : ∀ w, s.run Tryz.prog w = .ok (.bool e) w) : ∀ w, s.run Tryz.prog w = .ok (.bool b) w := by
  subst he; exact h
theorem y_andE {S : World → Prop} {ρ : Operand → Value} {o : Oper} {c x y : Operand} {b v p : Bool} (hp : (b && v) = p) (ho : o.op = .pick c x y) (hc : ρ c = .bool b) (hx : ρ x = if b = true then .bool v else undef) (hy : ρ y = .bool false) : YB Tryz.prog S ρ o (.bool p) := by
  subst hp; exact y_and ho hc hx hy
theorem y_orE {S : World → Prop} {ρ : Operand → Value} {o : Oper} {c x y : Operand} {b v p : Bool} (hp : (b || v) = p) (ho : o.op = .pick c x y) (hc : ρ c = .bool b) (hx : ρ x = .bool true) (hy : ρ y = if (!b) = true then .bool v else undef) : YB Tryz.prog S ρ o (.bool p) := by
  subst hp; exact y_or ho hc hx hy

theorem wp_rules {ops : Array Oper} {id : Nat} {a : Act} {w W0 : World} {Q : Exit → Act → World → Prop} (n : Nat) (vs : List Value) (hvl : vs.length = n) (hd : depOk ops = true) (hs : Region.noSelect ops = true) (hb : boundOk ops a.tmps.size = true) (ht : tailOk ops n = true) (hS : Below W0.heap.size W0 w)
    (hY : ∀ ρ : Operand → Value, AllD ρ (ops.toList.take n) vs → (∀ t : Nat, (∀ o : Oper, o ∈ ops.toList → o.dst ≠ some t) → ρ (.tmp t) = a.eval (.tmp t)) → (∀ v, ρ (.const v) = v) → (∀ f, ρ (.func f) = .func (.func f) #[] #[]) → AllY Tryz.prog (Below W0.heap.size W0) ρ vs (ops.toList.take n) vs)
    (rs : List (Bool × Int)) (hrs : rs.length ≤ 1000) {x1 x2 x3 : Oper} {k d1 d2 d3 : Nat} {parts : Array (Nat × Operand)} {ts : Array TypeId} (hsz : ops.size = n + 3)
    (h1 : ops[n]? = some x1) (h1o : x1.op = .buildSlice 136 k parts) (h1d : x1.dst = some d1) (h1g : x1.guard = none)
    (h2 : ops[n + 1]? = some x2) (h2o : x2.op = .call { callee := .value (.func 63), args := #[.tmp d1], argTypes := ts }) (h2d : x2.dst = some d2) (h2g : x2.guard = none)
    (h3 : ops[n + 2]? = some x3) (h3o : x3.op = .assign (.tmp d2)) (h3d : x3.dst = some d3) (h3g : x3.guard = none) (hlt : d1 < a.tmps.size ∧ d2 < a.tmps.size ∧ d3 < a.tmps.size)
    (t : TypeId) (hbuild : ∀ ρ : Operand → Value, AllD ρ (ops.toList.take n) vs → ∀ w : World, (Instr.buildSlice 136 k (parts.map fun (i, x) => (i, ρ x))).run Tryz.prog w = .ok (.slice (some ⟨w.heap.size, 0, none⟩) rs.length rs.length) (w.alloc (.cells (rsCells rs).toArray t)))
    (hend : ∀ (b : Act) (w' : World), Below W0.heap.size W0 w' → b.defers = a.defers → b.tmps.size = a.tmps.size → b.tmps[d3]? = some (.int .i64 (firstE rs)) → (∀ t : Nat, (∀ o : Oper, o ∈ ops.toList → o.dst ≠ some t) → b.tmps[t]? = a.tmps[t]?) → Q .normal b w') :
    (Code.region id ops true).wp Tryz.prog Q a w := by
  refine wp_region_vals (Below W0.heap.size W0) n vs hvl (by omega) rfl hd hs hb ht ?_ hY ?_
  · exact hS.drew
  intro b w1 hS1 hbd hbs hD hrest
  rw [show List.range' n (ops.size - n) = [n, n + 1, n + 2] from by rw [hsz, show n + 3 - n = 3 from by omega]; rfl]
  refine ops_step h1 h1g ?_
  unfold Oper.wp execOp
  rw [h1o]
  simp only [Sem.run_bind, hbuild b.eval hD w1, Result.andThen_ok]
  show wpOps _ ops Q _ (b.put x1.dst _) _
  refine ops_step h2 h2g ?_
  have hrow : (w1.alloc (.cells (rsCells rs).toArray t)).heap[w1.heap.size]? = some (.cells (rsCells rs).toArray t (0, 0)) := by unfold World.alloc; simp
  have hS2 : Below W0.heap.size W0 (w1.alloc (.cells (rsCells rs).toArray t)) := hS1.alloc hS1.size _
  obtain ⟨w2, hw2⟩ : ∃ w2, w2 = w1.alloc (.cells (rsCells rs).toArray t) := ⟨_, rfl⟩
  rw [← hw2] at hrow hS2 ⊢
  have hc := ck_first w2 w1.heap.size rs.length rs t hrow (Nat.le_refl _) hrs
  have hargs : (#[Operand.tmp d1] : Array Operand).map (b.put x1.dst (.slice (some ⟨w1.heap.size, 0, none⟩) rs.length rs.length)).eval = #[.slice (some ⟨w1.heap.size, 0, none⟩) rs.length rs.length] := by
    rw [h1d]
    simp only [List.map_toArray, List.map_cons, List.map_nil]
    rw [eval_put (by omega)]
  have hf : (b.put x1.dst (.slice (some ⟨w1.heap.size, 0, none⟩) rs.length rs.length)).eval (Operand.func 63) = .func (.func 63) #[] #[] := rfl
  unfold Oper.wp
  simp [execOp, h2o, resolve, invoke, hf, hargs, Deferred.ofValue]
  rw [Oper.upon_enter]
  refine hc.mono ?_
  rintro e w3 ⟨rfl, hb3⟩
  refine ops_step h3 h3g ?_
  unfold Oper.wp execOp
  rw [h3o]
  show wpOps _ ops Q _ (Act.put _ x3.dst _) _
  rw [h1d, h2d, h3d, eval_put (by simp [Act.put]; omega)]
  refine hend _ _ (hS2.trans (hb3.mono hS2.size)) hbd ?_ ?_ ?_
  · simp [Act.put, hbs]
  · simp [Act.put, hbs, hlt.2.2]
  · intro t ht
    have n1 : d1 ≠ t := fun h => ht x1 (by simpa using Array.mem_of_getElem? h1) (by rw [h1d, h])
    have n2 : d2 ≠ t := fun h => ht x2 (by simpa using Array.mem_of_getElem? h2) (by rw [h2d, h])
    have n3 : d3 ≠ t := fun h => ht x3 (by simpa using Array.mem_of_getElem? h3) (by rw [h3d, h])
    rw [← hrest t ht]
    simp [Act.put, n1, n2, n3]

/-- a region of pure operations in any order, its last one an assignment -/
theorem wp_last {ops : Array Oper} {id : Nat} {a : Act} {w W0 : World} {Q : Exit → Act → World → Prop} (n : Nat) (vs : List Value) (hvl : vs.length = n) (hd : depOk ops = true) (hs : Region.noSelect ops = true) (hb : boundOk ops a.tmps.size = true) (ht : tailOk ops n = true) (hS : Below W0.heap.size W0 w)
    (hY : ∀ ρ : Operand → Value, AllD ρ (ops.toList.take n) vs → (∀ t : Nat, (∀ o : Oper, o ∈ ops.toList → o.dst ≠ some t) → ρ (.tmp t) = a.eval (.tmp t)) → (∀ v, ρ (.const v) = v) → (∀ f, ρ (.func f) = .func (.func f) #[] #[]) → AllY Tryz.prog (Below W0.heap.size W0) ρ vs (ops.toList.take n) vs)
    {x3 : Oper} {d2 d3 : Nat} (v : Value) (hsz : ops.size = n + 1) (h3 : ops[n]? = some x3) (h3o : x3.op = .assign (.tmp d2)) (h3d : x3.dst = some d3) (h3g : x3.guard = none) (hlt : d3 < a.tmps.size)
    (hv : ∀ ρ : Operand → Value, AllD ρ (ops.toList.take n) vs → ρ (.tmp d2) = v)
    (hend : ∀ (b : Act) (w' : World), Below W0.heap.size W0 w' → b.defers = a.defers → b.tmps.size = a.tmps.size → b.tmps[d3]? = some v → (∀ t : Nat, (∀ o : Oper, o ∈ ops.toList → o.dst ≠ some t) → b.tmps[t]? = a.tmps[t]?) → Q .normal b w') :
    (Code.region id ops true).wp Tryz.prog Q a w := by
  refine wp_region_vals (Below W0.heap.size W0) n vs hvl (by omega) rfl hd hs hb ht ?_ hY ?_
  · exact hS.drew
  intro b w1 hS1 hbd hbs hD hrest
  rw [show List.range' n (ops.size - n) = [n] from by rw [hsz, show n + 1 - n = 1 from by omega]; rfl]
  refine ops_step h3 h3g ?_
  unfold Oper.wp execOp
  rw [h3o]
  show wpOps _ ops Q _ (Act.put _ x3.dst (b.eval (.tmp d2))) _
  rw [h3d, hv b.eval hD]
  refine hend _ _ hS1 hbd ?_ ?_ ?_
  · simp [Act.put, hbs]
  · simp [Act.put, hbs, hlt]
  · intro t ht
    have n3 : d3 ≠ t := fun h => ht x3 (by simpa using Array.mem_of_getElem? h3) (by rw [h3d, h])
    rw [← hrest t ht]
    simp [Act.put, n3]

end Go.Proofs.YthijakidnkhbnaaGreatDoor

namespace Go.Proofs.YthijakidnkhbnaaGreatDoor
/-- for all lists of a length, entry by entry -/
def AllF : Nat → (List Value → Prop) → Prop
  | 0, K => K []
  | n + 1, K => ∀ u, AllF n (fun l => K (u :: l))
theorem allF : ∀ (n : Nat) (K : List Value → Prop), AllF n K → ∀ l : List Value, l.length = n → K l
  | 0, K, h, l, hl => by rw [List.eq_nil_of_length_eq_zero hl]; exact h
  | n + 1, K, h, [], hl => by simp at hl
  | n + 1, K, h, u :: l, hl => allF n (fun l => K (u :: l)) (h u) l (by simpa using hl)
/-- for all lists that are as a list is but at some places -/
def AllW (W : List Nat) : Nat → List Value → (List Value → Prop) → Prop
  | _, [], K => K []
  | t, x :: A, K => match W.contains t with
    | true => ∀ u, AllW W (t + 1) A (fun l => K (u :: l))
    | false => AllW W (t + 1) A (fun l => K (x :: l))
theorem allW (W : List Nat) : ∀ (A : List Value) (t : Nat) (K : List Value → Prop), AllW W t A K → ∀ l : List Value, l.length = A.length → (∀ j x, A[j]? = some x → W.contains (t + j) = false → l[j]? = some x) → K l
  | [], t, K, h, l, hl, _ => by rw [List.eq_nil_of_length_eq_zero hl]; exact h
  | x :: A, t, K, h, [], hl, _ => by simp at hl
  | x :: A, t, K, h, y :: l, hl, hr => by
    unfold AllW at h
    have hr' : ∀ j x, A[j]? = some x → W.contains (t + 1 + j) = false → l[j]? = some x := fun j z hz hw => by
      have := hr (j + 1) z (by simpa using hz) (by rw [show t + (j + 1) = t + 1 + j from by omega]; exact hw)
      simpa using this
    cases hc : W.contains t with
    | true => rw [hc] at h; exact allW W A (t + 1) (fun l => K (y :: l)) (h y) l (by simpa using hl) hr'
    | false =>
      rw [hc] at h
      have h0 := hr 0 x rfl hc
      obtain rfl : y = x := by simpa using h0
      exact allW W A (t + 1) (fun l => K (y :: l)) h l (by simpa using hl) hr'
theorem act_allF (n : Nat) (K : Act → Prop) (h : AllF n (fun l => K ⟨l.toArray, []⟩)) (b : Act) (hd : b.defers = []) (hs : b.tmps.size = n) : K b := by
  obtain ⟨⟨l⟩, d⟩ := b
  have hd : d = [] := hd
  subst hd
  exact allF n (fun l => K ⟨l.toArray, []⟩) h l hs
theorem act_allW (W : List Nat) (A : List Value) (K : Act → Prop) (h : AllW W 0 A (fun l => K ⟨l.toArray, []⟩)) (b : Act) (hd : b.defers = []) (hs : b.tmps.size = A.length) (hr : ∀ t, W.contains t = false → b.tmps[t]? = A.toArray[t]?) : K b := by
  obtain ⟨⟨l⟩, d⟩ := b
  have hd : d = [] := hd
  subst hd
  refine allW W A 0 (fun l => K ⟨l.toArray, []⟩) h l hs fun j x hx hw => ?_
  have := hr j (by simpa using hw)
  simp at this
  rw [this, hx]
/-- behind an opaque region: one place known -/
theorem act_endF (n : Nat) {Q : Exit → Act → World → Prop} {e : Exit} {w : World} (d : Nat) (v : Value) (h : AllF n (fun l => (⟨l.toArray, []⟩ : Act).tmps[d]? = some v → Q e ⟨l.toArray, []⟩ w)) (b : Act) (hd : b.defers = []) (hs : b.tmps.size = n) (h6 : b.tmps[d]? = some v) : Q e b w :=
  act_allF n (fun b => b.tmps[d]? = some v → Q e b w) h b hd hs h6
theorem act_endW (W : List Nat) (A : List Value) {Q : Exit → Act → World → Prop} {e : Exit} {w : World} (d : Nat) (v : Value) (h : AllW W 0 A (fun l => (⟨l.toArray, []⟩ : Act).tmps[d]? = some v → Q e ⟨l.toArray, []⟩ w)) (b : Act) (hd : b.defers = []) (hs : b.tmps.size = A.length) (hr : ∀ t, W.contains t = false → b.tmps[t]? = A.toArray[t]?) (h6 : b.tmps[d]? = some v) : Q e b w :=
  act_allW W A (fun b => b.tmps[d]? = some v → Q e b w) h b hd hs hr h6
/-- the places that operations write -/
def dstIn (W : List Nat) (ops : List Oper) : Bool := ops.all fun o => match o.dst with
  | some d => W.contains d
  | none => true
theorem not_dst {W : List Nat} {ops : List Oper} {t : Nat} (h : dstIn W ops = true) (ht : W.contains t = false) : ∀ o ∈ ops, o.dst ≠ some t := fun o ho hd => by
  unfold dstIn at h
  rw [List.all_eq_true] at h
  have := h o ho
  rw [hd] at this
  simp only at this
  rw [ht] at this
  cases this
end Go.Proofs.YthijakidnkhbnaaGreatDoor

namespace Go.Proofs.YthijakidnkhbnaaGreatDoor
open Go.RowKit

/-- links in memory, two cells each -/
def LkRow (w : World) (g : Nat) (ks : List Ps.Link) : Prop := ∀ (j : Nat) (x : Ps.Link), ks[j]? = some x → w.cell? ⟨g, j * 2, none⟩ = some (.int .i64 x.type) ∧ w.cell? ⟨g, j * 2 + 1, none⟩ = some (.string x.ref)
theorem LkRow.below {w w' : World} {g : Nat} {ks : List Ps.Link} (h : LkRow w g ks) (hb : Below w.heap.size w w') : LkRow w' g ks := fun j x hj => by
  obtain ⟨h1, h2⟩ := h j x hj
  exact ⟨(hb.cell (World.block_lt_of_cell? w _ h1)).trans h1, (hb.cell (World.block_lt_of_cell? w _ h2)).trans h2⟩

set_option maxRecDepth 100000 in
set_option maxHeartbeats 400000 in
theorem lk_same (w : World) (ty : Int) (s r : ByteArray) (h : Nat) (hc : w.cell? ⟨h, 1, none⟩ = some (.string r)) :
    Calls Tryz.prog 109 #[.agg #[.int .i64 ty, .string s], .pointer (some ⟨h, 0, none⟩)] w fun e w' => e = .returned (.bool (s.toList == r.toList)) ∧ Below w.heap.size w w' := by
  have hlt := World.block_lt_of_cell? w _ hc
  have hne : ¬ h = w.heap.size := by simp at hlt; omega
  have k1 : (w.alloc (.cells #[.int .i64 ty, .string s] 117)).cell? ⟨h, 1, none⟩ = some (.string r) := ((((Below.refl _ _).alloc (Nat.le_refl _) _ : Below w.heap.size w _)).cell hlt).trans hc
  go_enter Tryz.func109, Tryz.ntmps109
  go_wp2_with fail
  go_ret
  exact ⟨rfl, (Below.refl _ _).alloc (Nat.le_refl _) _⟩

set_option maxRecDepth 100000 in
set_option maxHeartbeats 1000000 in
theorem lk_index (W : World) (g h cap n : Nat) (ks : List Ps.Link) (r : ByteArray) (hrow : LkRow W g ks) (hn : n ≤ ks.length) (_hc : n ≤ cap) (hl : n ≤ 1000) (hr : W.cell? ⟨h, 1, none⟩ = some (.string r)) (m : Nat) (hm : m ≤ n) (hlow : Hid (∀ j x, j < m → ks[j]? = some x → (x.ref.toList == r.toList) = false))
    (v : Int) (hv : Hid ((m < n → (∃ x, ks[m]? = some x ∧ (x.ref.toList == r.toList) = true) ∧ v = (m : Int)) ∧ (m = n → v = -1))) :
    Calls Tryz.prog 142 #[.slice (some ⟨g, 0, none⟩) n cap, .func (.func 109) #[] #[.pointer (some ⟨h, 0, none⟩)]] W fun e W' => e = .returned (.int .i64 v) ∧ Below W.heap.size W W' := by
  have eg := enters_of Tryz.func109 (by kernel_rfl) rfl
  have HR := Lib.hid hrow
  have HC := Lib.hid hr
  clear hrow hr
  go_enter Tryz.func142, Tryz.ntmps142
  go_wp2_with fail
  go_loopw [5, 8] (fun _ iv wr => ∃ j : Nat, iv = .int .i64 j ∧ j ≤ m ∧ Hid (Below W.heap.size W wr)) (fun _ iv _ => 2000 - (RowKit.intOf iv).toNat)
  case atStart => exact ⟨0, rfl, Nat.zero_le _, Lib.hid (Below.refl _ _)⟩
  case round =>
    obtain ⟨j, rfl, hj, HB⟩ := hrel
    by_cases hlt : j < n
    · obtain ⟨x, hx⟩ : ∃ x, ks[j]? = some x := ⟨_, List.getElem?_eq_getElem (by omega)⟩
      obtain ⟨y0, y1⟩ := (HR.out.below HB.out) j x hx
      have hltI : (j : Int) < (n : Int) := by omega
      have m1 := lk_same wr x.type x.ref r h ((HB.out.cell (World.block_lt_of_cell? W _ HC.out)).trans HC.out)
      by_cases hjm : j < m
      · have hbf := hlow.out j _ hjm hx
        rw [hbf] at m1
        have hw1 : wrap64 ((j : Int) + 1) = ((j + 1 : Nat) : Int) := by unfold wrap64; omega
        clear hx hlow hv hbf
        go_wp2_with ((first | go_at_fn 109 | go_at_call 109); refine m1.mono ?_; rintro e w1 ⟨rfl, hb⟩; have HB2 := Lib.hid (HB.out.trans (hb.mono HB.out.size)); clear hb)
        refine ⟨⟨j + 1, by first | rfl | go_num, by omega, HB2⟩, by simp [RowKit.intOf] <;> omega⟩
      · obtain rfl : j = m := by omega
        obtain ⟨⟨x0, hx0, hbt⟩, hve⟩ := hv.out.1 hlt
        rw [hx] at hx0
        cases hx0
        rw [hbt] at m1
        subst hve
        clear hx hlow hv hbt
        go_wp2_with ((first | go_at_fn 109 | go_at_call 109); refine m1.mono ?_; rintro e w1 ⟨rfl, hb⟩; have HB2 := Lib.hid (HB.out.trans (hb.mono HB.out.size)); clear hb)
        go_ret
        exact ⟨rfl, HB2.out⟩
    · have hje : j = n := by omega
      have hve := hv.out.2 (by omega)
      subst hve
      have hltI : ¬ (j : Int) < (n : Int) := by omega
      clear hlow hv
      go_wp2_with fail
      go_ret
      exact ⟨rfl, HB.out⟩

/-- is the reference among them -/
def hasRef (ks : List Ps.Link) (r : ByteArray) : Bool := ks.any fun y => y.ref.toList == r.toList
theorem hasRef_split : ∀ (ks : List Ps.Link) (r : ByteArray), ∃ m, m ≤ ks.length ∧ (∀ (j : Nat) (x : Ps.Link), j < m → ks[j]? = some x → (x.ref.toList == r.toList) = false) ∧ ((m < ks.length ∧ (∃ x, ks[m]? = some x ∧ (x.ref.toList == r.toList) = true) ∧ hasRef ks r = true) ∨ (m = ks.length ∧ hasRef ks r = false))
  | [], r => ⟨0, Nat.le_refl _, fun j x h => by omega, .inr ⟨rfl, rfl⟩⟩
  | y :: ks, r => by
    cases hb : (y.ref.toList == r.toList) with
    | true => exact ⟨0, Nat.zero_le _, fun j x h => by omega, .inl ⟨by simp, ⟨y, rfl, hb⟩, by unfold hasRef; rw [List.any_cons, hb]; rfl⟩⟩
    | false =>
      obtain ⟨m, h1, h2, h3⟩ := hasRef_split ks r
      have he : hasRef (y :: ks) r = hasRef ks r := by unfold hasRef; rw [List.any_cons, hb]; rfl
      refine ⟨m + 1, by simpa using h1, fun j x hj hx => ?_, ?_⟩
      · cases j with
        | zero => simp at hx; rw [← hx]; exact hb
        | succ j => exact h2 j x (by omega) (by simpa using hx)
      · rw [he]
        rcases h3 with ⟨h4, ⟨x, h5, h6⟩, h7⟩ | ⟨h4, h5⟩
        · exact .inl ⟨by simpa using h4, ⟨x, by simpa using h5, h6⟩, h7⟩
        · exact .inr ⟨by simpa using h4, h5⟩

set_option maxRecDepth 100000 in
set_option maxHeartbeats 400000 in
theorem lk_containsL (W : World) (a b : Value) (v : Int) (c : Bool) (hc : decide (0 ≤ v) = c)
    (n1 : Calls Tryz.prog 142 #[a, b] W fun e W' => e = .returned (.int .i64 v) ∧ Below W.heap.size W W') :
    Calls Tryz.prog 108 #[a, b] W fun e W' => e = .returned (.bool c) ∧ Below W.heap.size W W' := by
  go_enter Tryz.func108, Tryz.ntmps108
  go_wp2_with fail
  refine n1.mono ?_
  rintro e w ⟨rfl, hb⟩
  have HB := Lib.hid hb
  clear n1 hb
  go_wp2_with fail
  go_ret
  exact ⟨by simp [← hc], HB.out⟩

theorem lk_contains (W : World) (g h cap : Nat) (ks : List Ps.Link) (r : ByteArray) (k : Nat) (hrow : LkRow W g ks) (hk : k ≤ ks.length) (hc : k ≤ cap) (hl : k ≤ 1000) (hr : W.cell? ⟨h, 1, none⟩ = some (.string r)) :
    Calls Tryz.prog 108 #[.slice (some ⟨g, 0, none⟩) k cap, .func (.func 109) #[] #[.pointer (some ⟨h, 0, none⟩)]] W fun e W' => e = .returned (.bool (hasRef (ks.take k) r)) ∧ Below W.heap.size W W' := by
  obtain ⟨m, h1, h2, h3⟩ := hasRef_split (ks.take k) r
  have hlen : (ks.take k).length = k := by rw [List.length_take]; omega
  rw [hlen] at h1 h3
  have hlow : ∀ j x, j < m → ks[j]? = some x → (x.ref.toList == r.toList) = false := fun j x hj hx => h2 j x hj (by rw [List.getElem?_take, if_pos (by omega)]; exact hx)
  rcases h3 with ⟨h4, ⟨x, h5, h6⟩, h7⟩ | ⟨h4, h5⟩
  · rw [h7]
    have h5' : ks[m]? = some x := by rw [List.getElem?_take, if_pos h4] at h5; exact h5
    exact lk_containsL W _ _ (m : Int) true (by simp) (lk_index W g h cap k ks r hrow hk hc hl hr m h1 (Lib.hid hlow) m (Lib.hid ⟨fun _ => ⟨⟨x, h5', h6⟩, rfl⟩, fun h => by omega⟩))
  · rw [h5]
    exact lk_containsL W _ _ (-1) false (by decide) (lk_index W g h cap k ks r hrow hk hc hl hr m h1 (Lib.hid hlow) (-1) (Lib.hid ⟨fun h => by omega, fun _ => rfl⟩))
end Go.Proofs.YthijakidnkhbnaaGreatDoor
