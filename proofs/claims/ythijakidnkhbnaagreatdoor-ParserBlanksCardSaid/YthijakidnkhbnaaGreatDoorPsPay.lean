/-
  The parser: what day makes of a token, given date.Parse.
  The parser: ParseAmount, given amount.Parse.
  The parser: once, beside a request.
  The parser, plain: what a reading gives from a state on; the loops of options and changes, a round at a time.
  The parser: rows of its own that grow (links); a request's cells as a value.
  The parser: the reader's environment; payment, given options.
-/
import Derived.Test.YthijakidnkhbnaaGreatDoorPsTrade
import Derived.Test.YthijakidnkhbnaaGreatDoorPsPlain
import Derived.Maps.AppendAt

namespace Go.Proofs.YthijakidnkhbnaaGreatDoor
open Go.RowKit

/-- a day, or the error of dates -/
def dayOf (D : ByteArray → Int × Int) (s : ByteArray) : Int × Int := if (D s).2 = 0 then ((D s).1, 0) else (0, 28)

set_option maxRecDepth 100000 in
set_option maxHeartbeats 400000 in
theorem ps_dayOk (w : World) (s : ByteArray) (n : Int) (_hw : IntKind.i64.wrap n = n)
    (n1 : Calls Tryz.prog 135 #[.string s] w fun e w' => e = .returned (.tuple #[.int .i64 n, .int .i64 0]) ∧ Below w.heap.size w w') :
    Calls Tryz.prog 134 #[.string s] w fun e w' => e = .returned (.tuple #[.int .i64 n, .int .i64 0]) ∧ Below w.heap.size w w' := by
  go_enter Tryz.func134, Tryz.ntmps134
  go_wp2_with fail
  refine n1.mono ?_
  rintro e w1 ⟨rfl, hb⟩
  have HB := Lib.hid hb
  clear n1 hb
  go_wp2_with fail
  go_ret2
  exact ⟨rfl, HB.out⟩

set_option maxRecDepth 100000 in
set_option maxHeartbeats 400000 in
theorem ps_dayEr (w : World) (s : ByteArray) (n x : Int) (hx : (x == 0) = false)
    (n1 : Calls Tryz.prog 135 #[.string s] w fun e w' => e = .returned (.tuple #[.int .i64 n, .int .i64 x]) ∧ Below w.heap.size w w') :
    Calls Tryz.prog 134 #[.string s] w fun e w' => e = .returned (.tuple #[.int .i64 0, .int .i64 28]) ∧ Below w.heap.size w w' := by
  go_enter Tryz.func134, Tryz.ntmps134
  go_wp2_with fail
  refine n1.mono ?_
  rintro e w1 ⟨rfl, hb⟩
  have HB := Lib.hid hb
  clear n1 hb
  go_wp2_with fail
  go_ret2
  exact ⟨rfl, HB.out⟩

theorem ps_dayNum {W0 : World} (D : ByteArray → Int × Int) (hr : ∀ s, IntKind.i64.wrap (D s).1 = (D s).1)
    (hD : ∀ w (s : ByteArray), Below W0.heap.size W0 w → s.size ≤ 1000000 → Calls Tryz.prog 135 #[.string s] w fun e W' => e = .returned (.tuple #[.int .i64 (D s).1, .int .i64 (D s).2]) ∧ Below w.heap.size w W') :
    PsNum 134 W0 (dayOf D) := by
  refine ⟨enters_of Tryz.func134 (by kernel_rfl) rfl, fun s hs => ?_, fun w s hw hsz => ?_⟩
  · unfold dayOf at hs ⊢
    split
    · rw [if_pos (by assumption)] at hs; exact absurd rfl hs
    · rfl
  · have n1 := hD w s hw hsz
    by_cases h : (D s).2 = 0
    · rw [h] at n1
      unfold dayOf
      rw [if_pos h]
      exact ps_dayOk w s _ (hr s) n1
    · unfold dayOf
      rw [if_neg h]
      exact ps_dayEr w s _ _ (by rw [beq_eq_false_iff_ne]; exact h) n1

end Go.Proofs.YthijakidnkhbnaaGreatDoor

namespace Go.Proofs.YthijakidnkhbnaaGreatDoor
open Go.RowKit

set_option maxRecDepth 100000 in
set_option maxHeartbeats 400000 in
theorem ps_amtNum (w : World) (s : ByteArray) (n : Int) (b1 b2 : Bool) (h1 : decide (n < 1) = b1) (h2 : decide (1000000000000000 < n) = b2) (n1 : Calls Tryz.prog 163 #[.string s, .int .i64 3] w fun e w' => e = .returned (.bool true) ∧ Below w.heap.size w w')
    (n2 : Hid (∀ w1, Below w.heap.size w w1 → Calls Tryz.prog 164 #[.string s] w1 fun e w' => e = .returned (.tuple #[.int .i64 n, .int .i64 0]) ∧ Below w1.heap.size w1 w')) :
    Calls Tryz.prog 133 #[.string s] w fun e w' => e = .returned (.tuple #[.int .i64 (if b1 || b2 then 0 else n), .int .i64 (if b1 || b2 then 2 else 0)]) ∧ Below w.heap.size w w' := by
  cases b1
  all_goals cases b2
  all_goals simp only [decide_eq_true_eq, decide_eq_false_iff_not] at h1 h2
  all_goals try (exfalso; omega)
  all_goals
    go_enter Tryz.func133, Tryz.ntmps133
    go_wp2_with fail
    refine n1.mono ?_
    rintro e w1 ⟨rfl, hb⟩
    have HB := Lib.hid hb
    have m2 := n2.out w1 hb
    clear n1 hb n2
    go_wp2_with fail
    refine m2.mono ?_
    rintro e w2 ⟨rfl, hb⟩
    have HB2 := Lib.hid (HB.out.trans (hb.mono HB.out.size))
    clear m2 hb
    go_wp2_with fail
    go_ret2
    exact ⟨rfl, HB2.out⟩

set_option maxRecDepth 100000 in
set_option maxHeartbeats 400000 in
theorem ps_amtErr (w : World) (s : ByteArray) (n x : Int) (h0 : ¬ x = 0) (n1 : Calls Tryz.prog 163 #[.string s, .int .i64 3] w fun e w' => e = .returned (.bool true) ∧ Below w.heap.size w w')
    (n2 : Hid (∀ w1, Below w.heap.size w w1 → Calls Tryz.prog 164 #[.string s] w1 fun e w' => e = .returned (.tuple #[.int .i64 n, .int .i64 x]) ∧ Below w1.heap.size w1 w')) :
    Calls Tryz.prog 133 #[.string s] w fun e w' => e = .returned (.tuple #[.int .i64 0, .int .i64 2]) ∧ Below w.heap.size w w' := by
  go_enter Tryz.func133, Tryz.ntmps133
  go_wp2_with fail
  refine n1.mono ?_
  rintro e w1 ⟨rfl, hb⟩
  have HB := Lib.hid hb
  have m2 := n2.out w1 hb
  clear n1 hb n2
  go_wp2_with fail
  refine m2.mono ?_
  rintro e w2 ⟨rfl, hb⟩
  have HB2 := Lib.hid (HB.out.trans (hb.mono HB.out.size))
  clear m2 hb
  go_wp2_with fail
  go_ret2
  exact ⟨rfl, HB2.out⟩

/-- ParseAmount over what amount.Parse gives -/
def amtOf (A : ByteArray → Int × Int) (s : ByteArray) : Int × Int :=
  if Lx.classify s = (3, 0) then (if (A s).2 = 0 then bndI (A s).1 else (0, 2)) else (0, 30)

theorem classify_decimal {s : ByteArray} (h : Lx.classify s = (3, 0)) : Lx.decimal s.data.toList = true := by
  unfold Lx.classify at h
  split at h
  · cases h
  · split at h
    · cases h
    · split at h
      · cases h
      · split at h
        · assumption
        · split at h
          · cases h
          · split at h <;> cases h

theorem ps_amt {W0 : World} (m : Int) (kb ko kc : Nat) (hx : LxEnv m kb ko kc W0) (A : ByteArray → Int × Int)
    (hA : ∀ w (s : ByteArray), Below W0.heap.size W0 w → s.size ≤ 32 → Lx.decimal s.data.toList = true → Calls Tryz.prog 164 #[.string s] w fun e W' => e = .returned (.tuple #[.int .i64 (A s).1, .int .i64 (A s).2]) ∧ Below w.heap.size w W') :
    PsNum 133 W0 (amtOf A) := by
  refine ⟨enters_of Tryz.func133 (by kernel_rfl) rfl, fun s hs => ?_, fun w s hw hsz => ?_⟩
  · unfold amtOf at hs ⊢
    split
    · rw [if_pos (by assumption)] at hs
      split
      · rw [if_pos (by assumption)] at hs
        unfold bndI at hs ⊢
        split
        · rfl
        · rw [if_neg (by assumption)] at hs; exact absurd rfl hs
      · rfl
    · rfl
  · have n1 := ps_kindOf s 3 w m kb ko kc (by omega) (hx.below hw)
    by_cases hc : Lx.classify s = (3, 0)
    · rw [decide_eq_true hc] at n1
      have h32 : s.size ≤ 32 := by
        rcases Nat.lt_or_ge 32 s.size with h | h
        · unfold Lx.classify at hc; rw [if_pos h] at hc; cases hc
        · exact h
      have hA1 := fun w1 (h1 : Below w.heap.size w w1) => hA w1 s (hw.trans (h1.mono hw.size)) h32 (classify_decimal hc)
      unfold amtOf
      rw [if_pos hc]
      by_cases h : (A s).2 = 0
      · rw [if_pos h, ← bndI_if]
        rw [h] at hA1
        exact ps_amtNum w s (A s).1 _ _ rfl rfl n1 (Lib.hid hA1)
      · rw [if_neg h]
        exact ps_amtErr w s (A s).1 (A s).2 h n1 (Lib.hid hA1)
    · rw [decide_eq_false hc] at n1
      have hq : amtOf A s = (0, 30) := by unfold amtOf; rw [if_neg hc]
      rw [hq]
      exact ps_amtBad w s n1

end Go.Proofs.YthijakidnkhbnaaGreatDoor

namespace Go.Proofs.YthijakidnkhbnaaGreatDoor
open Go.RowKit

def snCells (sn : List Bool) : Array Value := (sn.map Value.bool).toArray

/-- something that turned the reader and a fresh block -/
theorem RqAt.fresh {W0 W : World} {r tb cap q sb : Nat} {l : List Ps.Tok} {st st' : Ps.St} {cs : Array Value} {w w' : World} (h : RqAt W0 W r tb cap q l st cs w) (hr : RdSt w' r tb cap l st') (hT : Tch r sb w w') (hsq : sb ≠ q) (hW : W.heap.size ≤ sb) (h0 : W0.heap.size ≤ sb) : RqAt W0 W r tb cap q l st' cs w' := by
  obtain ⟨a, b, c, d, e, f⟩ := h
  refine ⟨⟨hr, a.base.trans (hT.below a.r0 h0 a.base.size), a.r0⟩, (hT.block q (Array.getElem?_eq_some_iff.1 b).1 d (Ne.symm hsq)).trans b, ?_, d, e, f⟩
  exact ⟨hT.os.trans c.os, hT.tape.trans c.tape, hT.output.trans c.output, Nat.le_trans c.size hT.size, fun j hj h1 h2 => (hT.block j (Nat.lt_of_lt_of_le hj c.size) h1 (by omega)).trans (c.block j hj h1 h2)⟩

theorem ps_once {W0 W : World} {r tb cap q sb a : Nat} {l : List Ps.Tok} {cs : Array Value} {w : World} (h : RqAt W0 W r tb cap q l (.ok a) cs w) (hlt : a < l.length) (sn : List Bool) (t : TypeId) (hs : w.heap[sb]? = some (.cells (snCells sn) t (0, 0)))
    (hsr : sb ≠ r) (hsq : sb ≠ q) (hst : sb ≠ tb) (hW : W.heap.size ≤ sb) (h0 : W0.heap.size ≤ sb) (p : Nat) (hp : p < 6) (b : Bool) (hb : sn[p]? = some b) :
    Calls Tryz.prog 137 #[.pointer (some ⟨r, 0, none⟩), .pointer (some ⟨sb, 0, none⟩), .int .i64 p] w fun e W' => e = .returned (.bool (!b)) ∧
      RqAt W0 W r tb cap q l (if b = true then .error (Ps.offAt l a, 7) else .ok (a + 1)) cs W' ∧ W'.heap[sb]? = some (.cells (snCells (sn.set p true)) t (0, 0)) ∧ Tch r sb w W' := by
  have hcp : (snCells sn)[p]? = some (.bool b) := by unfold snCells; rw [List.getElem?_toArray, List.getElem?_map, hb]; rfl
  cases b with
  | true =>
    have hc : w.cell? ⟨sb, p, none⟩ = some (.bool true) := by rw [cell_of_row _ _ _ _ _ _ hs]; exact hcp
    refine ps_onceDup w r sb p _ hp (by omega) hc ((ps_fail h.1.rd 7 (by decide) (fun b hb => by cases hb; exact hlt)).mono ?_)
    rintro e w1 ⟨h1, h2, h3⟩
    have hset : sn.set p true = sn := by
      apply List.ext_getElem?
      intro i
      by_cases hi : p = i
      · subst hi
        rw [List.getElem?_set_self (List.getElem?_eq_some_iff.1 hb).1, hb]
      · rw [List.getElem?_set_ne hi]
    rw [hset]
    exact ⟨h1, h.step (h.1.next h2 h3) h3, (h3.block sb (Array.getElem?_eq_some_iff.1 hs).1 hsr hsr).trans hs, h3.left⟩
  | false =>
    obtain ⟨a', o, e0, hr, ht, hne, hpos, hcap, hmany, hst2⟩ := h.1.rd
    obtain ⟨rfl, rfl, hle⟩ := hst2
    refine (ps_onceOk w r sb p tb l.length cap a' o 0 (snCells sn) t hp (by omega) hs hcp hsr hr (by unfold wrap64; omega)).mono ?_
    rintro e w1 ⟨rfl, h1, h2, h3⟩
    refine ⟨rfl, h.fresh ⟨a' + 1, o, 0, h1, ht.tch h3 hne (Ne.symm hst), hne, hpos, hcap, hmany, rfl, rfl, hlt⟩ h3 hsq hW h0, ?_, h3⟩
    rw [h2]
    unfold snCells
    simp

end Go.Proofs.YthijakidnkhbnaaGreatDoor

namespace Go.Proofs.YthijakidnkhbnaaGreatDoor.Ps
open Go

/-- a reading p from the state st on leads to st', and gives x where there is no error -/
def Res {α : Type} (p : P α) (st st' : St) (x : α) : Prop := match st with
  | .error e => st' = .error e
  | .ok a => match st' with
    | .ok b => p a = .ok (x, b)
    | .error e => p a = .error e

theorem Res.of_step {α : Type} (p : P α) (z : α) (st : St) : Res p st (step p z st).2 (step p z st).1 := by
  cases st with
  | error e => rfl
  | ok a =>
    unfold Res step
    cases h : p a with
    | error e => simp [h]
    | ok x => obtain ⟨x, b⟩ := x; simp [h]
theorem Res.of_eq {α : Type} {p : P α} {z x : α} {st st' : St} (h : step p z st = (x, st')) : Res p st st' x := by have := Res.of_step p z st; rw [h] at this; exact this
theorem Res.pure {α : Type} (x : α) (st : St) : Res (pure' x) st st x := by cases st <;> rfl
theorem Res.bind {α β : Type} {m : P α} {f : α → P β} {st st1 st2 : St} {y : α} {x : β} (h1 : Res m st st1 y) (h2 : Res (f y) st1 st2 x) : Res (bind' m f) st st2 x := by
  cases st with
  | error e =>
    obtain rfl : st1 = .error e := h1
    exact h2
  | ok a =>
    cases st1 with
    | error e =>
      obtain rfl : st2 = .error e := h2
      exact bind_error h1
    | ok b =>
      have e1 : bind' m f a = f y b := bind_ok h1
      cases st2 with
      | error e => show bind' m f a = _; rw [e1]; exact h2
      | ok c => show bind' m f a = _; rw [e1]; exact h2
theorem Res.error {α : Type} {p : P α} {e : Er} {st' : St} {x : α} (h : Res p (.error e) st' x) : st' = .error e := h
theorem Res.mono {α : Type} {p q : P α} {st st' : St} {x : α} (h : Res p st st' x) (he : ∀ a, st = .ok a → p a = q a) : Res q st st' x := by
  cases st with
  | error e => exact h
  | ok a => unfold Res at h ⊢; simp only [← he a rfl]; exact h
theorem Res.val {α : Type} {p : P α} {st st' : St} {x y : α} (h : Res p st st' x) (he : ∀ b, st' = .ok b → x = y) : Res p st st' y := by
  cases st' with
  | ok b => rw [← he b rfl]; exact h
  | error e => cases st <;> exact h

/-! ### options -/
/-- the loop of options, begun in st0 with i0, has come to st: the seen purposes, the instruction -/
def OpI (E : Env) (l : List Tok) (i0 : Ins) (st0 st : St) (s : Seen) (i : Ins) : Prop := match st0 with
  | .error e => st = .error e
  | .ok a0 => match st with
    | .ok a => ∃ f, l.length + 1 ≤ a + f ∧ options E l (l.length + 1) {} i0 a0 = options E l f s i a
    | .error e => options E l (l.length + 1) {} i0 a0 = .error e

theorem OpI.start (E : Env) (l : List Tok) (i0 : Ins) (st0 : St) : OpI E l i0 st0 st0 {} i0 := by
  cases st0 with
  | error e => rfl
  | ok a => exact ⟨l.length + 1, by omega, rfl⟩
/-- at the end -/
theorem OpI.res {E : Env} {l : List Tok} {i0 i : Ins} {st0 st : St} {s : Seen} (h : OpI E l i0 st0 st s i) (hend : okAt l st = false) : Res (options E l (l.length + 1) {} i0) st0 st i := by
  cases st0 with
  | error e => exact h
  | ok a0 =>
    cases st with
    | error e => exact h
    | ok a =>
      obtain ⟨f, hf, h⟩ := h
      show options E l (l.length + 1) {} i0 a0 = .ok (i, a)
      have hle : l.length ≤ a := by simpa [okAt] using hend
      rw [h]
      cases f with
      | zero => rfl
      | succ f => simp only [options, if_pos hle]

/-- one round -/
theorem OpI.round {E : Env} {l : List Tok} {i0 i : Ins} {st0 st' : St} {a : Nat} {s s' : Seen} {i' : Ins} (h : OpI E l i0 st0 (.ok a) s i) (hlt : a < l.length)
    (hr : ∀ f, match st' with | .ok b => a < b ∧ options E l (f + 1) s i a = options E l f s' i' b | .error e => options E l (f + 1) s i a = .error e) : OpI E l i0 st0 st' s' i' := by
  cases st0 with
  | error e => cases h
  | ok a0 =>
    obtain ⟨f, hf, h⟩ := h
    obtain ⟨f, rfl⟩ : ∃ g, f = g + 1 := ⟨f - 1, by omega⟩
    have hr := hr f
    cases st' with
    | error e => exact h.trans hr
    | ok b => exact ⟨f, by omega, h.trans hr.2⟩

theorem OpI.prioDup {E : Env} {l : List Tok} {i0 i : Ins} {st0 : St} {a : Nat} {s : Seen} {p : Int} (h : OpI E l i0 st0 (.ok a) s i) (hlt : a < l.length) (hp : prio (peek l a).data.toList = some p) (hs : s.prio = true) (s' : Seen) (i' : Ins) : OpI E l i0 st0 (.error (offAt l a, 7)) s' i' :=
  h.round hlt fun f => by simp only [options, if_neg (Nat.not_le.2 hlt), hp, hs, if_true]; rfl
theorem OpI.prioOk {E : Env} {l : List Tok} {i0 i : Ins} {st0 : St} {a : Nat} {s : Seen} {p : Int} (h : OpI E l i0 st0 (.ok a) s i) (hlt : a < l.length) (hp : prio (peek l a).data.toList = some p) (hs : s.prio = false) : OpI E l i0 st0 (.ok (a + 1)) { s with prio := true } { i with priority := p } :=
  h.round hlt fun f => ⟨by omega, by simp only [options, if_neg (Nat.not_le.2 hlt), hp, hs, if_false, Bool.false_eq_true]⟩
theorem OpI.holdDup {E : Env} {l : List Tok} {i0 i : Ins} {st0 : St} {a : Nat} {s : Seen} (h : OpI E l i0 st0 (.ok a) s i) (hlt : a < l.length) (hp : (peek l a).data.toList = sHold) (hs : s.hold = true) (s' : Seen) (i' : Ins) : OpI E l i0 st0 (.error (offAt l a, 7)) s' i' :=
  h.round hlt fun f => by
    simp only [options, if_neg (Nat.not_le.2 hlt), hp, show prio sHold = none from by decide, show ¬ sHold = sPartial from by decide, hs, if_true, if_false]; rfl
theorem OpI.holdOk {E : Env} {l : List Tok} {i0 i : Ins} {st0 : St} {a : Nat} {s : Seen} (h : OpI E l i0 st0 (.ok a) s i) (hlt : a < l.length) (hp : (peek l a).data.toList = sHold) (hs : s.hold = false) : OpI E l i0 st0 (.ok (a + 1)) { s with hold := true } { i with hold := true } :=
  h.round hlt fun f => ⟨by omega, by simp only [options, if_neg (Nat.not_le.2 hlt), hp, show prio sHold = none from by decide, show ¬ sHold = sPartial from by decide, hs, if_true, if_false, Bool.false_eq_true]⟩
theorem OpI.resDup {E : Env} {l : List Tok} {i0 i : Ins} {st0 : St} {a : Nat} {s : Seen} (h : OpI E l i0 st0 (.ok a) s i) (hlt : a < l.length) (hp : (peek l a).data.toList = sReserve) (hs : s.res = true) (s' : Seen) (i' : Ins) : OpI E l i0 st0 (.error (offAt l a, 7)) s' i' :=
  h.round hlt fun f => by
    simp only [options, if_neg (Nat.not_le.2 hlt), hp, show prio sReserve = none from by decide, show ¬ sReserve = sPartial from by decide, show ¬ sReserve = sHold from by decide, hs, if_true, if_false]; rfl
theorem OpI.resOk {E : Env} {l : List Tok} {i0 i : Ins} {st0 : St} {a : Nat} {s : Seen} (h : OpI E l i0 st0 (.ok a) s i) (hlt : a < l.length) (hp : (peek l a).data.toList = sReserve) (hs : s.res = false) : OpI E l i0 st0 (.ok (a + 1)) { s with res := true } { i with reserve := true } :=
  h.round hlt fun f => ⟨by omega, by simp only [options, if_neg (Nat.not_le.2 hlt), hp, show prio sReserve = none from by decide, show ¬ sReserve = sPartial from by decide, show ¬ sReserve = sHold from by decide, hs, if_true, if_false, Bool.false_eq_true]⟩
theorem OpI.partDup {E : Env} {l : List Tok} {i0 i : Ins} {st0 : St} {a : Nat} {s : Seen} (h : OpI E l i0 st0 (.ok a) s i) (hlt : a < l.length) (hp : (peek l a).data.toList = sPartial) (hs : s.part = true) (s' : Seen) (i' : Ins) : OpI E l i0 st0 (.error (offAt l a, 7)) s' i' :=
  h.round hlt fun f => by
    simp only [options, if_neg (Nat.not_le.2 hlt), hp, show prio sPartial = none from by decide, hs, if_true]; rfl
/-- what take steps over -/
theorem take_next {α : Type} {l : List Tok} {acc : ByteArray → α × Int} {ks : List Int} {a b : Nat} {x : α} (h : take l acc ks a = .ok (x, b)) : b = a + 1 := by
  unfold take at h
  split at h
  · cases h
  · split at h
    · split at h
      · cases h; rfl
      · cases h
    · cases h
theorem OpI.partOk {E : Env} {l : List Tok} {i0 i : Ins} {st0 : St} {a : Nat} {s : Seen} (h : OpI E l i0 st0 (.ok a) s i) (hlt : a < l.length) (hp : (peek l a).data.toList = sPartial) (hs : s.part = false) : OpI E l i0 st0 (step (quantity E l) 0 (.ok (a + 1))).2 { s with part := true } { i with partial_ := true, minLot := (step (quantity E l) 0 (.ok (a + 1))).1 } :=
  h.round hlt fun f => by
    have e : options E l (f + 1) s i a = bind' (quantity E l) (fun n => options E l f { s with part := true } { i with partial_ := true, minLot := n }) (a + 1) := by
      simp only [options, if_neg (Nat.not_le.2 hlt), hp, show prio sPartial = none from by decide, hs, if_true, if_false, Bool.false_eq_true]
    cases hq : quantity E l (a + 1) with
    | error er => rw [step_er hq]; exact e.trans (bind_error hq)
    | ok x =>
      obtain ⟨x, b⟩ := x
      rw [step_ok hq]
      have := take_next hq
      exact ⟨by omega, e.trans (bind_ok hq)⟩
theorem OpI.link {E : Env} {l : List Tok} {i0 i : Ins} {st0 : St} {a : Nat} {s : Seen} (h : OpI E l i0 st0 (.ok a) s i) (hlt : a < l.length) (ty : Int) (hp : ((peek l a).data.toList = sWith ∧ ty = 0) ∨ ((peek l a).data.toList = sAfter ∧ ty = 1)) : OpI E l i0 st0 (step (ref E l) ⟨#[]⟩ (.ok (a + 1))).2 s { i with links := i.links ++ [⟨ty, (step (ref E l) ⟨#[]⟩ (.ok (a + 1))).1⟩] } :=
  h.round hlt fun f => by
    have e : options E l (f + 1) s i a = bind' (ref E l) (fun r => options E l f s { i with links := i.links ++ [⟨ty, r⟩] }) (a + 1) := by
      rcases hp with ⟨hp, rfl⟩ | ⟨hp, rfl⟩
      · simp only [options, if_neg (Nat.not_le.2 hlt), hp, show prio sWith = none from by decide, show ¬ sWith = sPartial from by decide, show ¬ sWith = sHold from by decide, show ¬ sWith = sReserve from by decide, if_true, if_false]
      · simp only [options, if_neg (Nat.not_le.2 hlt), hp, show prio sAfter = none from by decide, show ¬ sAfter = sPartial from by decide, show ¬ sAfter = sHold from by decide, show ¬ sAfter = sReserve from by decide, show ¬ sAfter = sWith from by decide, if_true, if_false]
    cases hq : ref E l (a + 1) with
    | error er => rw [step_er hq]; exact e.trans (bind_error hq)
    | ok x =>
      obtain ⟨x, b⟩ := x
      rw [step_ok hq]
      have hq2 : take l (fun s => (s, if E.valid 2 s then 0 else 6)) [1, 2, 4] (a + 1) = .ok (x, b) := hq
      have := take_next hq2
      exact ⟨by omega, e.trans (bind_ok hq)⟩
theorem OpI.none {E : Env} {l : List Tok} {i0 i : Ins} {st0 : St} {a : Nat} {s : Seen} (h : OpI E l i0 st0 (.ok a) s i) (hlt : a < l.length) (hp : prio (peek l a).data.toList = .none) (h1 : (peek l a).data.toList ≠ sPartial) (h2 : (peek l a).data.toList ≠ sHold) (h3 : (peek l a).data.toList ≠ sReserve) (h4 : (peek l a).data.toList ≠ sWith) (h5 : (peek l a).data.toList ≠ sAfter) (s' : Seen) (i' : Ins) : OpI E l i0 st0 (.error (offAt l a, 30)) s' i' :=
  h.round hlt fun f => by
    simp only [options, if_neg (Nat.not_le.2 hlt), hp, if_neg h1, if_neg h2, if_neg h3, if_neg h4, if_neg h5]; rfl

/-! ### changes -/
def ChI (E : Env) (l : List Tok) (i0 : Amd) (st0 st : St) (s : Seen) (i : Amd) : Prop := match st0 with
  | .error e => st = .error e
  | .ok a0 => match st with
    | .ok a => ∃ f, l.length + 1 ≤ a + f ∧ changes E l (l.length + 1) {} i0 a0 = changes E l f s i a
    | .error e => changes E l (l.length + 1) {} i0 a0 = .error e

theorem ChI.start (E : Env) (l : List Tok) (i0 : Amd) (st0 : St) : ChI E l i0 st0 st0 {} i0 := by
  cases st0 with
  | error e => rfl
  | ok a => exact ⟨l.length + 1, by omega, rfl⟩
theorem ChI.res {E : Env} {l : List Tok} {i0 i : Amd} {st0 st : St} {s : Seen} (h : ChI E l i0 st0 st s i) (hend : okAt l st = false) : Res (changes E l (l.length + 1) {} i0) st0 st i := by
  cases st0 with
  | error e => exact h
  | ok a0 =>
    cases st with
    | error e => exact h
    | ok a =>
      obtain ⟨f, hf, h⟩ := h
      show changes E l (l.length + 1) {} i0 a0 = .ok (i, a)
      have hle : l.length ≤ a := by simpa [okAt] using hend
      rw [h]
      cases f with
      | zero => rfl
      | succ f => simp only [changes, if_pos hle]
theorem ChI.round {E : Env} {l : List Tok} {i0 i : Amd} {st0 st' : St} {a : Nat} {s s' : Seen} {i' : Amd} (h : ChI E l i0 st0 (.ok a) s i) (hlt : a < l.length)
    (hr : ∀ f, match st' with | .ok b => a < b ∧ changes E l (f + 1) s i a = changes E l f s' i' b | .error e => changes E l (f + 1) s i a = .error e) : ChI E l i0 st0 st' s' i' := by
  cases st0 with
  | error e => cases h
  | ok a0 =>
    obtain ⟨f, hf, h⟩ := h
    obtain ⟨f, rfl⟩ : ∃ g, f = g + 1 := ⟨f - 1, by omega⟩
    have hr := hr f
    cases st' with
    | error e => exact h.trans hr
    | ok b => exact ⟨f, by omega, h.trans hr.2⟩
theorem ChI.prioDup {E : Env} {l : List Tok} {i0 i : Amd} {st0 : St} {a : Nat} {s : Seen} {p : Int} (h : ChI E l i0 st0 (.ok a) s i) (hlt : a < l.length) (hp : prio (peek l a).data.toList = some p) (hs : s.prio = true) (s' : Seen) (i' : Amd) : ChI E l i0 st0 (.error (offAt l a, 7)) s' i' :=
  h.round hlt fun f => by simp only [changes, if_neg (Nat.not_le.2 hlt), hp, hs, if_true]; rfl
theorem ChI.prioOk {E : Env} {l : List Tok} {i0 i : Amd} {st0 : St} {a : Nat} {s : Seen} {p : Int} (h : ChI E l i0 st0 (.ok a) s i) (hlt : a < l.length) (hp : prio (peek l a).data.toList = some p) (hs : s.prio = false) : ChI E l i0 st0 (.ok (a + 1)) { s with prio := true } { i with hasPriority := true, priority := p } :=
  h.round hlt fun f => ⟨by omega, by simp only [changes, if_neg (Nat.not_le.2 hlt), hp, hs, if_false, Bool.false_eq_true]⟩
theorem ChI.partDup {E : Env} {l : List Tok} {i0 i : Amd} {st0 : St} {a : Nat} {s : Seen} (h : ChI E l i0 st0 (.ok a) s i) (hlt : a < l.length) (hp : (peek l a).data.toList = sPartial) (hs : s.part = true) (s' : Seen) (i' : Amd) : ChI E l i0 st0 (.error (offAt l a, 7)) s' i' :=
  h.round hlt fun f => by
    simp only [changes, if_neg (Nat.not_le.2 hlt), hp, show prio sPartial = none from by decide, hs, if_true]; rfl
theorem ChI.partOk {E : Env} {l : List Tok} {i0 i : Amd} {st0 : St} {a : Nat} {s : Seen} (h : ChI E l i0 st0 (.ok a) s i) (hlt : a < l.length) (hp : (peek l a).data.toList = sPartial) (hs : s.part = false) : ChI E l i0 st0 (step (quantity E l) 0 (.ok (a + 1))).2 { s with part := true } { i with hasPartial := true, partial_ := true, minLot := (step (quantity E l) 0 (.ok (a + 1))).1 } :=
  h.round hlt fun f => by
    have e : changes E l (f + 1) s i a = bind' (quantity E l) (fun n => changes E l f { s with part := true } { i with hasPartial := true, partial_ := true, minLot := n }) (a + 1) := by
      simp only [changes, if_neg (Nat.not_le.2 hlt), hp, show prio sPartial = none from by decide, hs, if_true, if_false, Bool.false_eq_true]
    cases hq : quantity E l (a + 1) with
    | error er => rw [step_er hq]; exact e.trans (bind_error hq)
    | ok x =>
      obtain ⟨x, b⟩ := x
      rw [step_ok hq]
      have := take_next hq
      exact ⟨by omega, e.trans (bind_ok hq)⟩
theorem ChI.wholeDup {E : Env} {l : List Tok} {i0 i : Amd} {st0 : St} {a : Nat} {s : Seen} (h : ChI E l i0 st0 (.ok a) s i) (hlt : a < l.length) (hp : (peek l a).data.toList = sWhole) (hs : s.part = true) (s' : Seen) (i' : Amd) : ChI E l i0 st0 (.error (offAt l a, 7)) s' i' :=
  h.round hlt fun f => by
    simp only [changes, if_neg (Nat.not_le.2 hlt), hp, show prio sWhole = none from by decide, show ¬ sWhole = sPartial from by decide, hs, if_true, if_false]; rfl
theorem ChI.wholeOk {E : Env} {l : List Tok} {i0 i : Amd} {st0 : St} {a : Nat} {s : Seen} (h : ChI E l i0 st0 (.ok a) s i) (hlt : a < l.length) (hp : (peek l a).data.toList = sWhole) (hs : s.part = false) : ChI E l i0 st0 (.ok (a + 1)) { s with part := true } { i with hasPartial := true } :=
  h.round hlt fun f => ⟨by omega, by simp only [changes, if_neg (Nat.not_le.2 hlt), hp, show prio sWhole = none from by decide, show ¬ sWhole = sPartial from by decide, hs, if_true, if_false, Bool.false_eq_true]⟩
theorem ChI.amountDup {E : Env} {l : List Tok} {i0 i : Amd} {st0 : St} {a : Nat} {s : Seen} (h : ChI E l i0 st0 (.ok a) s i) (hlt : a < l.length) (hp : (peek l a).data.toList = sAmount) (hs : s.amount = true) (s' : Seen) (i' : Amd) : ChI E l i0 st0 (.error (offAt l a, 7)) s' i' :=
  h.round hlt fun f => by
    simp only [changes, if_neg (Nat.not_le.2 hlt), hp, show prio sAmount = none from by decide, show ¬ sAmount = sPartial from by decide, show ¬ sAmount = sWhole from by decide, hs, if_true, if_false]; rfl
theorem ChI.amountOk {E : Env} {l : List Tok} {i0 i : Amd} {st0 : St} {a : Nat} {s : Seen} (h : ChI E l i0 st0 (.ok a) s i) (hlt : a < l.length) (hp : (peek l a).data.toList = sAmount) (hs : s.amount = false) : ChI E l i0 st0 (step (cash E l) 0 (.ok (a + 1))).2 { s with amount := true } { i with hasAmount := true, amount := (step (cash E l) 0 (.ok (a + 1))).1 } :=
  h.round hlt fun f => by
    have e : changes E l (f + 1) s i a = bind' (cash E l) (fun n => changes E l f { s with amount := true } { i with hasAmount := true, amount := n }) (a + 1) := by
      simp only [changes, if_neg (Nat.not_le.2 hlt), hp, show prio sAmount = none from by decide, show ¬ sAmount = sPartial from by decide, show ¬ sAmount = sWhole from by decide, hs, if_true, if_false, Bool.false_eq_true]
    cases hq : cash E l (a + 1) with
    | error er => rw [step_er hq]; exact e.trans (bind_error hq)
    | ok x =>
      obtain ⟨x, b⟩ := x
      rw [step_ok hq]
      have := take_next hq
      exact ⟨by omega, e.trans (bind_ok hq)⟩
theorem ChI.dayDup {E : Env} {l : List Tok} {i0 i : Amd} {st0 : St} {a : Nat} {s : Seen} (h : ChI E l i0 st0 (.ok a) s i) (hlt : a < l.length) (hp : (peek l a).data.toList = sDay) (hs : s.day = true) (s' : Seen) (i' : Amd) : ChI E l i0 st0 (.error (offAt l a, 7)) s' i' :=
  h.round hlt fun f => by
    simp only [changes, if_neg (Nat.not_le.2 hlt), hp, show prio sDay = none from by decide, show ¬ sDay = sPartial from by decide, show ¬ sDay = sWhole from by decide, show ¬ sDay = sAmount from by decide, hs, if_true, if_false]; rfl
theorem ChI.dayOk {E : Env} {l : List Tok} {i0 i : Amd} {st0 : St} {a : Nat} {s : Seen} (h : ChI E l i0 st0 (.ok a) s i) (hlt : a < l.length) (hp : (peek l a).data.toList = sDay) (hs : s.day = false) : ChI E l i0 st0 (step (day E l) 0 (.ok (a + 1))).2 { s with day := true } { i with hasSettleDay := true, settleDay := (step (day E l) 0 (.ok (a + 1))).1 } :=
  h.round hlt fun f => by
    have e : changes E l (f + 1) s i a = bind' (day E l) (fun n => changes E l f { s with day := true } { i with hasSettleDay := true, settleDay := n }) (a + 1) := by
      simp only [changes, if_neg (Nat.not_le.2 hlt), hp, show prio sDay = none from by decide, show ¬ sDay = sPartial from by decide, show ¬ sDay = sWhole from by decide, show ¬ sDay = sAmount from by decide, hs, if_true, if_false, Bool.false_eq_true]
    cases hq : day E l (a + 1) with
    | error er => rw [step_er hq]; exact e.trans (bind_error hq)
    | ok x =>
      obtain ⟨x, b⟩ := x
      rw [step_ok hq]
      have := take_next hq
      exact ⟨by omega, e.trans (bind_ok hq)⟩
theorem ChI.none {E : Env} {l : List Tok} {i0 i : Amd} {st0 : St} {a : Nat} {s : Seen} (h : ChI E l i0 st0 (.ok a) s i) (hlt : a < l.length) (hp : prio (peek l a).data.toList = .none) (h1 : (peek l a).data.toList ≠ sPartial) (h2 : (peek l a).data.toList ≠ sWhole) (h3 : (peek l a).data.toList ≠ sAmount) (h4 : (peek l a).data.toList ≠ sDay) (s' : Seen) (i' : Amd) : ChI E l i0 st0 (.error (offAt l a, 30)) s' i' :=
  h.round hlt fun f => by
    simp only [changes, if_neg (Nat.not_le.2 hlt), hp, if_neg h1, if_neg h2, if_neg h3, if_neg h4]; rfl

end Go.Proofs.YthijakidnkhbnaaGreatDoor.Ps

namespace Go.Proofs.YthijakidnkhbnaaGreatDoor
open Go.RowKit

/-- append onto an own row, and where the new slice lies -/
theorem own_append {w : World} (t ty e : TypeId) (i : TypeInfo) (z : Value) (size bytes : Nat) (ht : Tryz.prog.underlying t = some (.slice e)) (hi : Tryz.prog.info? e = some i) (hz : i.zero = some z)
    (hsize : i.size = size) (hby : i.bytes = bytes) (hzs : z.cells.size = size) (hsz : 0 < size) (base : Nat) (v : Value) (n : Nat) (xs : List Value) (hown : w.ownsRow base e size v n xs)
    (a2 : Option Addr) (m c : Nat) (news : List Value) (hl : news.length = m * size) (hnews : ∀ ad, a2 = some ad → ∀ j u, news[j]? = some u → w.cell? (ad.add j) = some u) (h0 : a2 = none → m = 0) (h1 : ∀ u ∈ news, u.oneCell' = true)
    (h63 : n + m ≤ maxLen) (hbytes : (n + m) * bytes ≤ 140737488355328) (hbase : base ≤ w.heap.size) :
    ∃ v' w', (Builtin.append_ #[t, t] ty #[v, .slice a2 m c]).run Tryz.prog w = .ok v' w' ∧ w'.ownsRow base e size v' (n + m) (xs ++ news) ∧ w.grownBy w' v.ownBlock ∧ (v'.ownBlock = v.ownBlock ∨ v'.ownBlock = some w.heap.size) := by
  cases a2 with
  | none =>
    obtain rfl := h0 rfl
    obtain rfl : news = [] := List.eq_nil_of_length_eq_zero (by omega)
    refine ⟨v, w, ?_, by simpa using hown, ⟨rfl, rfl, rfl, Nat.le_refl _, fun _ _ _ => rfl⟩, .inl rfl⟩
    rcases hown.2 with ⟨rfl, rfl⟩ | ⟨g, cap, cur, rfl, _, _, hnc, _⟩
    · simp [Builtin.append_, run_underlying ht, sizeOf, typeInfo, hi, Builtin.lenOf, Builtin.firstCells]
    · simp [Builtin.append_, run_underlying ht, sizeOf, typeInfo, hi, Builtin.lenOf, Builtin.firstCells, hnc, storeCells]
  | some ad =>
    obtain ⟨v', w', hr, ho, hg, _, hat⟩ := run_append_own_at (P := Tryz.prog) w base t ty e i z size bytes ht hi hz hsize hby hzs hsz v n xs hown ad m c news hl (hnews ad rfl) h1 h63 hbytes hbase
    exact ⟨v', w', hr, ho, hg, hat⟩
theorem own_slice {w : World} {B : Nat} {t : TypeId} {sz : Nat} {v : Value} {n : Nat} {xs : List Value} (h : w.ownsRow B t sz v n xs) : ∃ a c, v = .slice a n c := by
  obtain ⟨_, ⟨rfl, rfl⟩ | ⟨g, cap, cur, rfl, _⟩⟩ := h
  · exact ⟨none, 0, rfl⟩
  · exact ⟨_, cap, rfl⟩
theorem own_keep {W W' : World} {B : Nat} {t : TypeId} {sz : Nat} {v : Value} {n : Nat} {xs : List Value} (h : W.ownsRow B t sz v n xs) (hb : ∀ g, v.ownBlock = some g → W'.heap[g]? = W.heap[g]?) : W'.ownsRow B t sz v n xs := by
  refine ⟨h.1, ?_⟩
  rcases h.2 with hn | ⟨g, cap, cur, hv, hB, hh, rest⟩
  · exact .inl hn
  · exact .inr ⟨g, cap, cur, hv, hB, (hb g (by simp [hv, Value.ownBlock])).trans hh, rest⟩
theorem own_formT {w : World} {B sz : Nat} {t : TypeId} {v : Value} {n : Nat} {xs : List Value} (h : w.ownsRow B t sz v n xs) (hn : 0 < n) : ∃ sb cap, v = .slice (some ⟨sb, 0, none⟩) n cap ∧ sb < w.heap.size ∧ ∀ (k : Nat) (x : Value), xs[k]? = some x → w.cell? ⟨sb, k, none⟩ = some x := by
  obtain ⟨hl, ⟨_, h0⟩ | ⟨g, cap, cur, hv, hB, hh, hnc, hcap, hcur, htake⟩⟩ := h
  · omega
  · refine ⟨g, cap, hv, (Array.getElem?_eq_some_iff.1 hh).1, fun k x hk => ?_⟩
    have hk3 : k < xs.length := (List.getElem?_eq_some_iff.1 hk).1
    rw [← htake, List.getElem?_take_of_lt (by omega)] at hk
    rw [cell_of_row _ _ _ _ _ _ hh]
    simpa using hk

theorem owns_mono {W : World} {B B' : Nat} {t : TypeId} {sz : Nat} {v : Value} {n : Nat} {xs : List Value} (h : W.ownsRow B t sz v n xs) (hB : B' ≤ B) : W.ownsRow B' t sz v n xs := by
  obtain ⟨h1, h2 | ⟨g, cap, cur, hv, hb, r⟩⟩ := h
  · exact ⟨h1, .inl h2⟩
  · exact ⟨h1, .inr ⟨g, cap, cur, hv, Nat.le_trans hB hb, r⟩⟩

/-- an append whose run is known, at a step of a region that draws its order -/
theorem step_append_eq {P : Program} {w : World} {ops : Array Oper} {o : Oper} {a : Act} {K : Act → World → Prop} {Q : Exit → Act → World → Prop} {E : Prop} (hgd : o.guard = none) (s x : Operand) (t : TypeId)
    (ho : o.op = .call { callee := .builtin .append, args := #[s, x], argTypes := #[t, t] }) (v v2 v' : Value) (w' : World) (hs : a.eval s = v) (hx : a.eval x = v2)
    (hrun : (Builtin.append_ #[t, t] o.type #[v, v2]).run P w = .ok v' w') (h : K (a.put o.dst v') w') :
    if Region.wanted o (yielded ops a.tmps) = true then Oper.wp P o a w K Q else E := by
  have hw : Region.wanted o (yielded ops a.tmps) = true := by simp [Region.wanted, hgd]
  rw [if_pos hw]
  unfold Oper.wp execOp
  simp only [ho, resolve, invoke, builtin, Sem.run_bind, Sem.run_pure, Result.andThen_ok, List.map_toArray, List.map_cons, List.map_nil, hs, hx, hrun]
  exact h


/-- a call that is wanted, in a region that draws -/
theorem step_callg {P : Program} {ops : Array Oper} {o : Oper} {a : Act} {w : World} {K : Act → World → Prop} {Q : Exit → Act → World → Prop} {E : Prop} (hw : Region.wanted o (yielded ops a.tmps) = true) (k : FuncId) (xo : Array Operand) (ts : Array TypeId)
    (hop : o.op = Op.call { callee := Callee.value (Operand.func k), args := xo, argTypes := ts }) (hent : ∀ args w, (callFunc k args).run P w = .ok (.enter k args) w) (args : Array Value) (hargs : xo.map a.eval = args)
    (h : Calls P k args w fun e w' => ∃ v, e = .returned v ∧ K (a.put o.dst v) w') : if Region.wanted o (yielded ops a.tmps) = true then Oper.wp P o a w K Q else E := by
  rw [if_pos hw]
  have ha : a.eval (Operand.func k) = .func (.func k) #[] #[] := rfl
  unfold Oper.wp
  simp [execOp, hop, resolve, invoke, ha, hargs, Deferred.ofValue, hent]
  rw [Oper.upon_enter]
  refine h.mono ?_
  rintro e w' ⟨v, rfl, hK⟩
  exact hK

/-! ### links, requests -/
def lkCells (ks : List Ps.Link) : List Value := ks.flatMap fun x => [.int .i64 x.type, .string x.ref]
theorem lkCells_snoc (ks : List Ps.Link) (x : Ps.Link) : lkCells (ks ++ [x]) = lkCells ks ++ [.int .i64 x.type, .string x.ref] := by unfold lkCells; rw [List.flatMap_append]; rfl
/-- a slice of links, a row of its own at or behind B -/
def LkAt (w : World) (B : Nat) (lv : Value) (ks : List Ps.Link) : Prop := w.ownsRow B 117 2 lv ks.length (lkCells ks)
theorem LkAt.nil (w : World) (B : Nat) : LkAt w B (.slice none 0 0) [] := World.ownsRow_nil _ _ _ _
theorem LkAt.keep {w w' : World} {B : Nat} {lv : Value} {ks : List Ps.Link} (h : LkAt w B lv ks) {r q : Nat} (hT : Tch r q w w') (hr : r < B) (hq : q < B) : LkAt w' B lv ks := by
  refine own_keep h fun g hg => ?_
  obtain ⟨_, ⟨rfl, _⟩ | ⟨g', cap, cur, rfl, hB, hh, _⟩⟩ := h
  · simp [Value.ownBlock] at hg
  · obtain rfl : g' = g := by simpa [Value.ownBlock] using hg
    exact hT.block g' (Array.getElem?_eq_some_iff.1 hh).1 (by omega) (by omega)
theorem LkAt.slice {w : World} {B : Nat} {lv : Value} {ks : List Ps.Link} (h : LkAt w B lv ks) : ∃ a c, lv = .slice a ks.length c := own_slice h

/-- the cells of an instruction, of an amendment, of a request -/
def insCells (i : Ps.Ins) (lv : Value) : List Value := [.string i.ref, .int .i64 i.kind, .string i.sender, .string i.counterparty, .int .i64 i.side, .string i.asset, .int .i64 i.quantity, .int .i64 i.amount, .int .i64 i.tradeDay, .int .i64 i.settleDay, .int .i64 i.priority,
  .bool i.partial_, .int .i64 i.minLot, .bool i.hold, .bool i.reserve, lv]
def amdCells (a : Ps.Amd) : List Value := [.bool a.hasAmount, .bool a.hasSettleDay, .bool a.hasPriority, .bool a.hasPartial, .int .i64 a.amount, .int .i64 a.settleDay, .int .i64 a.priority, .bool a.partial_, .int .i64 a.minLot]
def reqCells (q : Ps.Req) (lv : Value) : Array Value := (([Value.int .i64 q.op, .string q.sender, .string q.ref] : List Value) ++ insCells q.ins lv ++ amdCells q.amd).toArray
theorem reqCells_size (q : Ps.Req) (lv : Value) : (reqCells q lv).size = 28 := rfl

/-- a reader and a request in memory; its links lie at or behind B -/
def QrAt (W0 W : World) (r tb cap q : Nat) (l : List Ps.Tok) (B : Nat) (st : Ps.St) (Q : Ps.Req) (w : World) : Prop :=
  r < B ∧ q < B ∧ ∃ lv, RqAt W0 W r tb cap q l st (reqCells Q lv) w ∧ LkAt w B lv Q.ins.links

theorem QrAt.step {W0 W : World} {r tb cap q B : Nat} {l : List Ps.Tok} {st st' : Ps.St} {Q : Ps.Req} {w w' : World} (h : QrAt W0 W r tb cap q l B st Q w) (h1 : PsAt W0 w' r tb cap l st') (h2 : Tch r r w w') : QrAt W0 W r tb cap q l B st' Q w' := by
  obtain ⟨a, b, lv, c, d⟩ := h
  exact ⟨a, b, lv, c.step h1 h2, d.keep h2 a a⟩
theorem QrAt.rd {W0 W : World} {r tb cap q B : Nat} {l : List Ps.Tok} {st : Ps.St} {Q : Ps.Req} {w : World} (h : QrAt W0 W r tb cap q l B st Q w) : PsAt W0 w r tb cap l st := by
  obtain ⟨a, b, lv, c, d⟩ := h
  exact c.1
theorem QrAt.cell {W0 W : World} {r tb cap q B : Nat} {l : List Ps.Tok} {st : Ps.St} {Q : Ps.Req} {w : World} (h : QrAt W0 W r tb cap q l B st Q w) (j : Nat) (hj : j < 28) : (∃ u, w.cell? ⟨q, j, none⟩ = some u) ∧ w.frozen? ⟨q, j, none⟩ = false := by
  obtain ⟨a, b, lv, c, d⟩ := h
  exact c.cell j hj
/-- a store that turns the request's value, its links left as they are -/
theorem QrAt.store {W0 W : World} {r tb cap q B : Nat} {l : List Ps.Tok} {st : Ps.St} {Q : Ps.Req} {w : World} (h : QrAt W0 W r tb cap q l B st Q w) (j : Nat) (v : Value) (Q' : Ps.Req) (hQ : ∀ lv, (reqCells Q lv).setIfInBounds j v = reqCells Q' lv) (hl : Q'.ins.links = Q.ins.links) : QrAt W0 W r tb cap q l B st Q' (w.setCell ⟨q, j, none⟩ v) := by
  obtain ⟨a, b, lv, c, d⟩ := h
  refine ⟨a, b, lv, ?_, ?_⟩
  · rw [← hQ lv]; exact c.store j v
  · rw [hl]
    exact d.keep ((Tch.refl q q w).setCell j v) b b

end Go.Proofs.YthijakidnkhbnaaGreatDoor

namespace Go.Proofs.YthijakidnkhbnaaGreatDoor
open Go.RowKit

def psE (Fc Fq Fd : ByteArray → Int × Int) : Ps.Env := { valid := fun k s => decide (idCheckE k s = 0), cash := Fc, number := Fq, date := Fd }
theorem psE_ident (Fc Fq Fd : ByteArray → Int × Int) (l : List Ps.Tok) (k : Nat) (ks : List Int) : Ps.ident (psE Fc Fq Fd) l k ks = Ps.take l (fun s => (s, idCode k s)) ks := by
  unfold Ps.ident
  congr 1
  funext s
  simp only [psE, idCode, decide_eq_true_eq]
theorem psE_ref (Fc Fq Fd : ByteArray → Int × Int) (l : List Ps.Tok) : Ps.ref (psE Fc Fq Fd) l = psRef l := psE_ident _ _ _ l 2 _
theorem psE_member (Fc Fq Fd : ByteArray → Int × Int) (l : List Ps.Tok) : Ps.member (psE Fc Fq Fd) l = psMember l := psE_ident _ _ _ l 1 _
theorem psE_isin (Fc Fq Fd : ByteArray → Int × Int) (l : List Ps.Tok) : Ps.isin (psE Fc Fq Fd) l = psIsin l := psE_ident _ _ _ l 0 _
theorem psE_day (Fc Fq Fd : ByteArray → Int × Int) (hd : ∀ s, (Fd s).2 = 0 ∨ Fd s = (0, 28)) (l : List Ps.Tok) : Ps.day (psE Fc Fq Fd) l = Ps.take l Fd [4] := by
  unfold Ps.day
  congr 1
  funext s
  show ((Fd s).1, if (Fd s).2 = 0 then (0 : Int) else 28) = Fd s
  rcases hd s with h | h
  · rw [if_pos h]; exact Prod.ext rfl h.symm
  · rw [h]; rfl
theorem psE_by (Fc Fq Fd : ByteArray → Int × Int) (l : List Ps.Tok) : Ps.by_ (psE Fc Fq Fd) l = psBy l := by unfold Ps.by_ psBy; rw [psE_member]

/-- parties: the strings, the state behind them -/
def parS (l : List Ps.Tok) (st : Ps.St) : (ByteArray × ByteArray) × Ps.St :=
  let a := Ps.step (psMember l) ⟨#[]⟩ (Ps.step (Ps.word l Ps.sFrom) () st).2
  let b := Ps.step (psMember l) ⟨#[]⟩ (Ps.step (Ps.word l Ps.sTo) () a.2).2
  ((a.1, b.1), b.2)
theorem parS_res (Fc Fq Fd : ByteArray → Int × Int) (l : List Ps.Tok) (st : Ps.St) : Ps.Res (Ps.parties (psE Fc Fq Fd) l) st (parS l st).2 (parS l st).1 := by
  unfold Ps.parties
  rw [psE_member]
  exact Ps.Res.bind (Ps.Res.of_step _ () _) (Ps.Res.bind (Ps.Res.of_step _ ⟨#[]⟩ _) (Ps.Res.bind (Ps.Res.of_step _ () _) (Ps.Res.bind (Ps.Res.of_step _ ⟨#[]⟩ _) (Ps.Res.pure _ _))))
theorem ps_parS {W0 : World} {l : List Ps.Tok} (hl : ToksOk l) (env : PsEnv W0) (W : World) (r tb cap : Nat) (st : Ps.St) (h : PsAt W0 W r tb cap l st) :
    Calls Tryz.prog 88 #[.pointer (some ⟨r, 0, none⟩)] W fun e W' => e = .returned (.tuple #[.string (parS l st).1.1, .string (parS l st).1.2]) ∧ PsAt W0 W' r tb cap l (parS l st).2 ∧ Tch r r W W' := by
  unfold parS
  simp only []
  obtain ⟨s1, hs1⟩ : ∃ s1, s1 = (Ps.step (Ps.word l Ps.sFrom) () st).2 := ⟨_, rfl⟩
  obtain ⟨x, hx⟩ : ∃ x, x = (Ps.step (psMember l) ⟨#[]⟩ s1).1 := ⟨_, rfl⟩
  obtain ⟨s2, hs2⟩ : ∃ s2, s2 = (Ps.step (psMember l) ⟨#[]⟩ s1).2 := ⟨_, rfl⟩
  obtain ⟨s3, hs3⟩ : ∃ s3, s3 = (Ps.step (Ps.word l Ps.sTo) () s2).2 := ⟨_, rfl⟩
  obtain ⟨y, hy⟩ : ∃ y, y = (Ps.step (psMember l) ⟨#[]⟩ s3).1 := ⟨_, rfl⟩
  obtain ⟨s4, hs4⟩ : ∃ s4, s4 = (Ps.step (psMember l) ⟨#[]⟩ s3).2 := ⟨_, rfl⟩
  rw [← hs1, ← hx, ← hs2, ← hs3, ← hy, ← hs4]
  refine (ps_partiesL W r x y (fun w => PsAt W0 w r tb cap l s1 ∧ Tch r r W w) (fun w => PsAt W0 w r tb cap l s2 ∧ Tch r r W w) (fun w => PsAt W0 w r tb cap l s3 ∧ Tch r r W w) (fun w => PsAt W0 w r tb cap l s4 ∧ Tch r r W w)
    (by rw [hs1]; exact ps_wordAt hl h ⟨#[102, 114, 111, 109]⟩) (Lib.hid fun w hw => ?_) (Lib.hid fun w hw => ?_) (Lib.hid fun w hw => ?_))
  · rw [hx, hs2]
    exact (ps_member hl env w r tb cap _ hw.1).mono fun e W' ⟨h1, h2, h3⟩ => ⟨h1, h2, hw.2.trans h3⟩
  · rw [hs3]
    exact (ps_wordAt hl hw.1 ⟨#[116, 111]⟩).mono fun e W' ⟨h1, h2, h3⟩ => ⟨h1, h2, hw.2.trans h3⟩
  · rw [hy, hs4]
    exact (ps_member hl env w r tb cap _ hw.1).mono fun e W' ⟨h1, h2, h3⟩ => ⟨h1, h2, hw.2.trans h3⟩

abbrev nilL : Value := .slice none 0 0

/-- the contract of options -/
def OptC (W0 W : World) (r tb cap q : Nat) (l : List Ps.Tok) (E : Ps.Env) : Prop := ∀ (st : Ps.St) (Q : Ps.Req) (w : World), RqAt W0 W r tb cap q l st (reqCells Q nilL) w → Q.ins.links = [] →
  Calls Tryz.prog 92 #[.pointer (some ⟨r, 0, none⟩), .pointer (some ⟨q, 3, none⟩)] w fun e W' => e = .returned (.tuple #[]) ∧ ∃ st' i', QrAt W0 W r tb cap q l W.heap.size st' { Q with ins := i' } W' ∧ Ps.Res (Ps.options E l (l.length + 1) {} Q.ins) st st' i'

/-- the cells of a request after a store -/
theorem RqAt.put {W0 W : World} {r tb cap q : Nat} {l : List Ps.Tok} {st : Ps.St} {Q : Ps.Req} {lv : Value} {w : World} (h : RqAt W0 W r tb cap q l st (reqCells Q lv) w) (j : Nat) (v : Value) (Q' : Ps.Req) (hQ : (reqCells Q lv).setIfInBounds j v = reqCells Q' lv) : RqAt W0 W r tb cap q l st (reqCells Q' lv) (w.setCell ⟨q, j, none⟩ v) := by
  rw [← hQ]; exact h.store j v

theorem ps_payment {W0 W : World} {r tb cap q : Nat} {l : List Ps.Tok} {st : Ps.St} {Q : Ps.Req} {w : World} (hl : ToksOk l) (env : PsEnv W0) (Fc Fq Fd : ByteArray → Int × Int) (hFc : PsNum 133 W0 Fc) (hFd : PsNum 134 W0 Fd) (hd : ∀ s, (Fd s).2 = 0 ∨ Fd s = (0, 28))
    (hopt : OptC W0 W r tb cap q l (psE Fc Fq Fd)) (h : RqAt W0 W r tb cap q l st (reqCells Q nilL) w) (hk : Q.ins.links = []) :
    Calls Tryz.prog 53 #[.pointer (some ⟨r, 0, none⟩), .pointer (some ⟨q, 0, none⟩)] w fun e W' => e = .returned (.tuple #[]) ∧ ∃ st' i', QrAt W0 W r tb cap q l W.heap.size st' { Q with ins := i' } W' ∧ Ps.Res (Ps.payment (psE Fc Fq Fd) l Q.ins) st st' i' := by
  obtain ⟨x, hx⟩ : ∃ x, x = (parS l st).1.1 := ⟨_, rfl⟩
  obtain ⟨y, hy⟩ : ∃ y, y = (parS l st).1.2 := ⟨_, rfl⟩
  obtain ⟨s1, hs1⟩ : ∃ s1, s1 = (parS l st).2 := ⟨_, rfl⟩
  obtain ⟨s2, hs2⟩ : ∃ s2, s2 = (Ps.step (Ps.word l Ps.sAmount) () s1).2 := ⟨_, rfl⟩
  obtain ⟨n, hn⟩ : ∃ n, n = (Ps.step (Ps.take l Fc [3]) 0 s2).1 := ⟨_, rfl⟩
  obtain ⟨s3, hs3⟩ : ∃ s3, s3 = (Ps.step (Ps.take l Fc [3]) 0 s2).2 := ⟨_, rfl⟩
  obtain ⟨s4, hs4⟩ : ∃ s4, s4 = (Ps.step (Ps.word l Ps.sDay) () s3).2 := ⟨_, rfl⟩
  obtain ⟨d, hdd⟩ : ∃ d, d = (Ps.step (Ps.take l Fd [4]) 0 s4).1 := ⟨_, rfl⟩
  obtain ⟨s5, hs5⟩ : ∃ s5, s5 = (Ps.step (Ps.take l Fd [4]) 0 s4).2 := ⟨_, rfl⟩
  have hres : ∀ st' i', Ps.Res (Ps.options (psE Fc Fq Fd) l (l.length + 1) {} { Q.ins with kind := 0, asset := Ps.sCash, sender := x, counterparty := y, amount := n, settleDay := d }) s5 st' i' → Ps.Res (Ps.payment (psE Fc Fq Fd) l Q.ins) st st' i' := by
    intro st' i' hr
    have h1 := parS_res Fc Fq Fd l st
    rw [← hs1, show (parS l st).1 = (x, y) from by rw [hx, hy]] at h1
    refine Ps.Res.bind h1 (Ps.Res.bind (st1 := s2) (y := (Ps.step (Ps.word l Ps.sAmount) () s1).1) ?_ (Ps.Res.bind (st1 := s3) (y := n) ?_ (Ps.Res.bind (st1 := s4) (y := (Ps.step (Ps.word l Ps.sDay) () s3).1) ?_ (Ps.Res.bind (st1 := s5) (y := d) ?_ hr))))
    · rw [hs2]; exact Ps.Res.of_step _ _ _
    · rw [hs3, hn]; exact Ps.Res.of_step _ _ _
    · rw [hs4]; exact Ps.Res.of_step _ _ _
    · rw [psE_day _ _ _ hd, hs5, hdd]; exact Ps.Res.of_step _ _ _
  have hz : ∀ (Q : Ps.Req) (lv : Value), (reqCells Q lv).size = 28 := fun Q lv => rfl
  refine ps_paymentL w r q x y n d
    (fun w => RqAt W0 W r tb cap q l st (reqCells { Q with ins := { Q.ins with kind := 0, asset := Ps.sCash } } nilL) w)
    (fun w => RqAt W0 W r tb cap q l s1 (reqCells { Q with ins := { Q.ins with kind := 0, asset := Ps.sCash } } nilL) w)
    (fun w => RqAt W0 W r tb cap q l s1 (reqCells { Q with ins := { Q.ins with kind := 0, asset := Ps.sCash, sender := x, counterparty := y } } nilL) w)
    (fun w => RqAt W0 W r tb cap q l s2 (reqCells { Q with ins := { Q.ins with kind := 0, asset := Ps.sCash, sender := x, counterparty := y } } nilL) w)
    (fun w => RqAt W0 W r tb cap q l s3 (reqCells { Q with ins := { Q.ins with kind := 0, asset := Ps.sCash, sender := x, counterparty := y } } nilL) w)
    (fun w => RqAt W0 W r tb cap q l s3 (reqCells { Q with ins := { Q.ins with kind := 0, asset := Ps.sCash, sender := x, counterparty := y, amount := n } } nilL) w)
    (fun w => RqAt W0 W r tb cap q l s4 (reqCells { Q with ins := { Q.ins with kind := 0, asset := Ps.sCash, sender := x, counterparty := y, amount := n } } nilL) w)
    (fun w => RqAt W0 W r tb cap q l s5 (reqCells { Q with ins := { Q.ins with kind := 0, asset := Ps.sCash, sender := x, counterparty := y, amount := n } } nilL) w)
    (fun w => RqAt W0 W r tb cap q l s5 (reqCells { Q with ins := { Q.ins with kind := 0, asset := Ps.sCash, sender := x, counterparty := y, amount := n, settleDay := d } } nilL) w)
    _ (h.two 4 8 _ (by rw [hz]; omega) (by rw [hz]; omega)) ((h.put 4 _ { Q with ins := { Q.ins with kind := 0 } } rfl).put 8 _ _ rfl)
    (Lib.hid fun w hw => ?_) (Lib.hid fun w hw => ⟨hw.two 5 6 _ (by rw [hz]; omega) (by rw [hz]; omega), (hw.put 5 _ { Q with ins := { Q.ins with kind := 0, asset := Ps.sCash, sender := x } } rfl).put 6 _ _ rfl⟩) (Lib.hid fun w hw => ?_) (Lib.hid fun w hw => ?_) (Lib.hid fun w hw => ⟨hw.cell 10 (by rw [hz]; omega), hw.put 10 _ _ rfl⟩) (Lib.hid fun w hw => ?_) (Lib.hid fun w hw => ?_) (Lib.hid fun w hw => ⟨hw.cell 12 (by rw [hz]; omega), hw.put 12 _ _ rfl⟩) (Lib.hid fun w hw => ?_)
  · rw [hx, hy, hs1]
    exact (ps_parS hl env w r tb cap _ hw.1).mono fun e W' ⟨h1, h2, h3⟩ => ⟨h1, hw.step h2 h3⟩
  · rw [hs2]
    exact (ps_wordAt hl hw.1 ⟨#[97, 109, 111, 117, 110, 116]⟩).mono fun e W' ⟨h1, h2, h3⟩ => ⟨h1, hw.step h2 h3⟩
  · rw [hn, hs3]
    exact (ps_cash hl Fc hFc w r tb cap _ hw.1).mono fun e W' ⟨h1, h2, h3⟩ => ⟨h1, hw.step h2 h3⟩
  · rw [hs4]
    exact (ps_wordAt hl hw.1 ⟨#[100, 97, 121]⟩).mono fun e W' ⟨h1, h2, h3⟩ => ⟨h1, hw.step h2 h3⟩
  · rw [hdd, hs5]
    exact (ps_day hl Fd hFd w r tb cap _ hw.1).mono fun e W' ⟨h1, h2, h3⟩ => ⟨h1, hw.step h2 h3⟩
  · refine (hopt _ _ w hw hk).mono ?_
    rintro e W' ⟨h1, st', i', h2, h3⟩
    exact ⟨h1, st', i', h2, hres st' i' h3⟩

end Go.Proofs.YthijakidnkhbnaaGreatDoor
