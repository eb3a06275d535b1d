/-
  Parse: its contract, given Check.
  Parse: its contract.
-/
import Derived.Test.YthijakidnkhbnaaGreatDoorPsPar
import Derived.Test.YthijakidnkhbnaaGreatDoorPsAmX
import Derived.Test.YthijakidnkhbnaaGreatDoorPsDat

namespace Go.Proofs.YthijakidnkhbnaaGreatDoor
open Go.RowKit

/-- what Parse needs of the world -/
structure PvEnv (m : Int) (kb ko kc : Nat) (W0 : World) : Prop where
  lx : LxEnv m kb ko kc W0
  id : PsEnv W0
  pr : ∀ w, Below W0.heap.size W0 w → PrEnv w
  am : AmEnv m W0
theorem PvEnv.below {m : Int} {kb ko kc : Nat} {W0 w : World} (h : PvEnv m kb ko kc W0) (hb : Below W0.heap.size W0 w) : PvEnv m kb ko kc w :=
  ⟨h.lx.below hb, fun w' hw' => h.id w' (hb.trans (hw'.mono hb.size)), fun w' hw' => h.pr w' (hb.trans (hw'.mono hb.size)), h.am.below hb⟩

/-- the reader's environment, the valid requests -/
def psE0 : Ps.Env := psE (amtOf amtP) qtyOf (dayOf Ps.dateOf)
def psR : Ps.Req → Int := Ps.reqE psE0.valid

theorem pv_cash {m : Int} {kb ko kc : Nat} {W0 : World} (h : PvEnv m kb ko kc W0) : PsNum 133 W0 (amtOf amtP) :=
  ps_amt m kb ko kc h.lx amtP fun w s hw hs hd => am_parseX s w m hs (h.am.below hw) hd
theorem pv_qty {m : Int} {kb ko kc : Nat} {W0 : World} (h : PvEnv m kb ko kc W0) : PsNum 168 W0 qtyOf := ps_qty m kb ko kc h.lx h.am
theorem pv_day (W0 : World) : PsNum 134 W0 (dayOf Ps.dateOf) :=
  ps_dayNum Ps.dateOf (fun s => by have := Ps.dateOf_le s; exact dt_wrap (by omega)) fun w s _ hs => dt_parse s w hs
theorem dayOf_or (D : ByteArray → Int × Int) (s : ByteArray) : (dayOf D s).2 = 0 ∨ dayOf D s = (0, 28) := by
  unfold dayOf
  split
  · exact .inl rfl
  · exact .inr rfl

/-- the contract of Check -/
def ChkC (W0 : World) : Prop := ∀ (w : World) (B : Nat) (Q : Ps.Req) (a : Option Addr) (n c : Nat), Below W0.heap.size W0 w → LkAt w B (.slice a n c) Q.ins.links →
  Calls Tryz.prog 26 #[.agg (reqCells Q (.slice a n c))] w fun e W' => e = .returned (.int .i64 (psR Q)) ∧ Below w.heap.size w W'

namespace Ps
/-- behind the rest of a line: the state, the request -/
def midS (E : Env) (l : List Tok) : St × Req :=
  if (peek l 0).data.toList ∈ verbs then ((step (bind' (ref E l) fun r => rest E l (peek l 0).data.toList { ref := r }) {} (.ok 1)).2, (step (bind' (ref E l) fun r => rest E l (peek l 0).data.toList { ref := r }) {} (.ok 1)).1)
  else (.error (offAt l 0, 30), {})
def endS (l : List Tok) : St → St
  | .ok b => if b < l.length then .error (offAt l b, 30) else .ok b
  | .error e => .error e
theorem line_eq (E : Env) (l : List Tok) (hl : 0 < l.length) : line E l 0 = match endS l (midS E l).1 with
    | .ok b => .ok ((midS E l).2, b)
    | .error e => .error e := by
  unfold line midS
  rw [if_neg (by omega)]
  by_cases hv : (peek l 0).data.toList ∈ verbs
  · rw [if_pos hv, if_pos hv]
    simp only []
    cases hr : ref E l 1 with
    | error e =>
      rw [show (0 + 1 : Nat) = 1 from rfl, bind_error hr, step_er (bind_error hr)]
      rfl
    | ok x =>
      obtain ⟨x, b⟩ := x
      rw [show (0 + 1 : Nat) = 1 from rfl, bind_ok hr]
      cases hq : rest E l (peek l 0).data.toList { ref := x } b with
      | error e => rw [bind_error hq, step_er (show bind' (ref E l) (fun r => rest E l (peek l 0).data.toList { ref := r }) 1 = .error e from by rw [bind_ok hr]; exact hq)]; rfl
      | ok y =>
        obtain ⟨y, d⟩ := y
        rw [bind_ok hq, step_ok (show bind' (ref E l) (fun r => rest E l (peek l 0).data.toList { ref := r }) 1 = .ok (y, d) from by rw [bind_ok hr]; exact hq)]
        show (if d < l.length then _ else _) = _
        unfold endS
        by_cases hd : d < l.length
        · simp only [if_pos hd]
        · simp only [if_neg hd]
  · rw [if_neg hv, if_neg hv]
    rfl

theorem Res.state {α : Type} {p : P α} {st st' : St} {x : α} (z : α) (h : Res p st st' x) : st' = (step p z st).2 := by
  cases st with
  | error e => exact h
  | ok a =>
    cases st' with
    | error e => rw [step_er (show p a = .error e from h)]
    | ok b => rw [step_ok (show p a = .ok (x, b) from h)]
theorem Res.value {α : Type} {p : P α} {st st' : St} {x : α} (z : α) (h : Res p st st' x) (b : Nat) (hb : st' = .ok b) : x = (step p z st).1 := by
  subst hb
  cases st with
  | error e => cases h
  | ok a => rw [step_ok (show p a = .ok (x, b) from h)]
end Ps

theorem verbs_eq : fmRows.map (fun x => x.1.data.toList) = Ps.verbs := rfl
theorem verbs_ne : ∀ a b : Fin 9, a < b → Ps.verbs[a.val]? ≠ Ps.verbs[b.val]? := by decide
theorem fm_low {j0 j : Nat} {v : Ps.Bs} (h0 : Ps.verbs[j0]? = some v) (hj : j < j0) {y : ByteArray × Nat} (hy : fmRows[j]? = some y) : y.1.data.toList ≠ v := by
  intro he
  have hl : j0 < 9 := (List.getElem?_eq_some_iff.1 h0).1
  have h1 : Ps.verbs[j]? = some y.1.data.toList := by rw [← verbs_eq, List.getElem?_map, hy]; rfl
  exact verbs_ne ⟨j, by omega⟩ ⟨j0, hl⟩ hj (by rw [h0]; show Ps.verbs[j]? = _; rw [h1, he])

/-- a verb that is found -/
theorem par_found {w Wr : World} {r tb cap q : Nat} {l : List Ps.Tok} {E : Ps.Env} (hl : ToksOk l) (env : PsEnv w) (hpos : 0 < l.length) (hrW : r < Wr.heap.size) (hqW : q < Wr.heap.size) (_hmany : l.length ≤ 1000000) (hE : Ps.ref E l = psRef l) (_fb : Nat)
    (t : ByteArray) (j0 : Nat) (v0 : ByteArray) (fn : Nat) (hj0 : fmRows[j0]? = some (v0, fn)) (htx : v0.data.toList = t.data.toList) (eg : ∀ args w, (callFunc fn args).run Tryz.prog w = .ok (.enter fn args) w) (hform : FormC fn w Wr r tb cap q l E t.data.toList)
    (P3 P7 : World → Prop) (hP3 : ∀ w', P3 w' → RqAt w Wr r tb cap q l (.ok 0) (reqCells {} nilL) w')
    (hP7 : ∀ st' Q' w', QrAt w Wr r tb cap q l Wr.heap.size st' Q' w' → Ps.Res (Ps.bind' (Ps.ref E l) fun x => Ps.rest E l t.data.toList { ref := x }) (.ok 1) st' Q' → P7 w') : ParMid r q t P3 P7 := by
  have hvj : Ps.verbs[j0]? = some t.data.toList := by rw [← htx, ← verbs_eq, List.getElem?_map, hj0]; rfl
  refine .found (fun b w' => RqAt w Wr r tb cap q l (.ok 1) (reqCells {} nilL) w' ∧ w'.heap[b]? = some (.cells #[.string v0, .func (.func fn) #[] #[]] 74 (0, 0)) ∧ Wr.heap.size ≤ b)
    (fun b w' => RqAt w Wr r tb cap q l (Ps.step (psRef l) ⟨#[]⟩ (.ok 1)).2 (reqCells {} nilL) w' ∧ w'.heap[b]? = some (.cells #[.string v0, .func (.func fn) #[] #[]] 74 (0, 0)) ∧ Wr.heap.size ≤ b)
    (fun b w' => RqAt w Wr r tb cap q l (Ps.step (psRef l) ⟨#[]⟩ (.ok 1)).2 (reqCells { ref := (Ps.step (psRef l) ⟨#[]⟩ (.ok 1)).1 } nilL) w' ∧ w'.heap[b]? = some (.cells #[.string v0, .func (.func fn) #[] #[]] 74 (0, 0)) ∧ Wr.heap.size ≤ b)
    j0 v0 fn (Ps.step (psRef l) ⟨#[]⟩ (.ok 1)).1 0 hj0 (by rw [Lib.toList_data, Lib.toList_data, htx]; exact beq_self_eq_true _) (fun j y hj hy => by rw [Lib.toList_data, Lib.toList_data, beq_eq_false_iff_ne]; exact fm_low hvj hj hy) eg (by unfold wrap64; omega)
    (Lib.hid ?_) (Lib.hid ?_) (Lib.hid ?_) (Lib.hid ?_) (Lib.hid ?_)
  · rintro w1 w2 h1 rfl
    have h2 := hP3 w1 h1
    have hb := (Below.refl w1.heap.size w1).alloc (Nat.le_refl _) (.cells #[.string v0, .func (.func fn) #[] #[]] 74)
    have h3 := h2.step (h2.1.below hb) (Tch.of_below hb)
    obtain ⟨c1, c2, c3⟩ := h3.inc hpos
    have hsz := h2.2.2.1.size
    have hrow := ps_alloc_new w1 (.cells #[.string v0, .func (.func fn) #[] #[]] 74)
    exact ⟨c1, c2, (c3.block _ (by simp) (by omega) (by omega)).trans hrow, hsz⟩
  · rintro w1 b ⟨h1, h2, h3⟩
    refine (ps_ref hl env w1 r tb cap _ h1.1).mono ?_
    rintro e W' ⟨c1, c2, c3⟩
    exact ⟨c1, h1.step c2 c3, (c3.block b (Array.getElem?_eq_some_iff.1 h2).1 (by omega) (by omega)).trans h2, h3⟩
  · rintro w1 b ⟨h1, h2, h3⟩
    refine ⟨h1.cell 2 (by show 2 < 28; omega), h1.put 2 _ _ rfl, ?_, h3⟩
    exact (((Tch.refl q q w1).setCell 2 _).block b (Array.getElem?_eq_some_iff.1 h2).1 (by omega) (by omega)).trans h2
  · rintro w1 b ⟨h1, h2, h3⟩
    rw [cell_of_row _ _ _ _ _ _ h2]; rfl
  · rintro w1 b ⟨h1, h2, h3⟩
    refine (hform _ _ w1 h1 rfl rfl).mono ?_
    rintro e W' ⟨c1, st', Q', c2, c3⟩
    refine ⟨c1, hP7 st' Q' W' c2 (Ps.Res.bind ?_ c3)⟩
    rw [hE]
    exact Ps.Res.of_step _ _ _


theorem verbs_mem {v : Ps.Bs} (h : v ∈ Ps.verbs) : v = Ps.sPay ∨ v = Ps.sDeliver ∨ v = Ps.sReceive ∨ v = Ps.sPledge ∨ v = Ps.sRelease ∨ v = Ps.sAmend ∨ v = Ps.sCancel ∨ v = Ps.sHold ∨ v = Ps.sResume := by
  simpa [Ps.verbs] using h

/-- what Parse leaves -/
def ParPost (w : World) (P : Ps.Req × Int × Int) (rv : Value) (o x : Int) (W' : World) : Prop :=
  (∃ lv, rv = .agg (reqCells P.1 lv) ∧ LkAt W' w.heap.size lv P.1.ins.links) ∧ o = P.2.1 ∧ x = P.2.2 ∧ Below w.heap.size w W'

theorem RqAt.other {W0 W : World} {r tb cap q : Nat} {l : List Ps.Tok} {st : Ps.St} {cs : Array Value} {w : World} (h : RqAt W0 W r tb cap q l st cs w) {g : Nat} {o : Obj} (hg : W.heap[g]? = some o) (h1 : g ≠ r) (h2 : g ≠ q) : w.heap[g]? = some o :=
  (h.2.2.1.block g (Array.getElem?_eq_some_iff.1 hg).1 h1 h2).trans hg

theorem par_tail {m : Int} {kb ko kc : Nat} {w w1 : World} (env : PvEnv m kb ko kc w) (chk : ChkC w) (tb cap g : Nat) (l : List Ps.Tok) (hl : ToksOk l) (hpos : 0 < l.length) (hcap : l.length ≤ cap) (hmany : l.length ≤ 1000000) (hg : g = w.heap.size)
    (hgz : w1.heap[g]? = some (.cells zeroReq 29 (0, 0))) (hb1 : Below w.heap.size w w1) (htb : g < tb) (htl : tb < w1.heap.size) (htok : LxHolds w1 tb l) (P : Ps.Req × Int × Int)
    (hP : P = match Ps.line psE0 l 0 with
      | .error e => ({}, e.1, e.2)
      | .ok (q, _) =>
        let q := if q.op = 0 then { q with sender := q.ins.sender, ins := { q.ins with ref := q.ref } } else q
        if psR q ≠ 0 then ({}, Ps.offAt l 0, psR q) else (q, 0, 0)) :
    ParTail g tb l.length cap w1 (ParPost w P) := by
  obtain ⟨r, hr⟩ : ∃ r, r = w1.heap.size := ⟨_, rfl⟩
  obtain ⟨q, hq⟩ : ∃ q, q = w1.heap.size + 1 := ⟨_, rfl⟩
  obtain ⟨Wr, hWr⟩ : ∃ Wr, Wr = (w1.alloc (.cells (rdCells tb l.length cap 0 0 0) 68)).alloc (.cells zeroReq 29) := ⟨_, rfl⟩
  have hsz1 : (w1.alloc (.cells (rdCells tb l.length cap 0 0 0) 68)).heap.size = w1.heap.size + 1 := by simp
  have hba : Below w1.heap.size w1 (w1.alloc (.cells (rdCells tb l.length cap 0 0 0) 68)) := (Below.refl _ _).alloc (Nat.le_refl _) _
  have hbb : Below (w1.heap.size + 1) (w1.alloc (.cells (rdCells tb l.length cap 0 0 0) 68)) Wr := by
    rw [hWr, ← hsz1]; exact (Below.refl _ _).alloc (Nat.le_refl _) _
  have hbr : Below w1.heap.size w1 Wr := hba.trans (hbb.mono (by omega))
  have hrr : Wr.heap[r]? = some (.cells (rdCells tb l.length cap 0 0 0) 68 (0, 0)) := by
    rw [hr, hbb.block w1.heap.size (by omega)]; exact ps_alloc_new w1 _
  have hqr : Wr.heap[q]? = some (.cells zeroReq 29 (0, 0)) := by
    rw [hWr, hq, ← hsz1]; exact ps_alloc_new _ _
  have hrW : r < Wr.heap.size := (Array.getElem?_eq_some_iff.1 hrr).1
  have hqW : q < Wr.heap.size := (Array.getElem?_eq_some_iff.1 hqr).1
  have hgW : Wr.heap[g]? = some (.cells zeroReq 29 (0, 0)) := (hbr.block g (by omega)).trans hgz
  have hbw : Below w.heap.size w Wr := hb1.trans (hbr.mono hb1.size)
  have hrd : RdSt Wr r tb cap l (.ok 0) := ⟨0, 0, 0, hrr, htok.below hbr htl, by omega, hpos, hcap, hmany, rfl, rfl, by omega⟩
  have hR0 : RqAt w Wr r tb cap q l (.ok 0) (reqCells {} nilL) Wr := ⟨⟨hrd, hbw, by have := hb1.size; omega⟩, hqr, Tch.refl _ _ _, by omega, by omega, by have := hb1.size; omega⟩
  have eid : PsEnv w := env.id
  have hdd : ∀ s, (dayOf Ps.dateOf s).2 = 0 ∨ dayOf Ps.dateOf s = (0, 28) := dayOf_or _
  have hopt : OptC w Wr r tb cap q l psE0 := ps_options hl eid env.pr _ _ _ (pv_qty env) hrW hqW
  have hchg : ChgC w Wr r tb cap q l psE0 := ps_changes hl env.pr _ _ _ (pv_cash env) (pv_qty env) (pv_day w) hdd hrW hqW
  obtain ⟨t, ht⟩ : ∃ t, t = Ps.peek l 0 := ⟨_, rfl⟩
  obtain ⟨st7, hst7⟩ : ∃ st7, st7 = (Ps.midS psE0 l).1 := ⟨_, rfl⟩
  obtain ⟨Q7, hQ7⟩ : ∃ Q7, Q7 = (Ps.midS psE0 l).2 := ⟨_, rfl⟩
  have hline := Ps.line_eq psE0 l hpos
  rw [← hst7, ← hQ7] at hline
  obtain ⟨st9, hst9⟩ : ∃ st9, st9 = Ps.endS l st7 := ⟨_, rfl⟩
  rw [← hst9] at hline
  have hgr : g ≠ r := by omega
  have hgq : g ≠ q := by omega
  refine .mk t (fun w' => RqAt w Wr r tb cap q l (.ok 0) (reqCells {} nilL) w') (fun w' => RqAt w Wr r tb cap q l (.ok 0) (reqCells {} nilL) w')
    (fun w' => ∃ Q', QrAt w Wr r tb cap q l Wr.heap.size st7 Q' w' ∧ ∀ b, st7 = .ok b → Q' = Q7) (fun w' => ∃ Q', QrAt w Wr r tb cap q l Wr.heap.size st7 Q' w' ∧ ∀ b, st7 = .ok b → Q' = Q7) (fun w' => ∃ Q', QrAt w Wr r tb cap q l Wr.heap.size st9 Q' w' ∧ ∀ b, st9 = .ok b → Q' = Q7)
    (fun fb w' => RqAt w Wr r tb cap q l (.ok 0) (reqCells {} nilL) w' ∧ w'.heap[fb]? = some (.cells fmCells.toArray 74 (0, 0))) (Ps.okAt l st7) hpos ?_ (Lib.hid ?_) (Lib.hid ?_) (Lib.hid ?_) (Lib.hid ?_) (Lib.hid ?_) (Lib.hid ?_) (Lib.hid ?_) (Lib.hid ?_) ?_
  · -- need
    rw [← hr, ← hWr]
    have n2 := ps_need hrd hl
    rw [show Ps.okAt l (.ok 0) = true from by simp [Ps.okAt, hpos], show Ps.needS l (.ok 0) = .ok 0 from by simp [Ps.needS, hpos]] at n2
    refine n2.mono ?_
    rintro e W' ⟨c1, c2, c3⟩
    exact ⟨c1, hR0.step (hR0.1.next c2 c3) c3⟩
  · -- peek
    rw [← hr]
    intro w' hw'
    refine (ps_peek hw'.1.rd).mono ?_
    rintro e w2 ⟨c1, k, rfl⟩
    have hbk := below_drewN' (Below.refl w'.heap.size w') k
    exact ⟨by rw [ht]; exact c1, hw'.step (hw'.1.below hbk) (Tch.of_below hbk)⟩
  · rintro w' w2 hw' rfl
    have hba := (Below.refl w'.heap.size w').alloc (Nat.le_refl _) (.cells fmCells.toArray 74)
    exact ⟨hw'.step (hw'.1.below hba) (Tch.of_below hba), ps_alloc_new w' _⟩
  · rintro fb w' cs ⟨c1, c2⟩
    have hba := (Below.refl w'.heap.size w').alloc (Nat.le_refl _) (.cells cs 74)
    exact ⟨c1.step (c1.1.below hba) (Tch.of_below hba), (hba.block fb (Array.getElem?_eq_some_iff.1 c2).1).trans c2⟩
  · rintro fb w' ⟨c1, c2⟩ j x hx
    obtain ⟨e1, e2⟩ := fm_at fmRows j x hx
    refine ⟨?_, ?_⟩
    · rw [cell_of_row _ _ _ _ _ _ c2, List.getElem?_toArray]; exact e1
    · rw [cell_of_row _ _ _ _ _ _ c2, List.getElem?_toArray]; exact e2
  · -- the middle
    rw [← hr, show r + 1 = q from by omega]
    intro fb
    by_cases hv : t.data.toList ∈ Ps.verbs
    · have hmid : Ps.midS psE0 l = ((Ps.step (Ps.bind' (Ps.ref psE0 l) fun x => Ps.rest psE0 l t.data.toList { ref := x }) {} (.ok 1)).2, (Ps.step (Ps.bind' (Ps.ref psE0 l) fun x => Ps.rest psE0 l t.data.toList { ref := x }) {} (.ok 1)).1) := by
        unfold Ps.midS; rw [← ht, if_pos hv]
      have fin : ∀ (j0 : Nat) (v0 : ByteArray) (fn : Nat), fmRows[j0]? = some (v0, fn) → v0.data.toList = t.data.toList → (∀ args w, (callFunc fn args).run Tryz.prog w = .ok (.enter fn args) w) → FormC fn w Wr r tb cap q l psE0 t.data.toList →
          ParMid r q t (fun w' => RqAt w Wr r tb cap q l (.ok 0) (reqCells {} nilL) w' ∧ w'.heap[fb]? = some (.cells fmCells.toArray 74 (0, 0))) (fun w' => ∃ Q', QrAt w Wr r tb cap q l Wr.heap.size st7 Q' w' ∧ ∀ b, st7 = .ok b → Q' = Q7) := fun j0 v0 fn hj0 hv0 eg hf =>
        par_found hl eid hpos hrW hqW hmany (psE_ref _ _ _ l) fb t j0 v0 fn hj0 hv0 eg hf _ _ (fun w' h => h.1) fun st' Q' w' h1 h2 => by
          have e1 := h2.state {}
          have e2 := h2.value {}
          rw [hst7, hQ7, hmid]
          refine ⟨Q', by have h3 := h1; rw [e1] at h3; exact h3, fun b hb => e2 b (by rw [e1]; exact hb)⟩
      rcases verbs_mem hv with h | h | h | h | h | h | h | h | h
      · exact fin 0 _ _ rfl h.symm (enters_of Tryz.func53 (by kernel_rfl) rfl) (by rw [h]; exact fm_payment hl eid _ _ _ (pv_cash env) (pv_day w) hdd hopt)
      · exact fin 1 _ _ rfl h.symm (enters_of Tryz.func54 (by kernel_rfl) rfl) (by rw [h]; exact fm_trade hl eid _ _ _ (pv_cash env) (pv_qty env) (pv_day w) hdd hopt)
      · exact fin 2 _ _ rfl h.symm (enters_of Tryz.func55 (by kernel_rfl) rfl) (by rw [h]; exact fm_receipt hl eid _ _ _ (pv_cash env) (pv_qty env) (pv_day w) hdd hopt)
      · exact fin 3 _ _ rfl h.symm (enters_of Tryz.func56 (by kernel_rfl) rfl) (by rw [h]; exact fm_pledge hl eid _ _ _ (pv_qty env) (pv_day w) hdd hrW hqW)
      · exact fin 4 _ _ rfl h.symm (enters_of Tryz.func57 (by kernel_rfl) rfl) (by rw [h]; exact fm_release hl eid _ _ _ (pv_qty env) (pv_day w) hdd hrW hqW)
      · exact fin 5 _ _ rfl h.symm (enters_of Tryz.func58 (by kernel_rfl) rfl) (by rw [h]; exact fm_amend hl eid _ _ _ hchg)
      · exact fin 6 _ _ rfl h.symm (enters_of Tryz.func59 (by kernel_rfl) rfl) (by rw [h]; exact fm_cancel hl eid _ _ _ hrW hqW)
      · exact fin 7 _ _ rfl h.symm (enters_of Tryz.func60 (by kernel_rfl) rfl) (by rw [h]; exact fm_hold hl eid _ _ _ hrW hqW)
      · exact fin 8 _ _ rfl h.symm (enters_of Tryz.func61 (by kernel_rfl) rfl) (by rw [h]; exact fm_resume hl eid _ _ _ hrW hqW)
    · have hmid : Ps.midS psE0 l = (.error (Ps.offAt l 0, 30), {}) := by unfold Ps.midS; rw [← ht, if_neg hv]
      refine .none (fun j y hy => ?_) (Lib.hid ?_)
      · rw [Lib.toList_data, Lib.toList_data, beq_eq_false_iff_ne]
        intro he
        apply hv
        rw [← he, ← verbs_eq]
        exact List.mem_map.2 ⟨y, List.mem_of_getElem? hy, rfl⟩
      · rintro w' ⟨c1, c2⟩
        refine (ps_fail c1.1.rd 30 (by decide) (fun b hb => by cases hb; exact hpos)).mono ?_
        rintro e W' ⟨h1, h2, h3⟩
        refine ⟨h1, {}, ?_, fun b hb => by rw [hst7, hmid] at hb; cases hb⟩
        rw [hst7, hmid]
        exact (c1.step (c1.1.next h2 h3) h3).qr hrW hqW rfl
  · -- more
    rw [← hr]
    rintro w' ⟨Q', c1, c2⟩
    refine (ps_more c1.rd.rd).mono ?_
    rintro e W' ⟨h1, k, rfl⟩
    exact ⟨h1, Q', c1.drewN k, c2⟩
  · -- fail
    rw [← hr]
    rintro hb w' ⟨Q', c1, c2⟩
    obtain ⟨b, hb7⟩ : ∃ b, st7 = .ok b := by cases hs : st7 with
      | ok b => exact ⟨b, rfl⟩
      | error e => rw [hs] at hb; cases hb
    have hlt : b < l.length := by rw [hb7] at hb; simpa [Ps.okAt] using hb
    have hf : Ps.failS l 30 st7 = st9 := by rw [hst9, hb7]; simp [Ps.endS, Ps.failS, hlt]
    refine (ps_fail c1.rd.rd 30 (by decide) (fun b' hb' => by rw [hb7] at hb'; cases hb'; exact hlt)).mono ?_
    rintro e W' ⟨h1, h2, h3⟩
    refine ⟨h1, Q', ?_, fun b' hb' => ?_⟩
    · have := c1.step (c1.rd.next h2 h3) h3
      rw [hf] at this
      exact this
    · rw [hst9, hb7] at hb'
      simp [Ps.endS, hlt] at hb'
  · rintro hb w' ⟨Q', c1, c2⟩
    have h9 : st9 = st7 := by
      rw [hst9]
      cases hs : st7 with
      | error e => rfl
      | ok b =>
        rw [hs] at hb
        have : ¬ b < l.length := by simpa [Ps.okAt] using hb
        simp [Ps.endS, this]
    rw [h9]
    exact ⟨Q', c1, c2⟩
  · -- the end
    rw [← hr, show r + 1 = q from by omega]
    cases h9 : st9 with
    | error er =>
      rw [h9] at hline
      simp only [] at hline
      rw [hline] at hP
      simp only [] at hP
      refine .err er.1 er.2 hgr (Lib.hid ?_)
      rintro w' ⟨Q', c1, c2⟩
      have hrd9 := c1.rd.rd
      obtain ⟨a, o, e, hrow, _, _, _, _, _, hst⟩ := hrd9
      obtain ⟨he, ho, hne⟩ := hst
      obtain ⟨_, _, k2, k3, _⟩ := ps_rows hrow
      obtain ⟨_, _, lv, c3, c4⟩ := c1
      have hg9 := c3.other hgW hgr hgq
      refine ⟨by rw [beq_eq_false_iff_ne, ← he]; exact hne, ⟨hg9, by rw [k2, ho], by rw [k3, he]⟩, ?_⟩
      rw [hP]
      refine ⟨⟨nilL, rfl, LkAt.nil _ _⟩, rfl, rfl, ?_⟩
      have := c3.1.base.drew
      rw [← hg] at this ⊢
      exact below_setRow this (Nat.le_refl _) zeroReq
    | ok b9 =>
      rw [h9] at hline
      simp only [] at hline
      rw [hline] at hP
      simp only [] at hP
      -- facts at the end
      have hend : ∀ w', (∃ Q', QrAt w Wr r tb cap q l Wr.heap.size (.ok b9) Q' w' ∧ ∀ b, (Except.ok b9 : Ps.St) = .ok b → Q' = Q7) → ∃ (qa : Option Addr) (qc : Nat), RqAt w Wr r tb cap q l (.ok b9) (reqCells Q7 (.slice qa Q7.ins.links.length qc)) w' ∧ LkAt w' Wr.heap.size (.slice qa Q7.ins.links.length qc) Q7.ins.links := by
        rintro w' ⟨Q', c1, c2⟩
        obtain rfl := c2 b9 rfl
        obtain ⟨_, _, lv, c3, c4⟩ := c1
        obtain ⟨qa, qc, rfl⟩ := c4.slice
        exact ⟨qa, qc, c3, c4⟩
      have hk3 : ∀ w', RqAt w Wr r tb cap q l (.ok b9) (reqCells Q7 (.slice none 0 0)) w' → True := fun _ _ => trivial
      have herr : ∀ (w' : World) (cs : Array Value), RqAt w Wr r tb cap q l (.ok b9) cs w' → w'.cell? ⟨r, 3, none⟩ = some (.int .i64 0) := by
        rintro w' cs c3
        obtain ⟨a, o, e, hrow, _, _, _, _, _, hst⟩ := c3.1.rd
        obtain ⟨_, he, _⟩ := hst
        rw [(ps_rows hrow).2.2.2.1, he]
      obtain ⟨Q2, hQ2⟩ : ∃ Q2, Q2 = if Q7.op = 0 then ({ Q7 with sender := Q7.ins.sender, ins := { Q7.ins with ref := Q7.ref } } : Ps.Req) else Q7 := ⟨_, rfl⟩
      rw [← hQ2] at hP
      have hl2 : Q2.ins.links = Q7.ins.links := by rw [hQ2]; split <;> rfl
      -- the check, and what it leaves
      have hchk : ∀ (w' : World) (qa : Option Addr) (qc : Nat), RqAt w Wr r tb cap q l (.ok b9) (reqCells Q2 (.slice qa Q7.ins.links.length qc)) w' → LkAt w' Wr.heap.size (.slice qa Q7.ins.links.length qc) Q7.ins.links →
          Calls Tryz.prog 26 #[.agg (reqCells Q2 (.slice qa Q7.ins.links.length qc))] w' fun e W' => e = .returned (.int .i64 (psR Q2)) ∧ W'.heap[g]? = some (.cells zeroReq 29 (0, 0)) ∧ W'.cell? ⟨tb, 2, none⟩ = some (.int .i64 (Ps.offAt l 0)) ∧ W'.heap[q]? = some (.cells (reqCells Q2 (.slice qa Q7.ins.links.length qc)) 29 (0, 0)) ∧
            LkAt W' Wr.heap.size (.slice qa Q7.ins.links.length qc) Q7.ins.links ∧ Below w.heap.size w W' := by
        intro w' qa qc c3 c4
        refine (chk w' Wr.heap.size Q2 qa _ qc c3.1.base (by rw [hl2]; exact c4)).mono ?_
        rintro e W' ⟨h1, h2⟩
        have hg9 := c3.other hgW hgr hgq
        obtain ⟨x, hx⟩ : ∃ x, l[0]? = some x := ⟨_, List.getElem?_eq_getElem hpos⟩
        have htk := (c3.1.rd.tok 0 x hx).2.2
        have hoff : Ps.offAt l 0 = x.2.2 := by unfold Ps.offAt; rw [hx]
        refine ⟨h1, (h2.block g (Array.getElem?_eq_some_iff.1 hg9).1).trans hg9, ?_, (h2.block q (Array.getElem?_eq_some_iff.1 c3.2.1).1).trans c3.2.1, c4.keep (Tch.of_below (r := r) (q := r) h2) hrW hrW, c3.1.base.trans (h2.mono c3.1.base.size)⟩
        rw [hoff]
        exact (h2.cell (p := ⟨tb, 2, none⟩) c3.1.rd.lt.2).trans htk
      have hbad : ∀ (W' : World), psR Q2 ≠ 0 → Below w.heap.size w W' → ParPost w P (.agg zeroReq) (Ps.offAt l 0) (psR Q2) (W'.drew.setRow g zeroReq) := by
        intro W' hne hb
        rw [if_pos hne] at hP
        rw [hP]
        refine ⟨⟨nilL, rfl, LkAt.nil _ _⟩, rfl, rfl, ?_⟩
        have := hb.drew
        rw [← hg] at this ⊢
        exact below_setRow this (Nat.le_refl _) zeroReq
      have hgood : ∀ (W' : World) (qa : Option Addr) (qc : Nat), psR Q2 = 0 → Below w.heap.size w W' → LkAt W' Wr.heap.size (.slice qa Q7.ins.links.length qc) Q7.ins.links → ParPost w P (.agg (reqCells Q2 (.slice qa Q7.ins.links.length qc))) 0 0 (W'.setRow g (reqCells Q2 (.slice qa Q7.ins.links.length qc))) := by
        intro W' qa qc hz hb hlk
        rw [if_neg (by rw [hz]; simp)] at hP
        rw [hP]
        refine ⟨⟨_, rfl, ?_⟩, rfl, rfl, ?_⟩
        · show LkAt _ w.heap.size _ Q2.ins.links
          rw [hl2]
          refine owns_mono (own_keep hlk fun b hb2 => setRow_ne W' g b _ ?_) hbw.size
          have h1 := (hlk.lt b hb2).1
          have h2 := hb1.size
          have h3 := hbr.size
          omega
        · rw [← hg] at hb ⊢
          exact below_setRow hb (Nat.le_refl _) _
      by_cases hop : Q7.op = 0
      · have hQ2e : Q2 = { Q7 with sender := Q7.ins.sender, ins := { Q7.ins with ref := Q7.ref } } := by rw [hQ2, if_pos hop]
        have hst : ∀ w' qa qc, RqAt w Wr r tb cap q l (.ok b9) (reqCells Q7 (.slice qa Q7.ins.links.length qc)) w' → LkAt w' Wr.heap.size (.slice qa Q7.ins.links.length qc) Q7.ins.links →
            (w'.cell? ⟨q, 0, none⟩ = some (.int .i64 0) ∧ w'.cell? ⟨q, 5, none⟩ = some (.string Q7.ins.sender) ∧ w'.cell? ⟨q, 2, none⟩ = some (.string Q7.ref) ∧ ((∃ u, w'.cell? ⟨q, 1, none⟩ = some u) ∧ (∃ u, w'.cell? ⟨q, 3, none⟩ = some u) ∧ w'.frozen? ⟨q, 1, none⟩ = false ∧ w'.frozen? ⟨q, 3, none⟩ = false ∧ (w'.setCell ⟨q, 1, none⟩ (.string Q7.ins.sender)).frozen? ⟨q, 3, none⟩ = false)) ∧
            RqAt w Wr r tb cap q l (.ok b9) (reqCells Q2 (.slice qa Q7.ins.links.length qc)) ((w'.setCell ⟨q, 1, none⟩ (.string Q7.ins.sender)).setCell ⟨q, 3, none⟩ (.string Q7.ref)) ∧ LkAt ((w'.setCell ⟨q, 1, none⟩ (.string Q7.ins.sender)).setCell ⟨q, 3, none⟩ (.string Q7.ref)) Wr.heap.size (.slice qa Q7.ins.links.length qc) Q7.ins.links := by
          intro w' qa qc c3 c4
          have d1 := c3.put 1 (.string Q7.ins.sender) { Q7 with sender := Q7.ins.sender } rfl
          have d2 := d1.put 3 (.string Q7.ref) Q2 (by rw [hQ2e]; rfl)
          have z : ∀ (Q : Ps.Req) (lv : Value), (reqCells Q lv).size = 28 := fun _ _ => rfl
          refine ⟨⟨?_, ?_, ?_, (c3.cell 1 (by rw [z]; omega)).1, (c3.cell 3 (by rw [z]; omega)).1, (c3.cell 1 (by rw [z]; omega)).2, (c3.cell 3 (by rw [z]; omega)).2, (d1.cell 3 (by rw [z]; omega)).2⟩, d2, ?_⟩
          · rw [cell_of_row _ _ _ _ _ _ c3.2.1]
            show some (Value.int .i64 Q7.op) = _
            rw [hop]
          · rw [cell_of_row _ _ _ _ _ _ c3.2.1]; rfl
          · rw [cell_of_row _ _ _ _ _ _ c3.2.1]; rfl
          · exact (c4.keep ((Tch.refl q q w').setCell 1 _) hqW hqW).keep ((Tch.refl q q _).setCell 3 _) hqW hqW
        by_cases hz : psR Q2 = 0
        · refine .subOk Q7.ins.sender Q7.ref (Lib.hid ?_)
          intro w' hw'
          obtain ⟨qa, qc, c3, c4⟩ := hend w' hw'
          obtain ⟨⟨d0, d5, d2, d6⟩, d7, d8⟩ := hst w' qa qc c3 c4
          refine ⟨Q2, qa, _, qc, herr w' _ c3, d0, d5, d2, d6, d7.2.1, (hchk _ qa qc d7 d8).mono ?_⟩
          rintro e W' ⟨h1, h2, h3, h4, h5, h6⟩
          exact ⟨by rw [h1, hz], h2, h4, hgood W' qa qc hz h6 h5⟩
        · refine .subBad Q7.ins.sender Q7.ref (Ps.offAt l 0) (psR Q2) (by rw [beq_eq_false_iff_ne]; exact hz) (by omega) (Lib.hid ?_)
          intro w' hw'
          obtain ⟨qa, qc, c3, c4⟩ := hend w' hw'
          obtain ⟨⟨d0, d5, d2, d6⟩, d7, d8⟩ := hst w' qa qc c3 c4
          refine ⟨Q2, qa, _, qc, herr w' _ c3, d0, d5, d2, d6, d7.2.1, (hchk _ qa qc d7 d8).mono ?_⟩
          rintro e W' ⟨h1, h2, h3, h4, h5, h6⟩
          exact ⟨h1, h2, h3, hbad W' hz h6⟩
      · have hQ2e : Q2 = Q7 := by rw [hQ2, if_neg hop]
        have hc0 : ∀ w' qa qc, RqAt w Wr r tb cap q l (.ok b9) (reqCells Q7 (.slice qa Q7.ins.links.length qc)) w' → w'.cell? ⟨q, 0, none⟩ = some (.int .i64 Q7.op) := fun w' qa qc c3 => by
          rw [cell_of_row _ _ _ _ _ _ c3.2.1]; rfl
        by_cases hz : psR Q2 = 0
        · refine .opOk Q7.op (by rw [beq_eq_false_iff_ne]; exact hop) (Lib.hid ?_)
          intro w' hw'
          obtain ⟨qa, qc, c3, c4⟩ := hend w' hw'
          have c5 := c3
          rw [← hQ2e] at c5
          rw [hl2] at c5
          refine ⟨Q2, qa, _, qc, herr w' _ c3, hc0 w' qa qc c3, c5.2.1, (hchk _ qa qc c5 c4).mono ?_⟩
          rintro e W' ⟨h1, h2, h3, h4, h5, h6⟩
          exact ⟨by rw [h1, hz], h2, h4, hgood W' qa qc hz h6 h5⟩
        · refine .opBad Q7.op (by rw [beq_eq_false_iff_ne]; exact hop) (Ps.offAt l 0) (psR Q2) (by rw [beq_eq_false_iff_ne]; exact hz) (by omega) (Lib.hid ?_)
          intro w' hw'
          obtain ⟨qa, qc, c3, c4⟩ := hend w' hw'
          have c5 := c3
          rw [← hQ2e] at c5
          rw [hl2] at c5
          refine ⟨Q2, qa, _, qc, herr w' _ c3, hc0 w' qa qc c3, c5.2.1, (hchk _ qa qc c5 c4).mono ?_⟩
          rintro e W' ⟨h1, h2, h3, h4, h5, h6⟩
          exact ⟨h1, h2, h3, hbad W' hz h6⟩

end Go.Proofs.YthijakidnkhbnaaGreatDoor

namespace Go.Proofs.YthijakidnkhbnaaGreatDoor.Lx
open Go
/-- tokens lie in their line, each of its kind -/
def TokIn (s : ByteArray) (t : Tok) : Prop := t.2.1.size ≤ s.size ∧ t.2.2 ≤ s.size ∧ ∃ x, x = classify t.2.1 ∧ x.2 = 0 ∧ t.1 = x.1
theorem tokAcc_in (s : ByteArray) : ∀ (f a : Nat) (acc : List Tok), a ≤ s.size → acc.length ≤ a → (∀ t ∈ acc, TokIn s t) → (tokAcc f s a acc).1.length ≤ s.size ∧ ∀ t ∈ (tokAcc f s a acc).1, TokIn s t
  | 0, a, acc, h1, h2, h3 => ⟨Nat.le_trans h2 h1, h3⟩
  | f + 1, a, acc, h1, h2, h3 => by
    unfold tokAcc
    split
    · exact ⟨Nat.le_trans h2 h1, h3⟩
    · rename_i hz
      have k1 := skip_le s a h1
      have k2 := size_le s (a + skip s a) k1
      obtain ⟨x, hx⟩ : ∃ x, x = s.extract (a + skip s a) (a + skip s a + size s (a + skip s a)) := ⟨_, rfl⟩
      have hxs : x.size ≤ s.size := by rw [hx, ByteArray.size_extract]; omega
      rw [← hx]
      obtain ⟨c, hc⟩ : ∃ c, c = classify x := ⟨_, rfl⟩
      rw [← hc]
      split
      · rename_i hc0
        refine tokAcc_in s f _ _ k2 (by rw [List.length_append]; simp only [List.length_singleton]; omega) fun t ht => ?_
        rcases List.mem_append.1 ht with h | h
        · exact h3 t h
        · have ht2 := List.mem_singleton.1 h
          rw [ht2]
          exact ⟨hxs, k1, c, hc, hc0, rfl⟩
      · exact ⟨Nat.zero_le _, fun t ht => by cases ht⟩
theorem tokenize_in (s : ByteArray) : (tokenize s).1.length ≤ 1024 ∧ ∀ t ∈ (tokenize s).1, t.2.1.size ≤ 1024 ∧ t.2.2 ≤ 1024 ∧ ∃ x, x = classify t.2.1 ∧ x.2 = 0 ∧ t.1 = x.1 := by
  unfold tokenize
  split
  · exact ⟨Nat.zero_le _, fun t ht => by cases ht⟩
  · have hu : (uncomment s).size ≤ 1024 := by
      unfold uncomment
      rw [ByteArray.size_extract]
      omega
    obtain ⟨h1, h2⟩ := tokAcc_in (uncomment s) ((uncomment s).size + 1) 0 [] (Nat.zero_le _) (Nat.le_refl _) (fun t ht => by cases ht)
    exact ⟨by omega, fun t ht => by obtain ⟨a, b, c⟩ := h2 t ht; exact ⟨by omega, by omega, c⟩⟩
end Go.Proofs.YthijakidnkhbnaaGreatDoor.Lx

namespace Go.Proofs.YthijakidnkhbnaaGreatDoor
open Go.RowKit

theorem pr_parse {m : Int} {kb ko kc : Nat} {w : World} (env : PvEnv m kb ko kc w) (chk : ChkC w) (s : ByteArray) (hs : s.size ≤ 9223372036854775807) :
    Calls Tryz.prog 9 #[.string s] w fun e W' => ∃ rv o x, e = .returned (.tuple #[rv, .int .i64 o, .int .i64 x]) ∧ ParPost w (Ps.parse psE0 psR s) rv o x W' := by
  have htok : ∀ W, Below w.heap.size w W → _ := fun W hW => lx_tokenize s W m kb ko kc hs (env.lx.below hW)
  have hin := Lx.tokenize_in s
  by_cases he : (Lx.tokenize s).2.2 = 0
  · by_cases hl : (Lx.tokenize s).1 = []
    · -- no token
      have hP : Ps.parse psE0 psR s = ({}, 0, 4) := by
        unfold Ps.parse
        rw [if_neg (by rw [he]; simp), hl]
        rfl
      refine (ps_parseNone w s (Lx.tokenize s).2.1 (Lib.hid fun W hW => (htok W hW).mono ?_)).mono ?_
      · rintro e W' ⟨v, rfl, h1, h2⟩
        rw [hl] at h1
        obtain ⟨a, c, rfl⟩ := own_slice h1
        exact ⟨a, c, by rw [he]; rfl, h2⟩
      · rintro e W' ⟨rfl, hb⟩
        refine ⟨_, _, _, rfl, ?_⟩
        rw [hP]
        exact ⟨⟨nilL, rfl, LkAt.nil _ _⟩, rfl, rfl, hb⟩
    · -- tokens
      have hpos : 0 < (Lx.tokenize s).1.length := List.length_pos_iff.2 hl
      refine (ps_parseMain w s (ParPost w (Ps.parse psE0 psR s)) (Lib.hid fun g hg => ?_))
      have hba := (Below.refl w.heap.size w).alloc (Nat.le_refl _) (.cells zeroReq 29)
      refine (htok _ hba).mono ?_
      rintro e w1 ⟨v, rfl, h1, h2⟩
      have hsz : (w.alloc (.cells zeroReq 29)).heap.size = w.heap.size + 1 := by simp
      rcases lx_toks_form h1 with ⟨_, h0⟩ | ⟨tb, cap, rfl, htb, htl, hold⟩
      · exact absurd h0 hl
      · have hcap : (Lx.tokenize s).1.length ≤ cap := by
          rcases h1.2 with ⟨hv, _⟩ | ⟨g', cap', cur, hv, hB, hh, hn, hcap', hcur, htake⟩
          · cases hv
          · cases hv; exact hn
        refine ⟨tb, _, cap, (Lx.tokenize s).2.1, by rw [he], ?_⟩
        have hgz : w1.heap[g]? = some (.cells zeroReq 29 (0, 0)) := by
          rw [hg, h2.block w.heap.size (by omega)]
          exact ps_alloc_new w _
        refine par_tail env chk tb cap g (Lx.tokenize s).1 (fun t ht => ?_) hpos hcap (by omega) hg hgz (hba.trans (h2.mono (by omega))) (by omega) htl hold _ ?_
        · obtain ⟨a, b, _⟩ := hin.2 t ht
          exact ⟨by omega, by omega⟩
        · unfold Ps.parse
          rw [if_neg (by rw [he]; simp)]
          cases Ps.line psE0 (Lx.tokenize s).1 0 with
          | error er => rfl
          | ok x => rfl
  · -- an error of the tokens
    have hP : Ps.parse psE0 psR s = ({}, (Lx.tokenize s).2.1, (Lx.tokenize s).2.2) := by
      unfold Ps.parse
      rw [if_pos he]
    refine (ps_parseTok w s (Lx.tokenize s).2.1 (Lx.tokenize s).2.2 he (Lib.hid fun W hW => (htok W hW).mono ?_)).mono ?_
    · rintro e W' ⟨v, rfl, h1, h2⟩
      exact ⟨v, rfl, h2⟩
    · rintro e W' ⟨rfl, hb⟩
      refine ⟨_, _, _, rfl, ?_⟩
      rw [hP]
      exact ⟨⟨nilL, rfl, LkAt.nil _ _⟩, rfl, rfl, hb⟩

end Go.Proofs.YthijakidnkhbnaaGreatDoor
