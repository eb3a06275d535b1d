/-
  The parser's reader in memory; its small methods: more, need, peek, fail, word.
  The parser's reader: peek, fail, word, once.
-/
import Derived.Test.YthijakidnkhbnaaGreatDoorLexWalk
import Derived.Test.YthijakidnkhbnaaGreatDoorPsPlain
import Derived.StillTailTactics
import Derived.Lib.Hide

namespace Go.Proofs.YthijakidnkhbnaaGreatDoor
open Go.RowKit

/-- at most the blocks r and q have turned -/
structure Tch (r q : Nat) (W W' : World) : Prop where
  os : W'.os = W.os
  tape : W'.tape = W.tape
  output : W'.output = W.output
  size : W.heap.size ≤ W'.heap.size
  block : ∀ j, j < W.heap.size → j ≠ r → j ≠ q → W'.heap[j]? = W.heap[j]?
theorem Tch.refl (r q : Nat) (W : World) : Tch r q W W := ⟨rfl, rfl, rfl, Nat.le_refl _, fun _ _ _ _ => rfl⟩
theorem Tch.trans {r q : Nat} {W W' W'' : World} (h : Tch r q W W') (k : Tch r q W' W'') : Tch r q W W'' :=
  ⟨k.os.trans h.os, k.tape.trans h.tape, k.output.trans h.output, Nat.le_trans h.size k.size, fun j hj h1 h2 => (k.block j (Nat.lt_of_lt_of_le hj h.size) h1 h2).trans (h.block j hj h1 h2)⟩
theorem Tch.left {r q : Nat} {W W' : World} (h : Tch r r W W') : Tch r q W W' := ⟨h.os, h.tape, h.output, h.size, fun j hj h1 _ => h.block j hj h1 h1⟩
theorem Tch.right {r q : Nat} {W W' : World} (h : Tch q q W W') : Tch r q W W' := ⟨h.os, h.tape, h.output, h.size, fun j hj _ h2 => h.block j hj h2 h2⟩
theorem Tch.of_below {r q : Nat} {W W' : World} (h : Below W.heap.size W W') : Tch r q W W' := ⟨h.os, h.tape, h.output, h.size, fun j hj _ _ => h.block j hj⟩
theorem Tch.drew {r q : Nat} {W W' : World} (h : Tch r q W W') : Tch r q W W'.drew := ⟨h.os, h.tape, h.output, h.size, h.block⟩
theorem Tch.cell {r q : Nat} {W W' : World} (h : Tch r q W W') {p : Addr} {v : Value} (hp : W.cell? p = some v) (h1 : p.block ≠ r) (h2 : p.block ≠ q) : W'.cell? p = some v := by
  have hlt := World.block_lt_of_cell? W p hp
  exact (World.cell?_of_block (h.block p.block hlt h1 h2)).trans hp
theorem Tch.below {B r q : Nat} {W W' : World} (h : Tch r q W W') (h1 : B ≤ r) (h2 : B ≤ q) (hB : B ≤ W.heap.size) : Below B W W' :=
  ⟨h.os, h.tape, h.output, h.size, fun j hj => h.block j (Nat.lt_of_lt_of_le hj hB) (fun e => by omega) (fun e => by omega)⟩

/-- the row of a reader -/
def rdCells (tb n cap : Nat) (a : Nat) (o e : Int) : Array Value := #[.slice (some ⟨tb, 0, none⟩) n cap, .int .i64 a, .int .i64 o, .int .i64 e]
/-- a reader in memory -/
def RdSt (W : World) (r tb cap : Nat) (l : List Ps.Tok) (st : Ps.St) : Prop :=
  ∃ (a : Nat) (o e : Int), W.heap[r]? = some (.cells (rdCells tb l.length cap a o e) 68 (0, 0)) ∧ LxHolds W tb l ∧ tb ≠ r ∧ 0 < l.length ∧ l.length ≤ cap ∧ l.length ≤ 1000000 ∧
    (match st with | .ok b => a = b ∧ e = 0 ∧ b ≤ l.length | .error er => e = er.2 ∧ o = er.1 ∧ e ≠ 0)

theorem ps_rows {W : World} {r tb n cap a : Nat} {o e : Int} (h : W.heap[r]? = some (.cells (rdCells tb n cap a o e) 68 (0, 0))) :
    W.cell? ⟨r, 0, none⟩ = some (.slice (some ⟨tb, 0, none⟩) n cap) ∧ W.cell? ⟨r, 1, none⟩ = some (.int .i64 a) ∧ W.cell? ⟨r, 2, none⟩ = some (.int .i64 o) ∧ W.cell? ⟨r, 3, none⟩ = some (.int .i64 e) ∧ r < W.heap.size := by
  refine ⟨?_, ?_, ?_, ?_, (Array.getElem?_eq_some_iff.1 h).1⟩
  all_goals rw [cell_of_row _ _ _ _ _ _ h]; rfl

theorem drewN_heap (W : World) (k : Nat) : (W.drewN k).heap = W.heap := rfl
theorem RdSt.drewN {W : World} {r tb cap : Nat} {l : List Ps.Tok} {st : Ps.St} (h : RdSt W r tb cap l st) (k : Nat) : RdSt (W.drewN k) r tb cap l st := h
theorem Tch.drewN (r q : Nat) (W : World) (k : Nat) : Tch r q W (W.drewN k) := ⟨rfl, rfl, rfl, Nat.le_refl _, fun _ _ _ _ => rfl⟩

set_option maxRecDepth 100000 in
set_option maxHeartbeats 400000 in
theorem ps_moreL (W : World) (r tb n cap a : Nat) (e : Int) (b1 b2 : Bool) (k0 : W.cell? ⟨r, 0, none⟩ = some (.slice (some ⟨tb, 0, none⟩) n cap)) (k1 : W.cell? ⟨r, 1, none⟩ = some (.int .i64 a)) (k3 : W.cell? ⟨r, 3, none⟩ = some (.int .i64 e))
    (h1 : (e == 0) = b1) (h2 : decide (a < n) = b2) :
    Calls Tryz.prog 25 #[.pointer (some ⟨r, 0, none⟩)] W fun e W' => e = .returned (.bool (b1 && b2)) ∧ ∃ k, W' = W.drewN k := by
  cases b1
  all_goals
    go_enter Tryz.func25, Tryz.ntmps25
    go_wp2_with fail
    go_quiet (fail)
    go_wp2_with fail
    go_ret
    exact ⟨by simp, _, rfl⟩

theorem ps_more {W : World} {r tb cap : Nat} {l : List Ps.Tok} {st : Ps.St} (h : RdSt W r tb cap l st) :
    Calls Tryz.prog 25 #[.pointer (some ⟨r, 0, none⟩)] W fun e W' => e = .returned (.bool (Ps.okAt l st)) ∧ ∃ k, W' = W.drewN k := by
  obtain ⟨a, o, e, hr, -, -, -, -, -, hst⟩ := h
  obtain ⟨k0, k1, -, k3, -⟩ := ps_rows hr
  refine (ps_moreL W r tb l.length cap a e _ _ k0 k1 k3 rfl rfl).mono ?_
  rintro x w ⟨rfl, hk⟩
  refine ⟨?_, hk⟩
  cases st with
  | ok b =>
    obtain ⟨rfl, rfl, -⟩ := hst
    simp [Ps.okAt]
  | error er =>
    obtain ⟨-, -, he⟩ := hst
    have : (e == 0) = false := by rw [beq_eq_false_iff_ne]; exact he
    rw [this]; rfl

set_option maxRecDepth 100000 in
set_option maxHeartbeats 400000 in
theorem ps_needOk (W : World) (r : Nat) (n1 : Calls Tryz.prog 25 #[.pointer (some ⟨r, 0, none⟩)] W fun e W' => e = .returned (.bool true) ∧ ∃ k, W' = W.drewN k) :
    Calls Tryz.prog 20 #[.pointer (some ⟨r, 0, none⟩)] W fun e W' => e = .returned (.bool true) ∧ ∃ k, W' = W.drewN k := by
  go_enter Tryz.func20, Tryz.ntmps20
  go_wp2_with fail
  refine n1.mono ?_
  rintro e w ⟨rfl, k, rfl⟩
  clear n1
  go_wp2_with fail
  go_ret
  exact ⟨rfl, _, rfl⟩

set_option maxRecDepth 100000 in
set_option maxHeartbeats 400000 in
theorem ps_needEr (W : World) (r : Nat) (e : Int) (k3 : W.cell? ⟨r, 3, none⟩ = some (.int .i64 e)) (he : (e == 0) = false) (n1 : Calls Tryz.prog 25 #[.pointer (some ⟨r, 0, none⟩)] W fun e W' => e = .returned (.bool false) ∧ ∃ k, W' = W.drewN k) :
    Calls Tryz.prog 20 #[.pointer (some ⟨r, 0, none⟩)] W fun e W' => e = .returned (.bool false) ∧ ∃ k, W' = W.drewN k := by
  go_enter Tryz.func20, Tryz.ntmps20
  go_wp2_with fail
  refine n1.mono ?_
  rintro x w ⟨rfl, k, rfl⟩
  have d3 : (W.drewN k).cell? ⟨r, 3, none⟩ = some (.int .i64 e) := k3
  clear n1 k3
  go_wp2_with fail
  go_ret
  exact ⟨rfl, _, rfl⟩

theorem ps_setCell (w : World) (g i : Nat) (cur : Array Value) (t : TypeId) (v : Value) (hg : w.heap[g]? = some (.cells cur t (0, 0))) : (w.setCell ⟨g, i, none⟩ v).heap[g]? = some (.cells (cur.setIfInBounds i v) t (0, 0)) := by
  rw [setCell_eq_setRow w g i cur t (0, 0) v hg]
  exact setRow_heap w g cur _ t _ hg
theorem ps_frozen {w : World} {g : Nat} (i : Nat) {cur : Array Value} {t : TypeId} (hg : w.heap[g]? = some (.cells cur t (0, 0))) : w.frozen? ⟨g, i, none⟩ = false := by
  simp [World.frozen?, hg]
theorem Tch.setCell {r q : Nat} {W W' : World} (h : Tch r q W W') (i : Nat) (v : Value) : Tch r q W (W'.setCell ⟨r, i, none⟩ v) :=
  ⟨h.os, h.tape, h.output, by have := h.size; simpa [World.setCell] using this, fun j hj h1 h2 => (Below.heap_setCell W' _ v j (fun e => h1 (by rw [e]))).trans (h.block j hj h1 h2)⟩

set_option maxRecDepth 100000 in
set_option maxHeartbeats 400000 in
theorem ps_needSh (W : World) (r tb n cap a m : Nat) (o at_ sz : Int) (t : ByteArray) (hrow : W.heap[r]? = some (.cells (rdCells tb n cap a o 0) 68 (0, 0))) (h0 : (0 : Int) < (n : Int)) (hm : (n : Int) - 1 = (m : Int)) (_hml : m < n) (hmi : (m : Int) < (n : Int)) (hwm : IntKind.i64.wrap (m : Int) = (m : Int)) (_hmc : n ≤ cap)
    (t1 : W.cell? ⟨tb, m * 3 + 1, none⟩ = some (.string t)) (t2 : W.cell? ⟨tb, m * 3 + 2, none⟩ = some (.int .i64 at_)) (hne : tb ≠ r) (hz : (t.size : Int) = sz) (hw : IntKind.i64.wrap (at_ + sz) = at_ + sz)
    (n1 : Calls Tryz.prog 25 #[.pointer (some ⟨r, 0, none⟩)] W fun e W' => e = .returned (.bool false) ∧ ∃ k, W' = W.drewN k) :
    Calls Tryz.prog 20 #[.pointer (some ⟨r, 0, none⟩)] W fun e W' => e = .returned (.bool false) ∧ W'.heap[r]? = some (.cells (rdCells tb n cap a (at_ + sz) 4) 68 (0, 0)) ∧ Tch r r W W' := by
  obtain ⟨k0, k1, k2, k3, -⟩ := ps_rows hrow
  have HR := Lib.hid hrow
  go_enter Tryz.func20, Tryz.ntmps20
  go_wp2_with fail
  refine n1.mono ?_
  rintro x w ⟨rfl, k, rfl⟩
  obtain ⟨w, hw0⟩ : ∃ w, w = W.drewN k := ⟨_, rfl⟩
  have hr : w.heap[r]? = some (.cells (rdCells tb n cap a o 0) 68 (0, 0)) := by rw [hw0]; exact hrow
  obtain ⟨d0, d1, d2, d3, -⟩ := ps_rows hr
  have e1 : w.cell? ⟨tb, m * 3 + 1, none⟩ = some (.string t) := by rw [hw0]; exact t1
  have e2 : w.cell? ⟨tb, m * 3 + 2, none⟩ = some (.int .i64 at_) := by rw [hw0]; exact t2
  have f3 := ps_frozen 3 hr
  have f2 := ps_frozen 2 hr
  have HT : Hid (Tch r r W w) := Lib.hid (by rw [hw0]; exact Tch.drewN _ _ _ _)
  rw [← hw0]
  clear n1 hw0 k0 k1 k2 k3 t1 t2 hrow HR
  have HRW := Lib.hid hr
  clear hr
  go_wp2_with fail
  obtain ⟨w5, hw5⟩ : ∃ w5, w5 = w.setCell ⟨r, 3, none⟩ (.int .i64 4) := ⟨_, rfl⟩
  rw [← hw5]
  have hr5 : w5.heap[r]? = some (.cells (rdCells tb n cap a o 4) 68 (0, 0)) := by rw [hw5]; exact ps_setCell w r 3 _ _ _ HRW.out
  have HT5 : Hid (Tch r r W w5) := Lib.hid (by rw [hw5]; exact HT.out.setCell 3 _)
  have g1 : w5.drew.cell? ⟨tb, m * 3 + 1, none⟩ = some (.string t) := by rw [hw5]; exact ((Tch.refl r r w).setCell 3 _).cell e1 hne hne
  have g2 : w5.drew.cell? ⟨tb, m * 3 + 2, none⟩ = some (.int .i64 at_) := by rw [hw5]; exact ((Tch.refl r r w).setCell 3 _).cell e2 hne hne
  have hr6 : w5.drew.heap[r]? = some (.cells (rdCells tb n cap a o 4) 68 (0, 0)) := hr5
  obtain ⟨h0', h1', h2', h3', -⟩ := ps_rows hr6
  have f6 := ps_frozen 2 hr6
  have HR6 := Lib.hid hr6
  have HT6 := Lib.hid (HT5.out.drew)
  clear d0 d1 d2 d3 e1 e2 f3 f2 hw5 hr5 hr6 HT5
  refine wp_region_still_tail 23 (by kernel_rfl) (by kernel_rfl) ?_
  simp only [List.take_succ_cons, List.take_zero, List.drop_succ_cons, List.drop_zero]
  change wpStill _ _ (World.drew _) _ _ _
  repeat still_step
  refine wpStill_nil ?_
  change wpList _ _ _ _ _ (World.drew _)
  generalize w5.drew = w6 at *
  go_wp2_with fail
  go_ret
  exact ⟨rfl, ps_setCell w6 r 2 _ _ _ HR6.out, HT6.out.setCell 2 _⟩

theorem RdSt.tok {W : World} {r tb cap : Nat} {l : List Ps.Tok} {st : Ps.St} (h : RdSt W r tb cap l st) : LxHolds W tb l := by obtain ⟨_, _, _, _, h, _⟩ := h; exact h
theorem LxHolds.tch {W W' : World} {r q tb : Nat} {l : List Ps.Tok} (h : LxHolds W tb l) (k : Tch r q W W') (h1 : tb ≠ r) (h2 : tb ≠ q) : LxHolds W' tb l := fun j x hx => by
  obtain ⟨e1, e2, e3⟩ := h j x hx
  exact ⟨k.cell e1 h1 h2, k.cell e2 h1 h2, k.cell e3 h1 h2⟩

/-- the texts of tokens are short -/
def ToksOk (l : List Ps.Tok) : Prop := ∀ t ∈ l, t.2.1.size ≤ 1000000 ∧ t.2.2 ≤ 1000000

theorem ps_need {W : World} {r tb cap : Nat} {l : List Ps.Tok} {st : Ps.St} (h : RdSt W r tb cap l st) (hl : ToksOk l) :
    Calls Tryz.prog 20 #[.pointer (some ⟨r, 0, none⟩)] W fun e W' => e = .returned (.bool (Ps.okAt l st)) ∧ RdSt W' r tb cap l (Ps.needS l st) ∧ Tch r r W W' := by
  have n1 := ps_more h
  have h0 := h
  obtain ⟨a, o, e, hr, ht, hne, hpos, hcap, hmany, hst⟩ := h
  obtain ⟨k0, k1, k2, k3, -⟩ := ps_rows hr
  cases st with
  | ok b =>
    obtain ⟨rfl, rfl, hle⟩ := hst
    by_cases hlt : a < l.length
    · have e1 : Ps.okAt l (.ok a) = true := by simp [Ps.okAt, hlt]
      have e2 : Ps.needS l (.ok a) = .ok a := by simp [Ps.needS, hlt]
      rw [e1] at n1 ⊢
      rw [e2]
      refine (ps_needOk W r n1).mono ?_
      rintro x w ⟨rfl, k, rfl⟩
      exact ⟨rfl, h0, Tch.drewN _ _ _ _⟩
    · have e1 : Ps.okAt l (.ok a) = false := by simp [Ps.okAt]; omega
      have e2 : Ps.needS l (.ok a) = .error (Ps.short l) := by simp [Ps.needS, hlt]
      rw [e1] at n1 ⊢
      rw [e2]
      obtain ⟨m, hm⟩ : ∃ m, l.length = m + 1 := ⟨l.length - 1, by omega⟩
      obtain ⟨t, htm⟩ : ∃ t, l[m]? = some t := ⟨_, List.getElem?_eq_getElem (by omega)⟩
      obtain ⟨t1, t2, t3⟩ := ht m t htm
      have hok := hl t (List.mem_of_getElem? htm)
      have hend : Ps.short l = (((t.2.2 : Int) + (t.2.1.size : Int)), 4) := by
        unfold Ps.short Ps.offEnd
        rw [List.getLast?_eq_getElem?, show l.length - 1 = m from by omega, htm]
        simp
      refine (ps_needSh W r tb l.length cap a m o t.2.2 t.2.1.size t.2.1 hr (by omega) (by omega) (by omega) (by omega) (IntWalk.i64_in _ (by omega)) hcap t2 t3 hne rfl (IntWalk.i64_in _ (by omega)) n1).mono ?_
      rintro x w ⟨rfl, hw, hT⟩
      refine ⟨rfl, ⟨a, _, 4, hw, ht.tch hT hne hne, hne, hpos, hcap, hmany, ?_⟩, hT⟩
      rw [hend]
      exact ⟨rfl, rfl, by decide⟩
  | error er =>
    obtain ⟨he, ho, hz⟩ := hst
    have hb : (e == 0) = false := by rw [beq_eq_false_iff_ne]; exact hz
    refine (ps_needEr W r e k3 hb n1).mono ?_
    rintro x w ⟨rfl, k, rfl⟩
    exact ⟨rfl, h0, Tch.drewN _ _ _ _⟩

end Go.Proofs.YthijakidnkhbnaaGreatDoor

namespace Go.Proofs.YthijakidnkhbnaaGreatDoor
open Go.RowKit

set_option maxRecDepth 100000 in
set_option maxHeartbeats 400000 in
theorem ps_peekNo (W : World) (r : Nat)
    (n1 : Hid (∀ k, Calls Tryz.prog 25 #[.pointer (some ⟨r, 0, none⟩)] (W.drewN k) fun e W' => e = .returned (.bool false) ∧ ∃ m, W' = (W.drewN k).drewN m)) :
    Calls Tryz.prog 21 #[.pointer (some ⟨r, 0, none⟩)] W fun e W' => e = .returned (.string ⟨#[]⟩) ∧ ∃ k, W' = W.drewN k := by
  go_enter Tryz.func21, Tryz.ntmps21
  go_wp2_with fail
  go_quiet ((first | (go_at_call 25; with_reducible exact Calls.quiet_of (n1.out _))))
  clear n1
  go_wp2_with fail
  go_ret
  exact ⟨rfl, _, rfl⟩

set_option maxRecDepth 100000 in
set_option maxHeartbeats 400000 in
theorem ps_peekKind (W : World) (r tb n cap a : Nat) (kd : Int) (k0 : W.cell? ⟨r, 0, none⟩ = some (.slice (some ⟨tb, 0, none⟩) n cap)) (k1 : W.cell? ⟨r, 1, none⟩ = some (.int .i64 a)) (hlt : (a : Int) < (n : Int))
    (t0 : W.cell? ⟨tb, a * 3, none⟩ = some (.int .i64 kd)) (hk : (kd == 0) = false)
    (n1 : Hid (∀ k, Calls Tryz.prog 25 #[.pointer (some ⟨r, 0, none⟩)] (W.drewN k) fun e W' => e = .returned (.bool true) ∧ ∃ m, W' = (W.drewN k).drewN m)) :
    Calls Tryz.prog 21 #[.pointer (some ⟨r, 0, none⟩)] W fun e W' => e = .returned (.string ⟨#[]⟩) ∧ ∃ k, W' = W.drewN k := by
  go_enter Tryz.func21, Tryz.ntmps21
  go_wp2_with fail
  go_quiet ((first | (go_at_call 25; with_reducible exact Calls.quiet_of (n1.out _))))
  clear n1
  go_wp2_with fail
  go_ret
  exact ⟨rfl, _, rfl⟩

set_option maxRecDepth 100000 in
set_option maxHeartbeats 400000 in
theorem ps_peekText (W : World) (r tb n cap a : Nat) (t : ByteArray) (k0 : W.cell? ⟨r, 0, none⟩ = some (.slice (some ⟨tb, 0, none⟩) n cap)) (k1 : W.cell? ⟨r, 1, none⟩ = some (.int .i64 a)) (hlt : (a : Int) < (n : Int))
    (t0 : W.cell? ⟨tb, a * 3, none⟩ = some (.int .i64 0)) (t1 : W.cell? ⟨tb, a * 3 + 1, none⟩ = some (.string t))
    (n1 : Hid (∀ k, Calls Tryz.prog 25 #[.pointer (some ⟨r, 0, none⟩)] (W.drewN k) fun e W' => e = .returned (.bool true) ∧ ∃ m, W' = (W.drewN k).drewN m)) :
    Calls Tryz.prog 21 #[.pointer (some ⟨r, 0, none⟩)] W fun e W' => e = .returned (.string t) ∧ ∃ k, W' = W.drewN k := by
  go_enter Tryz.func21, Tryz.ntmps21
  go_wp2_with fail
  go_quiet ((first | (go_at_call 25; with_reducible exact Calls.quiet_of (n1.out _))))
  clear n1
  go_wp2_with fail
  go_quiet (fail)
  go_wp2_with fail
  go_ret
  exact ⟨rfl, by rw [World.drewN_drewN]; exact ⟨_, rfl⟩⟩

theorem ps_peek {W : World} {r tb cap : Nat} {l : List Ps.Tok} {st : Ps.St} (h : RdSt W r tb cap l st) :
    Calls Tryz.prog 21 #[.pointer (some ⟨r, 0, none⟩)] W fun e W' => e = .returned (.string (Ps.peekS l st)) ∧ ∃ k, W' = W.drewN k := by
  have n1 : ∀ k, Calls Tryz.prog 25 #[.pointer (some ⟨r, 0, none⟩)] (W.drewN k) fun e W' => e = .returned (.bool (Ps.okAt l st)) ∧ ∃ m, W' = (W.drewN k).drewN m := fun k => ps_more (h.drewN k)
  cases hb : Ps.okAt l st with
  | false =>
    rw [hb] at n1
    rw [Ps.peekS_of_not l st hb]
    exact ps_peekNo W r (Lib.hid n1)
  | true =>
    rw [hb] at n1
    obtain ⟨a, o, e, hr, ht, hne, hpos, hcap, hmany, hst⟩ := h
    obtain ⟨k0, k1, k2, k3, -⟩ := ps_rows hr
    cases st with
    | error er => cases hb
    | ok b =>
      obtain ⟨rfl, rfl, hle⟩ := hst
      have hlt : a < l.length := by simpa [Ps.okAt] using hb
      obtain ⟨t, hta⟩ : ∃ t, l[a]? = some t := ⟨_, List.getElem?_eq_getElem hlt⟩
      obtain ⟨t0, t1, t2⟩ := ht a t hta
      by_cases hk : t.1 = 0
      · have hp : Ps.peekS l (.ok a) = t.2.1 := by simp only [Ps.peekS, Ps.peek, hta, if_pos hk]
        rw [hp]
        rw [hk] at t0
        exact ps_peekText W r tb l.length cap a t.2.1 k0 k1 (by omega) t0 t1 (Lib.hid n1)
      · have hp : Ps.peekS l (.ok a) = ⟨#[]⟩ := by simp only [Ps.peekS, Ps.peek, hta, if_neg hk]
        rw [hp]
        exact ps_peekKind W r tb l.length cap a t.1 k0 k1 (by omega) t0 (by rw [beq_eq_false_iff_ne]; exact hk) (Lib.hid n1)

set_option maxRecDepth 100000 in
set_option maxHeartbeats 400000 in
theorem ps_failEr (W : World) (r : Nat) (e n : Int) (k3 : W.cell? ⟨r, 3, none⟩ = some (.int .i64 e)) (he : (e == 0) = false) :
    Calls Tryz.prog 24 #[.pointer (some ⟨r, 0, none⟩), .int .i64 n] W fun e W' => e = .returned (.tuple #[]) ∧ ∃ k, W' = W.drewN k := by
  go_enter Tryz.func24, Tryz.ntmps24
  go_wp2_with fail
  go_end0
  exact ⟨rfl, 0, rfl⟩

set_option maxRecDepth 100000 in
set_option maxHeartbeats 400000 in
theorem ps_failOk (W : World) (r tb n cap a : Nat) (o at_ en : Int) (hrow : W.heap[r]? = some (.cells (rdCells tb n cap a o 0) 68 (0, 0))) (hlt : (a : Int) < (n : Int)) (t2 : W.cell? ⟨tb, a * 3 + 2, none⟩ = some (.int .i64 at_)) (_hne : tb ≠ r) :
    Calls Tryz.prog 24 #[.pointer (some ⟨r, 0, none⟩), .int .i64 en] W fun e W' => e = .returned (.tuple #[]) ∧ W'.heap[r]? = some (.cells (rdCells tb n cap a at_ en) 68 (0, 0)) ∧ Tch r r W W' := by
  obtain ⟨k0, k1, k2, k3, -⟩ := ps_rows hrow
  have d0 : W.drew.cell? ⟨r, 0, none⟩ = some (.slice (some ⟨tb, 0, none⟩) n cap) := k0
  have d1 : W.drew.cell? ⟨r, 1, none⟩ = some (.int .i64 a) := k1
  have d2 : W.drew.cell? ⟨tb, a * 3 + 2, none⟩ = some (.int .i64 at_) := t2
  have f2 : W.drew.frozen? ⟨r, 2, none⟩ = false := ps_frozen 2 (w := W.drew) hrow
  have f3 : W.drew.frozen? ⟨r, 3, none⟩ = false := ps_frozen 3 (w := W.drew) hrow
  have f2' := ps_frozen 2 hrow
  have f3' := ps_frozen 3 hrow
  have HR := Lib.hid hrow
  clear hrow
  go_enter Tryz.func24, Tryz.ntmps24
  go_wp2_with fail
  go_region_law (fail)
  all_goals
    go_end0
    exact ⟨rfl, ps_setCell _ r 2 _ _ _ (ps_setCell W r 3 _ _ _ HR.out), (((Tch.refl r r W).setCell 3 _).setCell 2 _).drew⟩

theorem ps_fail {W : World} {r tb cap : Nat} {l : List Ps.Tok} {st : Ps.St} (h : RdSt W r tb cap l st) (n : Int) (hn : n ≠ 0) (hst : ∀ a, st = .ok a → a < l.length) :
    Calls Tryz.prog 24 #[.pointer (some ⟨r, 0, none⟩), .int .i64 n] W fun e W' => e = .returned (.tuple #[]) ∧ RdSt W' r tb cap l (Ps.failS l n st) ∧ Tch r r W W' := by
  have h0 := h
  obtain ⟨a, o, e, hr, ht, hne, hpos, hcap, hmany, hs⟩ := h
  cases st with
  | error er =>
    obtain ⟨he, ho, hz⟩ := hs
    refine (ps_failEr W r e n (ps_rows hr).2.2.2.1 (by rw [beq_eq_false_iff_ne]; exact hz)).mono ?_
    rintro x w ⟨rfl, k, rfl⟩
    exact ⟨rfl, h0, Tch.drewN _ _ _ _⟩
  | ok b =>
    obtain ⟨rfl, rfl, hle⟩ := hs
    have hlt := hst a rfl
    obtain ⟨t, hta⟩ : ∃ t, l[a]? = some t := ⟨_, List.getElem?_eq_getElem hlt⟩
    obtain ⟨t0, t1, t2⟩ := ht a t hta
    refine (ps_failOk W r tb l.length cap a o t.2.2 n hr (by omega) t2 hne).mono ?_
    rintro x w ⟨rfl, hw, hT⟩
    have hf : Ps.failS l n (.ok a) = .error (t.2.2, n) := by simp only [Ps.failS, Ps.offAt, hta]
    rw [hf]
    exact ⟨rfl, ⟨a, _, n, hw, ht.tch hT hne hne, hne, hpos, hcap, hmany, rfl, rfl, hn⟩, hT⟩

/-! ### word -/
set_option maxRecDepth 100000 in
set_option maxHeartbeats 400000 in
theorem ps_wordNo (W : World) (r : Nat) (s : ByteArray) (P : World → Prop)
    (n1 : Calls Tryz.prog 20 #[.pointer (some ⟨r, 0, none⟩)] W fun e W' => e = .returned (.bool false) ∧ P W') :
    Calls Tryz.prog 89 #[.pointer (some ⟨r, 0, none⟩), .string s] W fun e W' => e = .returned (.tuple #[]) ∧ P W' := by
  go_enter Tryz.func89, Tryz.ntmps89
  go_wp2_with fail
  refine n1.mono ?_
  rintro x w ⟨rfl, hp⟩
  clear n1
  go_wp2_with fail
  refine bodyPost_ret (results_none rfl _ _ _) rfl ?_
  exact ⟨rfl, hp⟩

set_option maxRecDepth 100000 in
set_option maxHeartbeats 400000 in
theorem ps_wordBad (W : World) (r : Nat) (s t : ByteArray) (T P : World → Prop) (hts : (t.toList == s.toList) = false)
    (n1 : Calls Tryz.prog 20 #[.pointer (some ⟨r, 0, none⟩)] W fun e W' => e = .returned (.bool true) ∧ T W')
    (n2 : Hid (∀ w, T w → Calls Tryz.prog 21 #[.pointer (some ⟨r, 0, none⟩)] w fun e W' => e = .returned (.string t) ∧ T W'))
    (n3 : Hid (∀ w, T w → Calls Tryz.prog 24 #[.pointer (some ⟨r, 0, none⟩), .int .i64 30] w fun e W' => e = .returned (.tuple #[]) ∧ P W')) :
    Calls Tryz.prog 89 #[.pointer (some ⟨r, 0, none⟩), .string s] W fun e W' => e = .returned (.tuple #[]) ∧ P W' := by
  go_enter Tryz.func89, Tryz.ntmps89
  go_wp2_with fail
  refine n1.mono ?_
  rintro x w ⟨rfl, ht⟩
  have m2 := n2.out w ht
  clear n1 n2
  go_wp2_with fail
  refine m2.mono ?_
  rintro x w2 ⟨rfl, ht2⟩
  have m3 := n3.out w2 ht2
  clear m2 n3
  go_wp2_with fail
  refine m3.mono ?_
  rintro x w3 ⟨rfl, hp⟩
  clear m3
  go_wp2_with fail
  refine bodyPost_ret (results_none rfl _ _ _) rfl ?_
  exact ⟨rfl, hp⟩

set_option maxRecDepth 100000 in
set_option maxHeartbeats 400000 in
theorem ps_wordOk (W : World) (r tb n cap a : Nat) (o : Int) (s : ByteArray) (T : World → Prop) (hw1 : wrap64 ((a : Int) + 1) = ((a + 1 : Nat) : Int))
    (hT : Hid (∀ w, T w → w.heap[r]? = some (.cells (rdCells tb n cap a o 0) 68 (0, 0)) ∧ Tch r r W w))
    (n1 : Calls Tryz.prog 20 #[.pointer (some ⟨r, 0, none⟩)] W fun e W' => e = .returned (.bool true) ∧ T W')
    (n2 : Hid (∀ w, T w → Calls Tryz.prog 21 #[.pointer (some ⟨r, 0, none⟩)] w fun e W' => e = .returned (.string s) ∧ T W')) :
    Calls Tryz.prog 89 #[.pointer (some ⟨r, 0, none⟩), .string s] W fun e W' => e = .returned (.tuple #[]) ∧ W'.heap[r]? = some (.cells (rdCells tb n cap (a + 1) o 0) 68 (0, 0)) ∧ Tch r r W W' := by
  go_enter Tryz.func89, Tryz.ntmps89
  go_wp2_with fail
  refine n1.mono ?_
  rintro x w ⟨rfl, ht⟩
  have m2 := n2.out w ht
  clear n1 n2
  go_wp2_with fail
  refine m2.mono ?_
  rintro x w2 ⟨rfl, ht2⟩
  obtain ⟨hr, hc⟩ := hT.out w2 ht2
  have k1 := (ps_rows hr).2.1
  have f1 := ps_frozen 1 hr
  have HR := Lib.hid hr
  have HC := Lib.hid hc
  clear m2 hT hr hc ht ht2
  go_wp2_with fail
  go_end0
  refine ⟨rfl, ?_, HC.out.setCell 1 _⟩
  have h := ps_setCell w2 r 1 _ _ (.int .i64 ((a + 1 : Nat) : Int)) HR.out
  first | exact h | (rw [hw1]; exact h) | (show (w2.setCell ⟨r, 1, none⟩ (.int .i64 (wrap64 ((a : Int) + 1)))).heap[r]? = _; rw [hw1]; exact h)

theorem ps_word {W : World} {r tb cap : Nat} {l : List Ps.Tok} {st : Ps.St} (h : RdSt W r tb cap l st) (hl : ToksOk l) (s : ByteArray) :
    Calls Tryz.prog 89 #[.pointer (some ⟨r, 0, none⟩), .string s] W fun e W' => e = .returned (.tuple #[]) ∧ RdSt W' r tb cap l (Ps.step (Ps.word l s.data.toList) () st).2 ∧ Tch r r W W' := by
  have n1 := ps_need h hl
  cases hb : Ps.okAt l st with
  | false =>
    rw [hb] at n1
    have e1 : Ps.needS l st = (Ps.step (Ps.word l s.data.toList) () st).2 := by
      cases st with
      | error er => rfl
      | ok a =>
        have hge : l.length ≤ a := by simpa [Ps.okAt] using hb
        have hw : Ps.word l s.data.toList a = .error (Ps.short l) := by unfold Ps.word; rw [if_pos hge]
        rw [Ps.step_er hw]
        simp [Ps.needS, Nat.not_lt.2 hge]
    rw [e1] at n1
    exact ps_wordNo W r s _ n1
  | true =>
    cases st with
    | error er => cases hb
    | ok a =>
      have hlt : a < l.length := by simpa [Ps.okAt] using hb
      have e2 : Ps.needS l (.ok a) = .ok a := by simp [Ps.needS, hlt]
      rw [hb, e2] at n1
      have n2 : ∀ w, (RdSt w r tb cap l (.ok a) ∧ Tch r r W w) → Calls Tryz.prog 21 #[.pointer (some ⟨r, 0, none⟩)] w fun e W' => e = .returned (.string (Ps.peek l a)) ∧ (RdSt W' r tb cap l (.ok a) ∧ Tch r r W W') := fun w hw =>
        (ps_peek hw.1).mono fun e W' ⟨h1, k, h2⟩ => ⟨h1, by rw [h2]; exact hw.1, by rw [h2]; exact hw.2.trans (Tch.drewN _ _ _ _)⟩
      by_cases hp : (Ps.peek l a).data.toList = s.data.toList
      · have hw : Ps.word l s.data.toList a = .ok ((), a + 1) := by unfold Ps.word; rw [if_neg (by omega), if_pos hp]
        rw [Ps.step_ok hw]
        have hps : Ps.peek l a = s := by
          apply ByteArray.ext
          exact Array.toList_inj.1 hp
        have hm := ps_more h
        rw [hb] at hm
        obtain ⟨a', o, e, hr, ht, hne, hpos, hcap, hmany, hs⟩ := h
        obtain ⟨rfl, rfl, hle⟩ := hs
        have back : ∀ w, (w.heap[r]? = some (.cells (rdCells tb l.length cap a' o 0) 68 (0, 0)) ∧ Tch r r W w) → RdSt w r tb cap l (.ok a') := fun w hw =>
          ⟨a', o, 0, hw.1, ht.tch hw.2 hne hne, hne, hpos, hcap, hmany, rfl, rfl, hle⟩
        refine (ps_wordOk W r tb l.length cap a' o s (fun w => w.heap[r]? = some (.cells (rdCells tb l.length cap a' o 0) 68 (0, 0)) ∧ Tch r r W w) (by unfold wrap64; omega) (Lib.hid fun w hw => hw) ?_ (Lib.hid fun w hw => ?_)).mono ?_
        · refine (ps_needOk W r hm).mono ?_
          rintro x w ⟨rfl, k, rfl⟩
          exact ⟨rfl, hr, Tch.drewN _ _ _ _⟩
        · refine (ps_peek (back w hw)).mono ?_
          rintro x w2 ⟨rfl, k, rfl⟩
          have hpk : Ps.peekS l (.ok a') = s := hps
          rw [hpk]
          exact ⟨rfl, hw.1, hw.2.trans (Tch.drewN _ _ _ _)⟩
        · rintro x w ⟨rfl, hw, hT⟩
          exact ⟨rfl, ⟨a' + 1, o, 0, hw, ht.tch hT hne hne, hne, hpos, hcap, hmany, rfl, rfl, hlt⟩, hT⟩
      · have hw : Ps.word l s.data.toList a = .error (Ps.offAt l a, 30) := by unfold Ps.word; rw [if_neg (by omega), if_neg hp]
        rw [Ps.step_er hw]
        refine ps_wordBad W r s (Ps.peek l a) (fun w => RdSt w r tb cap l (.ok a) ∧ Tch r r W w) _ (by rw [beq_eq_false_iff_ne, Lib.toList_data, Lib.toList_data]; exact hp) n1 (Lib.hid n2) (Lib.hid fun w hw => ?_)
        refine (ps_fail hw.1 30 (by decide) (fun b hb => by cases hb; exact hlt)).mono ?_
        rintro e W' ⟨h1, h2, h3⟩
        exact ⟨h1, h2, hw.2.trans h3⟩

end Go.Proofs.YthijakidnkhbnaaGreatDoor
