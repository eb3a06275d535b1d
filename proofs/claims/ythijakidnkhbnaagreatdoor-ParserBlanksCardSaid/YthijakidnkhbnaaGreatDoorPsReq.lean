/-
  The parser: a reader and a request in memory; security.
  The parser: security, collateral, in any state.
  The parser: priority; once.
  The parser: collateral, pledge, release, cancel, hold, resume, in any state.
-/
import Derived.Test.YthijakidnkhbnaaGreatDoorPsRead

namespace Go.Proofs.YthijakidnkhbnaaGreatDoor
open Go.RowKit

/-- a reader and the cells of a request, behind a start W -/
def RqAt (W0 W : World) (r tb cap q : Nat) (l : List Ps.Tok) (st : Ps.St) (cs : Array Value) (w : World) : Prop :=
  PsAt W0 w r tb cap l st ∧ w.heap[q]? = some (.cells cs 29 (0, 0)) ∧ Tch r q W w ∧ q ≠ r ∧ q ≠ tb ∧ W0.heap.size ≤ q

theorem RqAt.step {W0 W : World} {r tb cap q : Nat} {l : List Ps.Tok} {st st' : Ps.St} {cs : Array Value} {w w' : World} (h : RqAt W0 W r tb cap q l st cs w) (h1 : PsAt W0 w' r tb cap l st') (h2 : Tch r r w w') : RqAt W0 W r tb cap q l st' cs w' := by
  obtain ⟨a, b, c, d, e, f⟩ := h
  exact ⟨h1, (h2.block q (Array.getElem?_eq_some_iff.1 b).1 d d).trans b, c.trans h2.left, d, e, f⟩
theorem RqAt.cell {W0 W : World} {r tb cap q : Nat} {l : List Ps.Tok} {st : Ps.St} {cs : Array Value} {w : World} (h : RqAt W0 W r tb cap q l st cs w) (j : Nat) (hj : j < cs.size) : (∃ u, w.cell? ⟨q, j, none⟩ = some u) ∧ w.frozen? ⟨q, j, none⟩ = false := by
  obtain ⟨a, b, c, d, e, f⟩ := h
  exact ⟨⟨cs[j], by rw [cell_of_row _ _ _ _ _ _ b]; exact Array.getElem?_eq_getElem hj⟩, ps_frozen j b⟩
theorem RqAt.store {W0 W : World} {r tb cap q : Nat} {l : List Ps.Tok} {st : Ps.St} {cs : Array Value} {w : World} (h : RqAt W0 W r tb cap q l st cs w) (j : Nat) (v : Value) : RqAt W0 W r tb cap q l st (cs.setIfInBounds j v) (w.setCell ⟨q, j, none⟩ v) := by
  obtain ⟨a, b, c, d, e, f⟩ := h
  have hT : Tch q q w (w.setCell ⟨q, j, none⟩ v) := (Tch.refl _ _ _).setCell j v
  refine ⟨⟨?_, a.base.trans (hT.below f f a.base.size), a.r0⟩, ps_setCell w q j _ _ _ b, c.trans hT.right, d, e, f⟩
  obtain ⟨x, o, er, hr, ht, hne, rest⟩ := a.rd
  exact ⟨x, o, er, (hT.block r (Array.getElem?_eq_some_iff.1 hr).1 (Ne.symm d) (Ne.symm d)).trans hr, ht.tch hT (Ne.symm e) (Ne.symm e), hne, rest⟩

set_option maxRecDepth 100000 in
set_option maxHeartbeats 400000 in
theorem ps_securityL (W : World) (r q : Nat) (x : ByteArray) (n : Int) (P1 P2 P3 P4 P5 P6 : World → Prop)
    (n1 : Calls Tryz.prog 89 #[.pointer (some ⟨r, 0, none⟩), .string ⟨#[105, 115, 105, 110]⟩] W fun e W' => e = .returned (.tuple #[]) ∧ P1 W')
    (n2 : Hid (∀ w, P1 w → Calls Tryz.prog 139 #[.pointer (some ⟨r, 0, none⟩)] w fun e W' => e = .returned (.string x) ∧ P2 W'))
    (s2 : Hid (∀ w, P2 w → ((∃ u, w.cell? ⟨q, 8, none⟩ = some u) ∧ w.frozen? ⟨q, 8, none⟩ = false) ∧ P3 (w.setCell ⟨q, 8, none⟩ (.string x))))
    (n3 : Hid (∀ w, P3 w → Calls Tryz.prog 89 #[.pointer (some ⟨r, 0, none⟩), .string ⟨#[113, 117, 97, 110, 116, 105, 116, 121]⟩] w fun e W' => e = .returned (.tuple #[]) ∧ P4 W'))
    (n4 : Hid (∀ w, P4 w → Calls Tryz.prog 138 #[.pointer (some ⟨r, 0, none⟩)] w fun e W' => e = .returned (.int .i64 n) ∧ P5 W'))
    (s4 : Hid (∀ w, P5 w → ((∃ u, w.cell? ⟨q, 9, none⟩ = some u) ∧ w.frozen? ⟨q, 9, none⟩ = false) ∧ P6 (w.setCell ⟨q, 9, none⟩ (.int .i64 n)))) :
    Calls Tryz.prog 93 #[.pointer (some ⟨r, 0, none⟩), .pointer (some ⟨q, 3, none⟩)] W fun e W' => e = .returned (.tuple #[]) ∧ P6 W' := by
  go_enter Tryz.func93, Tryz.ntmps93
  go_wp2_with fail
  refine n1.mono ?_
  rintro e w ⟨rfl, h1⟩
  have m2 := n2.out w h1
  clear n1 n2
  go_wp2_with fail
  refine m2.mono ?_
  rintro e w2 ⟨rfl, h2⟩
  obtain ⟨⟨⟨u, k8⟩, f8⟩, h3⟩ := s2.out w2 h2
  have m3 := n3.out _ h3
  clear m2 n3 s2
  go_wp2_with fail
  refine m3.mono ?_
  rintro e w3 ⟨rfl, h4⟩
  have m4 := n4.out w3 h4
  clear m3 n4
  go_wp2_with fail
  refine m4.mono ?_
  rintro e w4 ⟨rfl, h5⟩
  obtain ⟨⟨⟨u2, k9⟩, f9⟩, h6⟩ := s4.out w4 h5
  have H6 := Lib.hid h6
  clear m4 s4 h6
  go_wp2_with fail
  go_end0
  exact ⟨rfl, H6.out⟩

end Go.Proofs.YthijakidnkhbnaaGreatDoor

namespace Go.Proofs.YthijakidnkhbnaaGreatDoor
open Go.RowKit

/-- security in any state: the asset, the quantity, the state behind it -/
def secS (l : List Ps.Tok) (Fq : ByteArray → Int × Int) (st : Ps.St) : ByteArray × Int × Ps.St :=
  let a := Ps.step (psIsin l) ⟨#[]⟩ (Ps.step (Ps.word l Ps.sIsin) () st).2
  let b := Ps.step (Ps.take l Fq [2]) 0 (Ps.step (Ps.word l Ps.sQuantity) () a.2).2
  (a.1, b.1, b.2)

theorem size_set (cs : Array Value) (j : Nat) (v : Value) : (cs.setIfInBounds j v).size = cs.size := by simp

theorem ps_security {W0 W : World} {r tb cap q : Nat} {l : List Ps.Tok} {st : Ps.St} {cs : Array Value} {w : World} (hl : ToksOk l) (env : PsEnv W0) (Fq : ByteArray → Int × Int) (hFq : PsNum 168 W0 Fq) (h : RqAt W0 W r tb cap q l st cs w) (hcs : cs.size = 28) :
    Calls Tryz.prog 93 #[.pointer (some ⟨r, 0, none⟩), .pointer (some ⟨q, 3, none⟩)] w fun e W' => e = .returned (.tuple #[]) ∧ RqAt W0 W r tb cap q l (secS l Fq st).2.2 ((cs.setIfInBounds 8 (.string (secS l Fq st).1)).setIfInBounds 9 (.int .i64 (secS l Fq st).2.1)) W' := by
  obtain ⟨s1, hs1⟩ : ∃ s1, s1 = (Ps.step (Ps.word l Ps.sIsin) () st).2 := ⟨_, rfl⟩
  obtain ⟨x, hx⟩ : ∃ x, x = (Ps.step (psIsin l) ⟨#[]⟩ s1).1 := ⟨_, rfl⟩
  obtain ⟨s2, hs2⟩ : ∃ s2, s2 = (Ps.step (psIsin l) ⟨#[]⟩ s1).2 := ⟨_, rfl⟩
  obtain ⟨s3, hs3⟩ : ∃ s3, s3 = (Ps.step (Ps.word l Ps.sQuantity) () s2).2 := ⟨_, rfl⟩
  obtain ⟨n, hn⟩ : ∃ n, n = (Ps.step (Ps.take l Fq [2]) 0 s3).1 := ⟨_, rfl⟩
  obtain ⟨s4, hs4⟩ : ∃ s4, s4 = (Ps.step (Ps.take l Fq [2]) 0 s3).2 := ⟨_, rfl⟩
  have e1 : secS l Fq st = (x, n, s4) := by
    unfold secS
    simp only []
    rw [← hs1, ← hx, ← hs2, ← hs3, ← hn, ← hs4]
  rw [e1]
  refine ps_securityL w r q x n (fun w => RqAt W0 W r tb cap q l s1 cs w) (fun w => RqAt W0 W r tb cap q l s2 cs w) (fun w => RqAt W0 W r tb cap q l s2 (cs.setIfInBounds 8 (.string x)) w) (fun w => RqAt W0 W r tb cap q l s3 (cs.setIfInBounds 8 (.string x)) w)
    (fun w => RqAt W0 W r tb cap q l s4 (cs.setIfInBounds 8 (.string x)) w) _ ?_ (Lib.hid fun w hw => ?_) (Lib.hid fun w hw => ⟨hw.cell 8 (by omega), hw.store 8 _⟩) (Lib.hid fun w hw => ?_) (Lib.hid fun w hw => ?_) (Lib.hid fun w hw => ⟨hw.cell 9 (by rw [size_set]; omega), hw.store 9 _⟩)
  · rw [hs1]
    exact (ps_wordAt hl h.1 ⟨#[105, 115, 105, 110]⟩).mono fun e W' ⟨h1, h2, h3⟩ => ⟨h1, h.step h2 h3⟩
  · rw [hx, hs2]
    exact (ps_isin hl env w r tb cap _ hw.1).mono fun e W' ⟨h1, h2, h3⟩ => ⟨h1, hw.step h2 h3⟩
  · rw [hs3]
    exact (ps_wordAt hl hw.1 ⟨#[113, 117, 97, 110, 116, 105, 116, 121]⟩).mono fun e W' ⟨h1, h2, h3⟩ => ⟨h1, hw.step h2 h3⟩
  · rw [hn, hs4]
    exact (ps_quantity hl Fq hFq w r tb cap _ hw.1).mono fun e W' ⟨h1, h2, h3⟩ => ⟨h1, hw.step h2 h3⟩

/-! ### collateral -/
set_option maxRecDepth 100000 in
set_option maxHeartbeats 400000 in
theorem ps_collateralL (W : World) (r q : Nat) (kd n : Int) (x : ByteArray) (P1 P2 P3 P4 P5 P6 : World → Prop)
    (n1 : Calls Tryz.prog 95 #[.pointer (some ⟨r, 0, none⟩)] W fun e W' => e = .returned (.string x) ∧ P1 W')
    (s1 : Hid (∀ w, P1 w → (((∃ u, w.cell? ⟨q, 4, none⟩ = some u) ∧ w.frozen? ⟨q, 4, none⟩ = false) ∧ ((∃ u, (w.setCell ⟨q, 4, none⟩ (.int .i64 kd)).cell? ⟨q, 5, none⟩ = some u) ∧ (w.setCell ⟨q, 4, none⟩ (.int .i64 kd)).frozen? ⟨q, 5, none⟩ = false) ∧ ((∃ u, w.cell? ⟨q, 5, none⟩ = some u) ∧ w.frozen? ⟨q, 5, none⟩ = false)) ∧ P2 ((w.setCell ⟨q, 4, none⟩ (.int .i64 kd)).setCell ⟨q, 5, none⟩ (.string x))))
    (n2 : Hid (∀ w, P2 w → Calls Tryz.prog 93 #[.pointer (some ⟨r, 0, none⟩), .pointer (some ⟨q, 3, none⟩)] w fun e W' => e = .returned (.tuple #[]) ∧ P3 W'))
    (n3 : Hid (∀ w, P3 w → Calls Tryz.prog 89 #[.pointer (some ⟨r, 0, none⟩), .string ⟨#[100, 97, 121]⟩] w fun e W' => e = .returned (.tuple #[]) ∧ P4 W'))
    (n4 : Hid (∀ w, P4 w → Calls Tryz.prog 91 #[.pointer (some ⟨r, 0, none⟩)] w fun e W' => e = .returned (.int .i64 n) ∧ P5 W'))
    (s4 : Hid (∀ w, P5 w → ((∃ u, w.cell? ⟨q, 12, none⟩ = some u) ∧ w.frozen? ⟨q, 12, none⟩ = false) ∧ P6 (w.setCell ⟨q, 12, none⟩ (.int .i64 n)))) :
    Calls Tryz.prog 94 #[.pointer (some ⟨r, 0, none⟩), .pointer (some ⟨q, 3, none⟩), .int .i64 kd] W fun e W' => e = .returned (.tuple #[]) ∧ P6 W' := by
  go_enter Tryz.func94, Tryz.ntmps94
  go_wp2_with fail
  refine n1.mono ?_
  rintro e w ⟨rfl, h1⟩
  obtain ⟨⟨⟨⟨u, k4⟩, f4⟩, ⟨⟨u1, k5⟩, f5⟩, ⟨⟨u5, k5'⟩, f5'⟩⟩, h2⟩ := s1.out w h1
  have m2 := n2.out _ h2
  clear n1 n2 s1
  go_wp2_with fail
  refine m2.mono ?_
  rintro e w2 ⟨rfl, h2⟩
  have m3 := n3.out _ h2
  clear m2 n3
  go_wp2_with fail
  refine m3.mono ?_
  rintro e w3 ⟨rfl, h4⟩
  have m4 := n4.out w3 h4
  clear m3 n4
  go_wp2_with fail
  refine m4.mono ?_
  rintro e w4 ⟨rfl, h5⟩
  obtain ⟨⟨⟨u2, k9⟩, f9⟩, h6⟩ := s4.out w4 h5
  have H6 := Lib.hid h6
  clear m4 s4 h6
  go_wp2_with fail
  go_end0
  exact ⟨rfl, H6.out⟩

end Go.Proofs.YthijakidnkhbnaaGreatDoor

namespace Go.Proofs.YthijakidnkhbnaaGreatDoor
open Go.RowKit

/-- the words of priorities -/
def prN : List ByteArray := [⟨#[110, 111, 114, 109, 97, 108]⟩, ⟨#[104, 105, 103, 104]⟩, ⟨#[117, 114, 103, 101, 110, 116]⟩]
def PrEnv (w : World) : Prop := ∀ (j : Nat) (s : ByteArray), prN[j]? = some s → w.cell? ⟨3, j, none⟩ = some (.string s)

set_option maxRecDepth 100000 in
set_option maxHeartbeats 400000 in
theorem ps_nameL (w : World) (g j : Nat) (s : ByteArray) (h0 : ¬ (j : Int) < 0) (h1 : ¬ (3 : Int) ≤ (j : Int)) (h2 : (j : Int) < 3) (_hj : j < 3) (hc : w.cell? ⟨g, j, none⟩ = some (.string s)) :
    Calls Tryz.prog 184 #[.slice (some ⟨g, 0, none⟩) 3 3, .int .i64 j] w fun e w' => e = .returned (.string s) ∧ w = w' := by
  go_enter Tryz.func184, Tryz.ntmps184
  go_wp2_with fail
  go_ret
  exact ⟨rfl, rfl⟩

set_option maxRecDepth 100000 in
set_option maxHeartbeats 400000 in
theorem ps_prioName (w : World) (j : Nat) (s : ByteArray) (n1 : Calls Tryz.prog 184 #[.slice (some ⟨3, 0, none⟩) 3 3, .int .i64 j] w fun e w' => e = .returned (.string s) ∧ w = w') :
    Calls Tryz.prog 167 #[.int .i64 j] w fun e w' => e = .returned (.string s) ∧ w = w' := by
  go_enter Tryz.func167, Tryz.ntmps167
  go_wp2_with fail
  refine n1.mono ?_
  rintro e w1 ⟨rfl, rfl⟩
  clear n1
  go_wp2_with fail
  go_ret
  exact ⟨rfl, rfl⟩

theorem ps_prioNameAt (w : World) (h : PrEnv w) (j : Nat) (s : ByteArray) (hj : prN[j]? = some s) : Calls Tryz.prog 167 #[.int .i64 j] w fun e w' => e = .returned (.string s) ∧ w = w' := by
  have hl : j < 3 := (List.getElem?_eq_some_iff.1 hj).1
  exact ps_prioName w j s (ps_nameL w _ j s (by omega) (by omega) (by omega) hl (h j s hj))

set_option maxRecDepth 100000 in
set_option maxHeartbeats 400000 in
theorem ps_prioEmpty (w : World) : Calls Tryz.prog 136 #[.string ⟨#[]⟩] w fun e w' => e = .returned (.int .i64 (-1)) ∧ w = w' := by
  go_enter Tryz.func136, Tryz.ntmps136
  go_wp2_with fail
  go_loopw [3] (fun pv wr => pv = .int .i64 0 ∧ wr = w) (fun _ _ => 0)
  case atStart => exact ⟨rfl, rfl⟩
  case round =>
    obtain ⟨rfl, rfl⟩ := hrel
    go_wp2_with fail
    go_ret
    exact ⟨rfl, rfl⟩

set_option maxRecDepth 100000 in
set_option maxHeartbeats 400000 in
theorem ps_prioL (w : World) (s : ByteArray) (hs : (s.toList == ([] : List UInt8)) = false) (m : Option Nat) (v : Int) (hv : Hid (v = match m with | some j => (j : Int) | none => -1))
    (hm : Hid (∀ (j : Nat) (t : ByteArray), prN[j]? = some t → (∀ i, m = some i → j ≤ i) → ((t.toList == s.toList) = true ↔ m = some j))) (hm3 : ∀ i, m = some i → i < 3)
    (n1 : Hid (∀ (j : Nat) (t : ByteArray), prN[j]? = some t → Calls Tryz.prog 167 #[.int .i64 j] w fun e w' => e = .returned (.string t) ∧ w = w')) :
    Calls Tryz.prog 136 #[.string s] w fun e w' => e = .returned (.int .i64 v) ∧ w = w' := by
  go_enter Tryz.func136, Tryz.ntmps136
  go_wp2_with fail
  go_loopw [3] (fun pv wr => ∃ j : Nat, pv = .int .i64 j ∧ j ≤ 3 ∧ Hid (∀ i, m = some i → j ≤ i) ∧ wr = w) (fun pv _ => 3 - (RowKit.intOf pv).toNat)
  case atStart => exact ⟨0, rfl, by omega, Lib.hid (fun _ _ => Nat.zero_le _), rfl⟩
  case round =>
    obtain ⟨j, rfl, hj, HJ, rfl⟩ := hrel
    by_cases hlt : j < 3
    · obtain ⟨t, ht⟩ : ∃ t, prN[j]? = some t := ⟨_, List.getElem?_eq_getElem (by exact hlt)⟩
      have m1 := n1.out j t ht
      have hq := hm.out j t ht HJ.out
      have hjI : (j : Int) ≤ 2 := by omega
      by_cases hmj : m = some j
      · have hte := hq.2 hmj
        have HV : Hid (v = (j : Int)) := Lib.hid (by rw [hv.out, hmj])
        clear hm3 hmj hq ht
        go_wp2_with fail
        refine m1.mono ?_
        rintro e w1 ⟨rfl, rfl⟩
        clear m1
        go_wp2_with fail
        go_ret
        rw [HV.out]
        exact ⟨rfl, rfl⟩
      · have hte : (t.toList == s.toList) = false := by
          rw [Bool.eq_false_iff]
          exact fun h => hmj (hq.1 h)
        have HJ2 : Hid (∀ i, m = some i → j + 1 ≤ i) := Lib.hid (fun i hi => by
          have := HJ.out i hi
          rcases Nat.lt_or_ge j i with h | h
          · exact h
          · exact absurd (by rw [hi]; congr 1; omega) hmj)
        clear hm3 hmj hq ht
        go_wp2_with fail
        refine m1.mono ?_
        rintro e w1 ⟨rfl, rfl⟩
        clear m1
        go_wp2_with fail
        refine ⟨⟨j + 1, by go_num, by omega, HJ2, trivial⟩, by simp [RowKit.intOf] <;> omega⟩
    · have hjI : ¬ (j : Int) ≤ 2 := by omega
      have HV : Hid (v = -1) := Lib.hid (by
        rw [hv.out]
        cases hmi : m with
        | none => rfl
        | some i => have := HJ.out i hmi; have := hm3 i hmi; omega)
      clear hm3 hlt
      go_wp2_with fail
      go_ret
      rw [HV.out]
      exact ⟨rfl, rfl⟩

/-- the number of a priority's word -/
def prM (s : ByteArray) : Option Nat := if s.data.toList = Ps.sNormal then some 0 else if s.data.toList = Ps.sHigh then some 1 else if s.data.toList = Ps.sUrgent then some 2 else none
def prV (s : ByteArray) : Int := match prM s with | some j => (j : Int) | none => -1

theorem prM_prio (s : ByteArray) : Ps.prio s.data.toList = (prM s).map fun j => (j : Int) := by
  unfold Ps.prio prM
  split
  · rfl
  · split
    · rfl
    · split <;> rfl

theorem ps_priority (w : World) (s : ByteArray) (h : PrEnv w) : Calls Tryz.prog 136 #[.string s] w fun e w' => e = .returned (.int .i64 (prV s)) ∧ w = w' := by
  by_cases hs : s.data.toList = []
  · have e1 : s = ⟨#[]⟩ := by
      apply ByteArray.ext
      exact Array.toList_inj.1 hs
    subst e1
    exact ps_prioEmpty w
  · refine ps_prioL w s (by rw [beq_eq_false_iff_ne, Lib.toList_data]; exact hs) (prM s) _ (Lib.hid rfl) (Lib.hid fun j t ht hle => ?_) (fun i hi => ?_) (Lib.hid fun j t ht => ps_prioNameAt w h j t ht)
    · have hl : j < 3 := (List.getElem?_eq_some_iff.1 ht).1
      rw [beq_iff_eq, Lib.toList_data, Lib.toList_data]
      have key : ∀ (x : List UInt8), t.data.toList = x → (x = s.data.toList ↔ s.data.toList = x) := fun x _ => eq_comm
      match j, hl with
      | 0, _ =>
        obtain rfl : t = ⟨#[110, 111, 114, 109, 97, 108]⟩ := (Option.some.inj ht).symm
        have e : (⟨#[110, 111, 114, 109, 97, 108]⟩ : ByteArray).data.toList = Ps.sNormal := rfl
        rw [e]
        unfold prM
        constructor
        · intro h; rw [if_pos h.symm]
        · intro h
          by_cases hc : s.data.toList = Ps.sNormal
          · exact hc.symm
          · rw [if_neg hc] at h
            split at h
            · cases h
            · split at h <;> cases h
      | 1, _ =>
        obtain rfl : t = ⟨#[104, 105, 103, 104]⟩ := (Option.some.inj ht).symm
        have e : (⟨#[104, 105, 103, 104]⟩ : ByteArray).data.toList = Ps.sHigh := rfl
        rw [e]
        unfold prM
        constructor
        · intro h
          rw [← h, if_neg (by decide), if_pos rfl]
        · intro h
          split at h
          · cases h
          · split at h
            · rename_i hc; exact hc.symm
            · split at h <;> cases h
      | 2, _ =>
        obtain rfl : t = ⟨#[117, 114, 103, 101, 110, 116]⟩ := (Option.some.inj ht).symm
        have e : (⟨#[117, 114, 103, 101, 110, 116]⟩ : ByteArray).data.toList = Ps.sUrgent := rfl
        rw [e]
        unfold prM
        constructor
        · intro h
          rw [← h, if_neg (by decide), if_neg (by decide), if_pos rfl]
        · intro h
          split at h
          · cases h
          · split at h
            · cases h
            · split at h
              · rename_i hc; exact hc.symm
              · cases h
    · unfold prM at hi
      split at hi
      · cases hi; decide
      · split at hi
        · cases hi; decide
        · split at hi
          · cases hi; decide
          · cases hi

/-! ### once -/
set_option maxRecDepth 100000 in
set_option maxHeartbeats 400000 in
theorem ps_onceDup (w : World) (r sb p : Nat) (P : World → Prop) (_h6 : p < 6) (hi : (p : Int) < 6) (hc : w.cell? ⟨sb, p, none⟩ = some (.bool true))
    (n1 : Calls Tryz.prog 24 #[.pointer (some ⟨r, 0, none⟩), .int .i64 7] w fun e W' => e = .returned (.tuple #[]) ∧ P W') :
    Calls Tryz.prog 137 #[.pointer (some ⟨r, 0, none⟩), .pointer (some ⟨sb, 0, none⟩), .int .i64 p] w fun e W' => e = .returned (.bool false) ∧ P W' := by
  go_enter Tryz.func137, Tryz.ntmps137
  go_wp2_with fail
  refine n1.mono ?_
  rintro e w1 ⟨rfl, hp⟩
  clear n1
  go_wp2_with fail
  go_ret
  exact ⟨rfl, hp⟩

set_option maxRecDepth 100000 in
set_option maxHeartbeats 400000 in
theorem ps_onceOk (w : World) (r sb p tb n cap a : Nat) (o e0 : Int) (cs : Array Value) (t : TypeId) (_h6 : p < 6) (hi : (p : Int) < 6) (hrow : w.heap[sb]? = some (.cells cs t (0, 0))) (hcp : cs[p]? = some (.bool false)) (hne : sb ≠ r)
    (hr : w.heap[r]? = some (.cells (rdCells tb n cap a o e0) 68 (0, 0))) (hw1 : wrap64 ((a : Int) + 1) = ((a + 1 : Nat) : Int)) :
    Calls Tryz.prog 137 #[.pointer (some ⟨r, 0, none⟩), .pointer (some ⟨sb, 0, none⟩), .int .i64 p] w fun e W' => e = .returned (.bool true) ∧ W'.heap[r]? = some (.cells (rdCells tb n cap (a + 1) o e0) 68 (0, 0)) ∧ W'.heap[sb]? = some (.cells (cs.setIfInBounds p (.bool true)) t (0, 0)) ∧ Tch r sb w W' := by
  have hc : w.cell? ⟨sb, p, none⟩ = some (.bool false) := by rw [cell_of_row _ _ _ _ _ _ hrow]; exact hcp
  have fc := ps_frozen p hrow
  obtain ⟨w2, hw2⟩ : ∃ w2, w2 = w.setCell ⟨sb, p, none⟩ (.bool true) := ⟨_, rfl⟩
  have hT : Tch sb sb w w2 := by rw [hw2]; exact (Tch.refl _ _ _).setCell p _
  have hr2 : w2.heap[r]? = some (.cells (rdCells tb n cap a o e0) 68 (0, 0)) := (hT.block r (Array.getElem?_eq_some_iff.1 hr).1 (Ne.symm hne) (Ne.symm hne)).trans hr
  have hs2 : w2.heap[sb]? = some (.cells (cs.setIfInBounds p (.bool true)) t (0, 0)) := by rw [hw2]; exact ps_setCell w sb p _ _ _ hrow
  have k1 := (ps_rows hr2).2.1
  have f1 := ps_frozen 1 hr2
  have HT := Lib.hid hT
  have HR2 := Lib.hid hr2
  have HS2 := Lib.hid hs2
  have HW2 := Lib.hid hw2
  clear hrow hcp hr hT hr2 hs2
  go_enter Tryz.func137, Tryz.ntmps137
  rw [hw2] at k1 f1
  clear hw2
  go_wp2_with fail
  go_ret
  rw [← HW2.out]
  have hz : Tch r r w2 (w2.setCell ⟨r, 1, none⟩ (.int .i64 ((a + 1 : Nat) : Int))) := (Tch.refl _ _ _).setCell 1 _
  refine ⟨rfl, ?_, ?_, ?_⟩
  · exact ps_setCell w2 r 1 _ _ _ HR2.out
  · exact (hz.block sb (Array.getElem?_eq_some_iff.1 HS2.out).1 hne hne).trans HS2.out
  · exact HT.out.right.trans hz.left

end Go.Proofs.YthijakidnkhbnaaGreatDoor

namespace Go.Proofs.YthijakidnkhbnaaGreatDoor
open Go.RowKit

/-- collateral in any state: the cells, the state behind it -/
def collS (l : List Ps.Tok) (Fq Fd : ByteArray → Int × Int) (kd : Int) (cs : Array Value) (st : Ps.St) : Array Value × Ps.St :=
  let a := Ps.step (psBy l) ⟨#[]⟩ st
  let b := secS l Fq a.2
  let d := Ps.step (Ps.take l Fd [4]) 0 (Ps.step (Ps.word l Ps.sDay) () b.2.2).2
  ((((((cs.setIfInBounds 4 (.int .i64 kd)).setIfInBounds 5 (.string a.1)).setIfInBounds 8 (.string b.1)).setIfInBounds 9 (.int .i64 b.2.1)).setIfInBounds 12 (.int .i64 d.1)), d.2)

theorem RqAt.two {W0 W : World} {r tb cap q : Nat} {l : List Ps.Tok} {st : Ps.St} {cs : Array Value} {w : World} (h : RqAt W0 W r tb cap q l st cs w) (i j : Nat) (v : Value) (hi : i < cs.size) (hj : j < cs.size) :
    ((∃ u, w.cell? ⟨q, i, none⟩ = some u) ∧ w.frozen? ⟨q, i, none⟩ = false) ∧ ((∃ u, (w.setCell ⟨q, i, none⟩ v).cell? ⟨q, j, none⟩ = some u) ∧ (w.setCell ⟨q, i, none⟩ v).frozen? ⟨q, j, none⟩ = false) ∧ ((∃ u, w.cell? ⟨q, j, none⟩ = some u) ∧ w.frozen? ⟨q, j, none⟩ = false) :=
  ⟨h.cell i hi, (h.store i v).cell j (by rw [size_set]; exact hj), h.cell j hj⟩

theorem ps_collateral {W0 W : World} {r tb cap q : Nat} {l : List Ps.Tok} {st : Ps.St} {cs : Array Value} {w : World} (hl : ToksOk l) (env : PsEnv W0) (Fq Fd : ByteArray → Int × Int) (hFq : PsNum 168 W0 Fq) (hFd : PsNum 134 W0 Fd) (h : RqAt W0 W r tb cap q l st cs w) (hcs : cs.size = 28) (kd : Int) :
    Calls Tryz.prog 94 #[.pointer (some ⟨r, 0, none⟩), .pointer (some ⟨q, 3, none⟩), .int .i64 kd] w fun e W' => e = .returned (.tuple #[]) ∧ RqAt W0 W r tb cap q l (collS l Fq Fd kd cs st).2 (collS l Fq Fd kd cs st).1 W' := by
  obtain ⟨x, hx⟩ : ∃ x, x = (Ps.step (psBy l) ⟨#[]⟩ st).1 := ⟨_, rfl⟩
  obtain ⟨s1, hs1⟩ : ∃ s1, s1 = (Ps.step (psBy l) ⟨#[]⟩ st).2 := ⟨_, rfl⟩
  obtain ⟨b, hb⟩ : ∃ b, b = secS l Fq s1 := ⟨_, rfl⟩
  obtain ⟨s3, hs3⟩ : ∃ s3, s3 = (Ps.step (Ps.word l Ps.sDay) () b.2.2).2 := ⟨_, rfl⟩
  obtain ⟨n, hn⟩ : ∃ n, n = (Ps.step (Ps.take l Fd [4]) 0 s3).1 := ⟨_, rfl⟩
  obtain ⟨s4, hs4⟩ : ∃ s4, s4 = (Ps.step (Ps.take l Fd [4]) 0 s3).2 := ⟨_, rfl⟩
  have e1 : collS l Fq Fd kd cs st = ((((((cs.setIfInBounds 4 (.int .i64 kd)).setIfInBounds 5 (.string x)).setIfInBounds 8 (.string b.1)).setIfInBounds 9 (.int .i64 b.2.1)).setIfInBounds 12 (.int .i64 n)), s4) := by
    unfold collS
    simp only []
    rw [← hx, ← hs1, ← hb, ← hs3, ← hn, ← hs4]
  rw [e1]
  obtain ⟨c2, hc2⟩ : ∃ c2, c2 = (cs.setIfInBounds 4 (.int .i64 kd)).setIfInBounds 5 (.string x) := ⟨_, rfl⟩
  have z2 : c2.size = 28 := by rw [hc2, size_set, size_set]; exact hcs
  rw [← hc2]
  obtain ⟨c3, hc3⟩ : ∃ c3, c3 = (c2.setIfInBounds 8 (.string b.1)).setIfInBounds 9 (.int .i64 b.2.1) := ⟨_, rfl⟩
  have z3 : c3.size = 28 := by rw [hc3, size_set, size_set]; exact z2
  rw [← hc3]
  refine ps_collateralL w r q kd n x (fun w => RqAt W0 W r tb cap q l s1 cs w) (fun w => RqAt W0 W r tb cap q l s1 c2 w) (fun w => RqAt W0 W r tb cap q l b.2.2 c3 w) (fun w => RqAt W0 W r tb cap q l s3 c3 w) (fun w => RqAt W0 W r tb cap q l s4 c3 w) _
    ?_ (Lib.hid fun w hw => ⟨hw.two 4 5 _ (by omega) (by omega), by rw [hc2]; exact (hw.store 4 _).store 5 _⟩) (Lib.hid fun w hw => ?_) (Lib.hid fun w hw => ?_) (Lib.hid fun w hw => ?_) (Lib.hid fun w hw => ⟨hw.cell 12 (by omega), hw.store 12 _⟩)
  · rw [hx, hs1]
    exact (ps_by hl env w r tb cap _ h.1).mono fun e W' ⟨h1, h2, h3⟩ => ⟨h1, h.step h2 h3⟩
  · rw [hc3, hb]
    exact ps_security hl env Fq hFq hw z2
  · rw [hs3]
    exact (ps_wordAt hl hw.1 ⟨#[100, 97, 121]⟩).mono fun e W' ⟨h1, h2, h3⟩ => ⟨h1, hw.step h2 h3⟩
  · rw [hn, hs4]
    exact (ps_day hl Fd hFd w r tb cap _ hw.1).mono fun e W' ⟨h1, h2, h3⟩ => ⟨h1, hw.step h2 h3⟩

set_option maxRecDepth 100000 in
set_option maxHeartbeats 400000 in
theorem ps_pledgeL (W : World) (r q : Nat) (P : World → Prop)
    (n1 : Calls Tryz.prog 94 #[.pointer (some ⟨r, 0, none⟩), .pointer (some ⟨q, 3, none⟩), .int .i64 3] W fun e W' => e = .returned (.tuple #[]) ∧ P W') :
    Calls Tryz.prog 56 #[.pointer (some ⟨r, 0, none⟩), .pointer (some ⟨q, 0, none⟩)] W fun e W' => e = .returned (.tuple #[]) ∧ P W' := by
  go_enter Tryz.func56, Tryz.ntmps56
  go_wp2_with fail
  refine n1.mono ?_
  rintro e w ⟨rfl, hp⟩
  clear n1
  go_wp2_with fail
  go_end0
  exact ⟨rfl, hp⟩

set_option maxRecDepth 100000 in
set_option maxHeartbeats 400000 in
theorem ps_releaseL (W : World) (r q : Nat) (P : World → Prop)
    (n1 : Calls Tryz.prog 94 #[.pointer (some ⟨r, 0, none⟩), .pointer (some ⟨q, 3, none⟩), .int .i64 4] W fun e W' => e = .returned (.tuple #[]) ∧ P W') :
    Calls Tryz.prog 57 #[.pointer (some ⟨r, 0, none⟩), .pointer (some ⟨q, 0, none⟩)] W fun e W' => e = .returned (.tuple #[]) ∧ P W' := by
  go_enter Tryz.func57, Tryz.ntmps57
  go_wp2_with fail
  refine n1.mono ?_
  rintro e w ⟨rfl, hp⟩
  clear n1
  go_wp2_with fail
  go_end0
  exact ⟨rfl, hp⟩

/-- cancel, hold, resume in any state -/
def chgS (l : List Ps.Tok) (op : Int) (cs : Array Value) (st : Ps.St) : Array Value × Ps.St :=
  let a := Ps.step (psBy l) ⟨#[]⟩ st
  ((cs.setIfInBounds 0 (.int .i64 op)).setIfInBounds 1 (.string a.1), a.2)

set_option maxRecDepth 100000 in
set_option maxHeartbeats 400000 in
theorem ps_cancelL (W : World) (r q : Nat) (x : ByteArray) (P1 P2 : World → Prop)
    (n1 : Calls Tryz.prog 95 #[.pointer (some ⟨r, 0, none⟩)] W fun e W' => e = .returned (.string x) ∧ P1 W')
    (s1 : Hid (∀ w, P1 w → (((∃ u, w.cell? ⟨q, 0, none⟩ = some u) ∧ w.frozen? ⟨q, 0, none⟩ = false) ∧ ((∃ u, (w.setCell ⟨q, 0, none⟩ (.int .i64 2)).cell? ⟨q, 1, none⟩ = some u) ∧ (w.setCell ⟨q, 0, none⟩ (.int .i64 2)).frozen? ⟨q, 1, none⟩ = false) ∧ ((∃ u, w.cell? ⟨q, 1, none⟩ = some u) ∧ w.frozen? ⟨q, 1, none⟩ = false)) ∧ P2 ((w.setCell ⟨q, 0, none⟩ (.int .i64 2)).setCell ⟨q, 1, none⟩ (.string x)))) :
    Calls Tryz.prog 59 #[.pointer (some ⟨r, 0, none⟩), .pointer (some ⟨q, 0, none⟩)] W fun e W' => e = .returned (.tuple #[]) ∧ P2 W' := by
  go_enter Tryz.func59, Tryz.ntmps59
  go_wp2_with fail
  refine n1.mono ?_
  rintro e w ⟨rfl, h1⟩
  obtain ⟨⟨⟨⟨u, k4⟩, f4⟩, ⟨⟨u1, k5⟩, f5⟩, ⟨⟨u5, k5'⟩, f5'⟩⟩, h2⟩ := s1.out w h1
  have H2 := Lib.hid h2
  clear n1 s1 h2
  go_wp2_with fail
  go_end0
  exact ⟨rfl, H2.out⟩

theorem ps_cancel {W0 W : World} {r tb cap q : Nat} {l : List Ps.Tok} {st : Ps.St} {cs : Array Value} {w : World} (hl : ToksOk l) (env : PsEnv W0) (h : RqAt W0 W r tb cap q l st cs w) (hcs : cs.size = 28) :
    Calls Tryz.prog 59 #[.pointer (some ⟨r, 0, none⟩), .pointer (some ⟨q, 0, none⟩)] w fun e W' => e = .returned (.tuple #[]) ∧ RqAt W0 W r tb cap q l (chgS l 2 cs st).2 (chgS l 2 cs st).1 W' := by
  unfold chgS
  simp only []
  generalize hx : Ps.step (psBy l) ⟨#[]⟩ st = x
  refine ps_cancelL w r q x.1 (fun w => RqAt W0 W r tb cap q l x.2 cs w) _ ?_ (Lib.hid fun w hw => ⟨hw.two 0 1 _ (by omega) (by omega), (hw.store 0 _).store 1 _⟩)
  rw [← hx]
  exact (ps_by hl env w r tb cap _ h.1).mono fun e W' ⟨h1, h2, h3⟩ => ⟨h1, h.step h2 h3⟩

set_option maxRecDepth 100000 in
set_option maxHeartbeats 400000 in
theorem ps_holdL (W : World) (r q : Nat) (x : ByteArray) (P1 P2 : World → Prop)
    (n1 : Calls Tryz.prog 95 #[.pointer (some ⟨r, 0, none⟩)] W fun e W' => e = .returned (.string x) ∧ P1 W')
    (s1 : Hid (∀ w, P1 w → (((∃ u, w.cell? ⟨q, 0, none⟩ = some u) ∧ w.frozen? ⟨q, 0, none⟩ = false) ∧ ((∃ u, (w.setCell ⟨q, 0, none⟩ (.int .i64 3)).cell? ⟨q, 1, none⟩ = some u) ∧ (w.setCell ⟨q, 0, none⟩ (.int .i64 3)).frozen? ⟨q, 1, none⟩ = false) ∧ ((∃ u, w.cell? ⟨q, 1, none⟩ = some u) ∧ w.frozen? ⟨q, 1, none⟩ = false)) ∧ P2 ((w.setCell ⟨q, 0, none⟩ (.int .i64 3)).setCell ⟨q, 1, none⟩ (.string x)))) :
    Calls Tryz.prog 60 #[.pointer (some ⟨r, 0, none⟩), .pointer (some ⟨q, 0, none⟩)] W fun e W' => e = .returned (.tuple #[]) ∧ P2 W' := by
  go_enter Tryz.func60, Tryz.ntmps60
  go_wp2_with fail
  refine n1.mono ?_
  rintro e w ⟨rfl, h1⟩
  obtain ⟨⟨⟨⟨u, k4⟩, f4⟩, ⟨⟨u1, k5⟩, f5⟩, ⟨⟨u5, k5'⟩, f5'⟩⟩, h2⟩ := s1.out w h1
  have H2 := Lib.hid h2
  clear n1 s1 h2
  go_wp2_with fail
  go_end0
  exact ⟨rfl, H2.out⟩

theorem ps_hold {W0 W : World} {r tb cap q : Nat} {l : List Ps.Tok} {st : Ps.St} {cs : Array Value} {w : World} (hl : ToksOk l) (env : PsEnv W0) (h : RqAt W0 W r tb cap q l st cs w) (hcs : cs.size = 28) :
    Calls Tryz.prog 60 #[.pointer (some ⟨r, 0, none⟩), .pointer (some ⟨q, 0, none⟩)] w fun e W' => e = .returned (.tuple #[]) ∧ RqAt W0 W r tb cap q l (chgS l 3 cs st).2 (chgS l 3 cs st).1 W' := by
  unfold chgS
  simp only []
  generalize hx : Ps.step (psBy l) ⟨#[]⟩ st = x
  refine ps_holdL w r q x.1 (fun w => RqAt W0 W r tb cap q l x.2 cs w) _ ?_ (Lib.hid fun w hw => ⟨hw.two 0 1 _ (by omega) (by omega), (hw.store 0 _).store 1 _⟩)
  rw [← hx]
  exact (ps_by hl env w r tb cap _ h.1).mono fun e W' ⟨h1, h2, h3⟩ => ⟨h1, h.step h2 h3⟩

set_option maxRecDepth 100000 in
set_option maxHeartbeats 400000 in
theorem ps_resumeL (W : World) (r q : Nat) (x : ByteArray) (P1 P2 : World → Prop)
    (n1 : Calls Tryz.prog 95 #[.pointer (some ⟨r, 0, none⟩)] W fun e W' => e = .returned (.string x) ∧ P1 W')
    (s1 : Hid (∀ w, P1 w → (((∃ u, w.cell? ⟨q, 0, none⟩ = some u) ∧ w.frozen? ⟨q, 0, none⟩ = false) ∧ ((∃ u, (w.setCell ⟨q, 0, none⟩ (.int .i64 4)).cell? ⟨q, 1, none⟩ = some u) ∧ (w.setCell ⟨q, 0, none⟩ (.int .i64 4)).frozen? ⟨q, 1, none⟩ = false) ∧ ((∃ u, w.cell? ⟨q, 1, none⟩ = some u) ∧ w.frozen? ⟨q, 1, none⟩ = false)) ∧ P2 ((w.setCell ⟨q, 0, none⟩ (.int .i64 4)).setCell ⟨q, 1, none⟩ (.string x)))) :
    Calls Tryz.prog 61 #[.pointer (some ⟨r, 0, none⟩), .pointer (some ⟨q, 0, none⟩)] W fun e W' => e = .returned (.tuple #[]) ∧ P2 W' := by
  go_enter Tryz.func61, Tryz.ntmps61
  go_wp2_with fail
  refine n1.mono ?_
  rintro e w ⟨rfl, h1⟩
  obtain ⟨⟨⟨⟨u, k4⟩, f4⟩, ⟨⟨u1, k5⟩, f5⟩, ⟨⟨u5, k5'⟩, f5'⟩⟩, h2⟩ := s1.out w h1
  have H2 := Lib.hid h2
  clear n1 s1 h2
  go_wp2_with fail
  go_end0
  exact ⟨rfl, H2.out⟩

theorem ps_resume {W0 W : World} {r tb cap q : Nat} {l : List Ps.Tok} {st : Ps.St} {cs : Array Value} {w : World} (hl : ToksOk l) (env : PsEnv W0) (h : RqAt W0 W r tb cap q l st cs w) (hcs : cs.size = 28) :
    Calls Tryz.prog 61 #[.pointer (some ⟨r, 0, none⟩), .pointer (some ⟨q, 0, none⟩)] w fun e W' => e = .returned (.tuple #[]) ∧ RqAt W0 W r tb cap q l (chgS l 4 cs st).2 (chgS l 4 cs st).1 W' := by
  unfold chgS
  simp only []
  generalize hx : Ps.step (psBy l) ⟨#[]⟩ st = x
  refine ps_resumeL w r q x.1 (fun w => RqAt W0 W r tb cap q l x.2 cs w) _ ?_ (Lib.hid fun w hw => ⟨hw.two 0 1 _ (by omega) (by omega), (hw.store 0 _).store 1 _⟩)
  rw [← hx]
  exact (ps_by hl env w r tb cap _ h.1).mono fun e W' ⟨h1, h2, h3⟩ => ⟨h1, h.step h2 h3⟩


end Go.Proofs.YthijakidnkhbnaaGreatDoor
