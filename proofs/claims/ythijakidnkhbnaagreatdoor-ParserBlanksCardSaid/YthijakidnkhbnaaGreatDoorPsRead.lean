/-
  The parser's reader: identifiers.
  The parser's reader: ref, member, isin, by, parties.
  The parser's reader: parties; value (what a function of numbers makes of a token).
  The parser's reader: value, cash, quantity, day (with what their functions make of a text handed in).
-/
import Derived.Test.YthijakidnkhbnaaGreatDoorPsTake
import Derived.Test.YthijakidnkhbnaaGreatDoorIdWalk

namespace Go.Proofs.YthijakidnkhbnaaGreatDoor
open Go.RowKit

/-- what identifier's function accepts -/
def idCode (k : Nat) (s : ByteArray) : Int := if idCheckE k s = 0 then 0 else 6

set_option maxRecDepth 100000 in
set_option maxHeartbeats 400000 in
theorem ps_idAccL (k : Nat) (w : World) (s : ByteArray) (kx ob : Nat) (u : Value) (b : Bool) (hk : w.cell? ⟨kx, 0, none⟩ = some (.int .i64 k)) (ho : w.heap[ob]? = some (.cells #[u] 9 (0, 0)))
    (n1 : Calls Tryz.prog 65 #[.int .i64 k, .string s] w fun e w' => e = .returned (.bool b) ∧ Below w.heap.size w w') :
    Calls Tryz.prog 98 #[.string s, .pointer (some ⟨kx, 0, none⟩), .pointer (some ⟨ob, 0, none⟩)] w fun e w' => e = .returned (.int .i64 (if b = true then 0 else 6)) ∧ w'.heap[ob]? = some (.cells #[if b = true then .string s else u] 9 (0, 0)) ∧ Tch ob ob w w' := by
  have HO := Lib.hid ho
  clear ho
  cases b with
  | true =>
    go_enter Tryz.func98, Tryz.ntmps98
    go_wp2_with fail
    refine n1.mono ?_
    rintro e w' ⟨rfl, hb⟩
    have hr : w'.heap[ob]? = some (.cells #[u] 9 (0, 0)) := (hb.block ob (Array.getElem?_eq_some_iff.1 HO.out).1).trans HO.out
    have f0 := ps_frozen 0 hr
    have z0 : w'.cell? ⟨ob, 0, none⟩ = some u := by rw [cell_of_row _ _ _ _ _ _ hr]; rfl
    have HR := Lib.hid hr
    have HB := Lib.hid hb
    clear n1 hr hb
    go_wp2_with fail
    go_ret
    exact ⟨rfl, ps_setCell w' ob 0 _ _ _ HR.out, (Tch.of_below HB.out).setCell 0 _⟩
  | false =>
    go_enter Tryz.func98, Tryz.ntmps98
    go_wp2_with fail
    refine n1.mono ?_
    rintro e w' ⟨rfl, hb⟩
    have HB := Lib.hid hb
    clear n1 hb
    go_wp2_with fail
    go_ret
    exact ⟨rfl, (HB.out.block ob (Array.getElem?_eq_some_iff.1 HO.out).1).trans HO.out, Tch.of_below HB.out⟩

set_option maxRecDepth 100000 in
set_option maxHeartbeats 400000 in
theorem ps_idL (W : World) (r k kb kn kc : Nat) (v : ByteArray) (P : World → Prop)
    (n1 : Hid (∀ w kx ob, w.cell? ⟨kx, 0, none⟩ = some (.int .i64 k) → w.heap[ob]? = some (.cells #[.string ⟨#[]⟩] 9 (0, 0)) → Below W.heap.size W w → W.heap.size ≤ ob → W.heap.size ≤ kx → kx ≠ ob →
      Calls Tryz.prog 97 #[.pointer (some ⟨r, 0, none⟩), .func (.func 98) #[] #[.pointer (some ⟨kx, 0, none⟩), .pointer (some ⟨ob, 0, none⟩)], .slice (some ⟨kb, 0, none⟩) kn kc] w fun e W' => e = .returned (.tuple #[]) ∧ W'.cell? ⟨ob, 0, none⟩ = some (.string v) ∧ P W')) :
    Calls Tryz.prog 62 #[.pointer (some ⟨r, 0, none⟩), .int .i64 k, .slice (some ⟨kb, 0, none⟩) kn kc] W fun e W' => e = .returned (.string v) ∧ P W' := by
  go_enter Tryz.func62, Tryz.ntmps62
  go_wp2_with fail
  refine (n1.out _ W.heap.size (W.heap.size + 1) ?_ ?_ ?_ (by omega) (by omega) (by omega)).mono ?_
  · exact Lib.cell?_alloc_some _ (by rw [cell_of_row _ _ _ _ _ _ (ps_alloc_new W _)]; rfl)
  · have h := ps_alloc_new (W.alloc (Obj.cells #[.int .i64 k] 3)) (Obj.cells #[.string ⟨#[]⟩] 9)
    rwa [show (W.alloc (Obj.cells #[.int .i64 k] 3)).heap.size = W.heap.size + 1 from by simp] at h
  · exact ((Below.refl _ _).alloc (Nat.le_refl _) _).alloc (by simp) _
  rintro x w' ⟨rfl, hv, hp⟩
  clear n1
  go_wp2_with fail
  go_ret
  exact ⟨rfl, hp⟩

theorem Tch.fresh {r ob : Nat} {W W1 W' : World} (hb : Below W.heap.size W W1) (h : Tch r ob W1 W') (hob : W.heap.size ≤ ob) : Tch r r W W' :=
  ⟨h.os.trans hb.os, h.tape.trans hb.tape, h.output.trans hb.output, Nat.le_trans hb.size h.size, fun j hj h1 _ => (h.block j (Nat.lt_of_lt_of_le hj hb.size) h1 (by omega)).trans (hb.block j hj)⟩

/-- what the parser's functions ask of the world at the start: the tables of identifiers stay in all that comes -/
def PsEnv (W0 : World) : Prop := ∀ w, Below W0.heap.size W0 w → IdEnv w

theorem RdSt.below {W w : World} {r tb cap : Nat} {l : List Ps.Tok} {st : Ps.St} (h : RdSt W r tb cap l st) (hb : Below W.heap.size W w) : RdSt w r tb cap l st := by
  obtain ⟨a, o, e, hr, ht, rest⟩ := h
  refine ⟨a, o, e, (hb.block r (Array.getElem?_eq_some_iff.1 hr).1).trans hr, fun j x hx => ?_, rest⟩
  obtain ⟨t0, t1, t2⟩ := ht j x hx
  have up : ∀ {p : Addr} {v : Value}, W.cell? p = some v → w.cell? p = some v := fun hp => (hb.cell (World.block_lt_of_cell? W _ hp)).trans hp
  exact ⟨up t0, up t1, up t2⟩

theorem RdSt.lt {W : World} {r tb cap : Nat} {l : List Ps.Tok} {st : Ps.St} (h : RdSt W r tb cap l st) : r < W.heap.size ∧ tb < W.heap.size := by
  obtain ⟨a, o, e, hr, ht, hne, hpos, _⟩ := h
  obtain ⟨x, hx⟩ : ∃ x, l[0]? = some x := ⟨_, List.getElem?_eq_getElem hpos⟩
  exact ⟨(Array.getElem?_eq_some_iff.1 hr).1, World.block_lt_of_cell? W _ (ht 0 x hx).1⟩

theorem idCode_eq (k : Nat) (s : ByteArray) : (if (idCheckE k s == 0) = true then (0 : Int) else 6) = idCode k s := by
  unfold idCode
  by_cases h : idCheckE k s = 0
  · rw [if_pos h, if_pos (by simpa using h)]
  · rw [if_neg h, if_neg (by simpa using h)]

/-- the value of identifier: the accepted text, or the empty one -/
theorem takenS_val (l : List Ps.Tok) (ks : List Int) (k : Nat) (st : Ps.St) :
    (match takenS l ks st with | some s => if idCode k s = 0 then s else ⟨#[]⟩ | none => ⟨#[]⟩) = (Ps.step (Ps.take l (fun s => (s, idCode k s)) ks) ⟨#[]⟩ st).1 := by
  cases st with
  | error e => rfl
  | ok a =>
    cases hta : l[a]? with
    | none =>
      have hw : Ps.take l (fun s => (s, idCode k s)) ks a = .error (Ps.short l) := by simp only [Ps.take, hta]
      rw [Ps.step_er hw]
      simp only [takenS, hta]
    | some t =>
      by_cases hkd : t.1 ∈ ks
      · by_cases hc : idCode k t.2.1 = 0
        · have hw : Ps.take l (fun s => (s, idCode k s)) ks a = .ok (t.2.1, a + 1) := by simp only [Ps.take, hta, if_pos hkd, if_pos hc]
          rw [Ps.step_ok hw]
          simp only [takenS, hta, if_pos hkd, if_pos hc]
        · have hw : Ps.take l (fun s => (s, idCode k s)) ks a = .error (Ps.offAt l a, idCode k t.2.1) := by simp only [Ps.take, hta, if_pos hkd, if_neg hc]
          rw [Ps.step_er hw]
          simp only [takenS, hta, if_pos hkd, if_neg hc]
      · have hw : Ps.take l (fun s => (s, idCode k s)) ks a = .error (Ps.offAt l a, 30) := by simp only [Ps.take, hta, if_neg hkd]
        rw [Ps.step_er hw]
        simp only [takenS, hta, if_neg hkd]

theorem ps_identifier {W0 W : World} {r tb cap : Nat} {l : List Ps.Tok} {st : Ps.St} (h : RdSt W r tb cap l st) (hl : ToksOk l) (env : PsEnv W0) (hW : Below W0.heap.size W0 W) (hr0 : W0.heap.size ≤ r) (k : Nat) (hk3 : k < 3)
    (kb kc : Nat) (ks : List Int) (hkb : kb ≠ r) (hkc : ks.length ≤ kc) (hkl : ks.length ≤ 100) (hk : ∀ (j : Nat) (x : Int), ks[j]? = some x → W.cell? ⟨kb, j, none⟩ = some (.int .i64 x)) :
    Calls Tryz.prog 62 #[.pointer (some ⟨r, 0, none⟩), .int .i64 k, .slice (some ⟨kb, 0, none⟩) ks.length kc] W fun e W' =>
      e = .returned (.string (Ps.step (Ps.take l (fun s => (s, idCode k s)) ks) ⟨#[]⟩ st).1) ∧ RdSt W' r tb cap l (Ps.step (Ps.take l (fun s => (s, idCode k s)) ks) ⟨#[]⟩ st).2 ∧ Tch r r W W' := by
  refine ps_idL W r k kb ks.length kc _ _ (Lib.hid fun w kx ob hkx hob hbw hob0 hkx0 hne => ?_)
  have hlt := h.lt
  have hs := h.below hbw
  obtain ⟨val, hval⟩ : ∃ val : Option ByteArray → ByteArray, val = fun s => match s with | some s => if idCode k s = 0 then s else ⟨#[]⟩ | none => ⟨#[]⟩ := ⟨_, rfl⟩
  have hB0 : Below W0.heap.size W0 w := hW.trans (hbw.mono hW.size)
  refine (ps_take hs hl 98 (.pointer (some ⟨kx, 0, none⟩)) (.pointer (some ⟨ob, 0, none⟩)) kb kc ob ks hkb hkc hkl (fun j x hx => (hbw.cell (World.block_lt_of_cell? W _ (hk j x hx))).trans (hk j x hx)) (by omega) (by omega) (idCode k)
    (fun s w' => w'.heap[ob]? = some (.cells #[.string (val s)] 9 (0, 0)) ∧ w'.cell? ⟨kx, 0, none⟩ = some (.int .i64 k) ∧ Below W0.heap.size W0 w') ?_ ?_
    (enters_of Tryz.func98 (by kernel_rfl) rfl) ?_).mono ?_
  · rintro s w1 w2 ⟨x1, x2, x3⟩ hT
    exact ⟨(hT.block ob (Array.getElem?_eq_some_iff.1 x1).1 (by omega) (by omega)).trans x1, hT.cell x2 (by show kx ≠ r; omega) (by show kx ≠ r; omega), x3.trans (hT.below hr0 hr0 x3.size)⟩
  · rw [hval]; exact ⟨hob, hkx, hB0⟩
  · rintro s w1 ⟨x1, x2, x3⟩ hsz
    have hn : val none = ⟨#[]⟩ := by rw [hval]
    rw [hn] at x1
    refine (ps_idAccL k w1 s kx ob (.string ⟨#[]⟩) _ x2 x1 (idx_valid k hk3 s w1 (by omega) (env w1 x3))).mono ?_
    rintro e w2 ⟨rfl, y1, y2⟩
    refine ⟨by rw [idCode_eq], ⟨?_, y2.cell x2 hne hne, x3.trans (y2.below (by have := hW.size; omega) (by have := hW.size; omega) x3.size)⟩, y2⟩
    rw [y1, hval]
    have hc := idCode_eq k s
    by_cases hv : (idCheckE k s == 0) = true
    · rw [if_pos hv] at hc ⊢
      simp only [← hc, if_true]
    · rw [if_neg hv] at hc ⊢
      simp only [← hc]
      rfl
  · rintro e w2 ⟨rfl, y1, y2, y3, y4, y5⟩
    refine ⟨rfl, ?_, y1, Tch.fresh hbw y2 hob0⟩
    rw [cell_of_row _ _ _ _ _ _ y3, hval, ← takenS_val l ks k st]
    rfl

end Go.Proofs.YthijakidnkhbnaaGreatDoor

namespace Go.Proofs.YthijakidnkhbnaaGreatDoor
open Go.RowKit

/-- a reader in a world that keeps what was there at the start -/
structure PsAt (W0 W : World) (r tb cap : Nat) (l : List Ps.Tok) (st : Ps.St) : Prop where
  rd : RdSt W r tb cap l st
  base : Below W0.heap.size W0 W
  r0 : W0.heap.size ≤ r
theorem PsAt.next {W0 W W' : World} {r tb cap : Nat} {l : List Ps.Tok} {st st' : Ps.St} (h : PsAt W0 W r tb cap l st) (hr : RdSt W' r tb cap l st') (hT : Tch r r W W') : PsAt W0 W' r tb cap l st' :=
  ⟨hr, h.base.trans (hT.below h.r0 h.r0 h.base.size), h.r0⟩
theorem PsAt.below {W0 W W' : World} {r tb cap : Nat} {l : List Ps.Tok} {st : Ps.St} (h : PsAt W0 W r tb cap l st) (hb : Below W.heap.size W W') : PsAt W0 W' r tb cap l st :=
  ⟨h.rd.below hb, h.base.trans (hb.mono h.base.size), h.r0⟩

def psRef (l : List Ps.Tok) : Ps.P ByteArray := Ps.take l (fun s => (s, idCode 2 s)) [1, 2, 4]
def psMember (l : List Ps.Tok) : Ps.P ByteArray := Ps.take l (fun s => (s, idCode 1 s)) [1]
def psIsin (l : List Ps.Tok) : Ps.P ByteArray := Ps.take l (fun s => (s, idCode 0 s)) [1]

/-- the contract of a method without further arguments that reads a string -/
def PsStr (f : Nat) (W0 : World) (l : List Ps.Tok) (p : Ps.P ByteArray) : Prop :=
  ∀ (W : World) (r tb cap : Nat) (st : Ps.St), PsAt W0 W r tb cap l st → Calls Tryz.prog f #[.pointer (some ⟨r, 0, none⟩)] W fun e W' =>
    e = .returned (.string (Ps.step p ⟨#[]⟩ st).1) ∧ PsAt W0 W' r tb cap l (Ps.step p ⟨#[]⟩ st).2 ∧ Tch r r W W'

theorem ps_kinds {W : World} {cs : Array Value} {t : TypeId} (ks : List Int) (hcs : cs.toList = ks.map fun k => Value.int .i64 k) (j : Nat) (x : Int) (hx : ks[j]? = some x) : (W.alloc (.cells cs t)).cell? ⟨W.heap.size, j, none⟩ = some (.int .i64 x) := by
  rw [cell_of_row _ _ _ _ _ _ (ps_alloc_new W _), ← Array.getElem?_toList, hcs, List.getElem?_map, hx]
  rfl

set_option maxRecDepth 100000 in
set_option maxHeartbeats 400000 in
theorem ps_refL (W : World) (r : Nat) (v : ByteArray) (P : World → Prop)
    (n1 : Hid (∀ w, w = W.alloc (.cells #[.int .i64 1, .int .i64 2, .int .i64 4] 3) → Calls Tryz.prog 62 #[.pointer (some ⟨r, 0, none⟩), .int .i64 2, .slice (some ⟨W.heap.size, 0, none⟩) 3 3] w fun e W' => e = .returned (.string v) ∧ P W')) :
    Calls Tryz.prog 23 #[.pointer (some ⟨r, 0, none⟩)] W fun e W' => e = .returned (.string v) ∧ P W' := by
  go_enter Tryz.func23, Tryz.ntmps23
  go_wp2_with fail
  refine (n1.out _ rfl).mono ?_
  rintro e w ⟨rfl, hp⟩
  clear n1
  go_wp2_with fail
  go_ret
  exact ⟨rfl, hp⟩

set_option maxRecDepth 100000 in
set_option maxHeartbeats 400000 in
theorem ps_memberL (W : World) (r : Nat) (v : ByteArray) (P : World → Prop)
    (n1 : Hid (∀ w, w = W.alloc (.cells #[.int .i64 1] 3) → Calls Tryz.prog 62 #[.pointer (some ⟨r, 0, none⟩), .int .i64 1, .slice (some ⟨W.heap.size, 0, none⟩) 1 1] w fun e W' => e = .returned (.string v) ∧ P W')) :
    Calls Tryz.prog 131 #[.pointer (some ⟨r, 0, none⟩)] W fun e W' => e = .returned (.string v) ∧ P W' := by
  go_enter Tryz.func131, Tryz.ntmps131
  go_wp2_with fail
  refine (n1.out _ rfl).mono ?_
  rintro e w ⟨rfl, hp⟩
  clear n1
  go_wp2_with fail
  go_ret
  exact ⟨rfl, hp⟩

set_option maxRecDepth 100000 in
set_option maxHeartbeats 400000 in
theorem ps_isinL (W : World) (r : Nat) (v : ByteArray) (P : World → Prop)
    (n1 : Hid (∀ w, w = W.alloc (.cells #[.int .i64 1] 3) → Calls Tryz.prog 62 #[.pointer (some ⟨r, 0, none⟩), .int .i64 0, .slice (some ⟨W.heap.size, 0, none⟩) 1 1] w fun e W' => e = .returned (.string v) ∧ P W')) :
    Calls Tryz.prog 139 #[.pointer (some ⟨r, 0, none⟩)] W fun e W' => e = .returned (.string v) ∧ P W' := by
  go_enter Tryz.func139, Tryz.ntmps139
  go_wp2_with fail
  refine (n1.out _ rfl).mono ?_
  rintro e w ⟨rfl, hp⟩
  clear n1
  go_wp2_with fail
  go_ret
  exact ⟨rfl, hp⟩

theorem Tch.after {r : Nat} {W W1 W' : World} (hb : Below W.heap.size W W1) (h : Tch r r W1 W') : Tch r r W W' := (Tch.of_below hb).trans h

theorem ps_ref {W0 : World} {l : List Ps.Tok} (hl : ToksOk l) (env : PsEnv W0) : PsStr 23 W0 l (psRef l) := fun W r tb cap st h => by
  refine ps_refL W r _ _ (Lib.hid fun w hw => ?_)
  have hb : Below W.heap.size W w := by rw [hw]; exact (Below.refl _ _).alloc (Nat.le_refl _) _
  have h1 := h.below hb
  have hlt := h.rd.lt
  refine (ps_identifier h1.rd hl env h1.base h1.r0 2 (by decide) W.heap.size 3 [1, 2, 4] (by omega) (by decide) (by decide) (fun j x hx => by rw [hw]; exact ps_kinds [1, 2, 4] rfl j x hx)).mono ?_
  rintro e W' ⟨rfl, h2, h3⟩
  exact ⟨rfl, h1.next h2 h3, h3.after hb⟩
theorem ps_member {W0 : World} {l : List Ps.Tok} (hl : ToksOk l) (env : PsEnv W0) : PsStr 131 W0 l (psMember l) := fun W r tb cap st h => by
  refine ps_memberL W r _ _ (Lib.hid fun w hw => ?_)
  have hb : Below W.heap.size W w := by rw [hw]; exact (Below.refl _ _).alloc (Nat.le_refl _) _
  have h1 := h.below hb
  have hlt := h.rd.lt
  refine (ps_identifier h1.rd hl env h1.base h1.r0 1 (by decide) W.heap.size 1 [1] (by omega) (by decide) (by decide) (fun j x hx => by rw [hw]; exact ps_kinds [1] rfl j x hx)).mono ?_
  rintro e W' ⟨rfl, h2, h3⟩
  exact ⟨rfl, h1.next h2 h3, h3.after hb⟩
theorem ps_isin {W0 : World} {l : List Ps.Tok} (hl : ToksOk l) (env : PsEnv W0) : PsStr 139 W0 l (psIsin l) := fun W r tb cap st h => by
  refine ps_isinL W r _ _ (Lib.hid fun w hw => ?_)
  have hb : Below W.heap.size W w := by rw [hw]; exact (Below.refl _ _).alloc (Nat.le_refl _) _
  have h1 := h.below hb
  have hlt := h.rd.lt
  refine (ps_identifier h1.rd hl env h1.base h1.r0 0 (by decide) W.heap.size 1 [1] (by omega) (by decide) (by decide) (fun j x hx => by rw [hw]; exact ps_kinds [1] rfl j x hx)).mono ?_
  rintro e W' ⟨rfl, h2, h3⟩
  exact ⟨rfl, h1.next h2 h3, h3.after hb⟩

/-- word, as a step -/
theorem ps_wordAt {W0 W : World} {r tb cap : Nat} {l : List Ps.Tok} {st : Ps.St} (hl : ToksOk l) (h : PsAt W0 W r tb cap l st) (s : ByteArray) :
    Calls Tryz.prog 89 #[.pointer (some ⟨r, 0, none⟩), .string s] W fun e W' => e = .returned (.tuple #[]) ∧ PsAt W0 W' r tb cap l (Ps.step (Ps.word l s.data.toList) () st).2 ∧ Tch r r W W' :=
  (ps_word h.rd hl s).mono fun _ _ ⟨h1, h2, h3⟩ => ⟨h1, h.next h2 h3, h3⟩

/-! ### by, parties -/
set_option maxRecDepth 100000 in
set_option maxHeartbeats 400000 in
theorem ps_byL (W : World) (r : Nat) (v : ByteArray) (P Q : World → Prop)
    (n1 : Calls Tryz.prog 89 #[.pointer (some ⟨r, 0, none⟩), .string ⟨#[98, 121]⟩] W fun e W' => e = .returned (.tuple #[]) ∧ P W')
    (n2 : Hid (∀ w, P w → Calls Tryz.prog 131 #[.pointer (some ⟨r, 0, none⟩)] w fun e W' => e = .returned (.string v) ∧ Q W')) :
    Calls Tryz.prog 95 #[.pointer (some ⟨r, 0, none⟩)] W fun e W' => e = .returned (.string v) ∧ Q W' := by
  go_enter Tryz.func95, Tryz.ntmps95
  go_wp2_with fail
  refine n1.mono ?_
  rintro e w ⟨rfl, hp⟩
  have m2 := n2.out w hp
  clear n1 n2
  go_wp2_with fail
  refine m2.mono ?_
  rintro e w2 ⟨rfl, hq⟩
  clear m2
  go_wp2_with fail
  go_ret
  exact ⟨rfl, hq⟩

def psBy (l : List Ps.Tok) : Ps.P ByteArray := Ps.bind' (Ps.word l Ps.sBy) fun _ => psMember l
theorem ps_by {W0 : World} {l : List Ps.Tok} (hl : ToksOk l) (env : PsEnv W0) : PsStr 95 W0 l (psBy l) := fun W r tb cap st h => by
  unfold psBy
  rw [Ps.step_bind _ _ () _ st]
  refine ps_byL W r _ (fun w => PsAt W0 w r tb cap l (Ps.step (Ps.word l Ps.sBy) () st).2 ∧ Tch r r W w) _ (ps_wordAt hl h ⟨#[98, 121]⟩) (Lib.hid fun w hw => ?_)
  exact (ps_member hl env w r tb cap _ hw.1).mono fun e W' ⟨h1, h2, h3⟩ => ⟨h1, h2, hw.2.trans h3⟩

end Go.Proofs.YthijakidnkhbnaaGreatDoor

namespace Go.Proofs.YthijakidnkhbnaaGreatDoor
open Go.RowKit

set_option maxRecDepth 100000 in
set_option maxHeartbeats 400000 in
theorem ps_partiesL (W : World) (r : Nat) (v1 v2 : ByteArray) (P1 P2 P3 P4 : World → Prop)
    (n1 : Calls Tryz.prog 89 #[.pointer (some ⟨r, 0, none⟩), .string ⟨#[102, 114, 111, 109]⟩] W fun e W' => e = .returned (.tuple #[]) ∧ P1 W')
    (n2 : Hid (∀ w, P1 w → Calls Tryz.prog 131 #[.pointer (some ⟨r, 0, none⟩)] w fun e W' => e = .returned (.string v1) ∧ P2 W'))
    (n3 : Hid (∀ w, P2 w → Calls Tryz.prog 89 #[.pointer (some ⟨r, 0, none⟩), .string ⟨#[116, 111]⟩] w fun e W' => e = .returned (.tuple #[]) ∧ P3 W'))
    (n4 : Hid (∀ w, P3 w → Calls Tryz.prog 131 #[.pointer (some ⟨r, 0, none⟩)] w fun e W' => e = .returned (.string v2) ∧ P4 W')) :
    Calls Tryz.prog 88 #[.pointer (some ⟨r, 0, none⟩)] W fun e W' => e = .returned (.tuple #[.string v1, .string v2]) ∧ P4 W' := by
  go_enter Tryz.func88, Tryz.ntmps88
  go_wp2_with fail
  refine n1.mono ?_
  rintro e w ⟨rfl, hp⟩
  have m2 := n2.out w hp
  clear n1 n2
  go_wp2_with fail
  refine m2.mono ?_
  rintro e w2 ⟨rfl, hq⟩
  have m3 := n3.out w2 hq
  clear m2 n3
  go_wp2_with fail
  refine m3.mono ?_
  rintro e w3 ⟨rfl, hq3⟩
  have m4 := n4.out w3 hq3
  clear m3 n4
  go_wp2_with fail
  refine m4.mono ?_
  rintro e w4 ⟨rfl, hq4⟩
  clear m4
  go_wp2_with fail
  go_ret2
  exact ⟨rfl, hq4⟩

def psParties (l : List Ps.Tok) : Ps.P (ByteArray × ByteArray) :=
  Ps.bind' (Ps.word l Ps.sFrom) fun _ => Ps.bind' (psMember l) fun x => Ps.bind' (Ps.word l Ps.sTo) fun _ => Ps.bind' (psMember l) fun y => Ps.pure' (x, y)

/-- on an error the pair is dropped; the two strings are what was read -/
theorem ps_parties {W0 : World} {l : List Ps.Tok} (hl : ToksOk l) (env : PsEnv W0) (W : World) (r tb cap : Nat) (st : Ps.St) (h : PsAt W0 W r tb cap l st) :
    Calls Tryz.prog 88 #[.pointer (some ⟨r, 0, none⟩)] W fun e W' => ∃ x y : ByteArray, e = .returned (.tuple #[.string x, .string y]) ∧ PsAt W0 W' r tb cap l (Ps.step (psParties l) (⟨#[]⟩, ⟨#[]⟩) st).2 ∧ Tch r r W W' ∧
      (∀ b, (Ps.step (psParties l) (⟨#[]⟩, ⟨#[]⟩) st).2 = .ok b → (Ps.step (psParties l) (⟨#[]⟩, ⟨#[]⟩) st).1 = (x, y)) := by
  obtain ⟨s1, hs1⟩ : ∃ s1, s1 = (Ps.step (Ps.word l Ps.sFrom) () st).2 := ⟨_, rfl⟩
  obtain ⟨x, hx⟩ : ∃ x, x = (Ps.step (psMember l) ⟨#[]⟩ s1).1 := ⟨_, rfl⟩
  obtain ⟨s2, hs2⟩ : ∃ s2, s2 = (Ps.step (psMember l) ⟨#[]⟩ s1).2 := ⟨_, rfl⟩
  obtain ⟨s3, hs3⟩ : ∃ s3, s3 = (Ps.step (Ps.word l Ps.sTo) () s2).2 := ⟨_, rfl⟩
  obtain ⟨y, hy⟩ : ∃ y, y = (Ps.step (psMember l) ⟨#[]⟩ s3).1 := ⟨_, rfl⟩
  obtain ⟨s4, hs4⟩ : ∃ s4, s4 = (Ps.step (psMember l) ⟨#[]⟩ s3).2 := ⟨_, rfl⟩
  have e1 : Ps.step (psParties l) (⟨#[]⟩, ⟨#[]⟩) st = Ps.step (Ps.pure' (x, y)) (⟨#[]⟩, ⟨#[]⟩) s4 := by
    unfold psParties
    rw [Ps.step_bind _ _ () _ st, ← hs1, Ps.step_bind _ _ ⟨#[]⟩ _ s1, ← hx, ← hs2, Ps.step_bind _ _ () _ s2, ← hs3, Ps.step_bind _ _ ⟨#[]⟩ _ s3, ← hy, ← hs4]
  have e2 : (Ps.step (Ps.pure' (x, y)) (⟨#[]⟩, ⟨#[]⟩) s4).2 = s4 := by cases s4 <;> rfl
  rw [e1, e2]
  refine (ps_partiesL W r x y (fun w => PsAt W0 w r tb cap l s1 ∧ Tch r r W w) (fun w => PsAt W0 w r tb cap l s2 ∧ Tch r r W w) (fun w => PsAt W0 w r tb cap l s3 ∧ Tch r r W w) (fun w => PsAt W0 w r tb cap l s4 ∧ Tch r r W w)
    (by rw [hs1]; exact ps_wordAt hl h ⟨#[102, 114, 111, 109]⟩) (Lib.hid fun w hw => ?_) (Lib.hid fun w hw => ?_) (Lib.hid fun w hw => ?_)).mono ?_
  · rw [hx, hs2]
    exact (ps_member hl env w r tb cap _ hw.1).mono fun e W' ⟨h1, h2, h3⟩ => ⟨h1, h2, hw.2.trans h3⟩
  · rw [hs3]
    exact (ps_wordAt hl hw.1 ⟨#[116, 111]⟩).mono fun e W' ⟨h1, h2, h3⟩ => ⟨h1, h2, hw.2.trans h3⟩
  · rw [hy, hs4]
    exact (ps_member hl env w r tb cap _ hw.1).mono fun e W' ⟨h1, h2, h3⟩ => ⟨h1, h2, hw.2.trans h3⟩
  · rintro e w ⟨rfl, h1, h2⟩
    refine ⟨x, y, rfl, h1, h2, fun b hb => ?_⟩
    rw [hb]
    rfl

/-! ### value -/
theorem take_snd {α β : Type} (l : List Ps.Tok) (F : ByteArray → α × Int) (G : ByteArray → β × Int) (h : ∀ s, (F s).2 = (G s).2) (ks : List Int) (z : α) (z' : β) (st : Ps.St) : (Ps.step (Ps.take l F ks) z st).2 = (Ps.step (Ps.take l G ks) z' st).2 := by
  cases st with
  | error e => rfl
  | ok a =>
    cases hta : l[a]? with
    | none =>
      have h1 : Ps.take l F ks a = .error (Ps.short l) := by simp only [Ps.take, hta]
      have h2 : Ps.take l G ks a = .error (Ps.short l) := by simp only [Ps.take, hta]
      rw [Ps.step_er h1, Ps.step_er h2]
    | some t =>
      by_cases hkd : t.1 ∈ ks
      · by_cases hc : (F t.2.1).2 = 0
        · have hg : (G t.2.1).2 = 0 := by rw [← h]; exact hc
          have h1 : Ps.take l F ks a = .ok ((F t.2.1).1, a + 1) := by simp only [Ps.take, hta, if_pos hkd, if_pos hc]
          have h2 : Ps.take l G ks a = .ok ((G t.2.1).1, a + 1) := by simp only [Ps.take, hta, if_pos hkd, if_pos hg]
          rw [Ps.step_ok h1, Ps.step_ok h2]
        · have hg : ¬ (G t.2.1).2 = 0 := by rw [← h]; exact hc
          have h1 : Ps.take l F ks a = .error (Ps.offAt l a, (F t.2.1).2) := by simp only [Ps.take, hta, if_pos hkd, if_neg hc]
          have h2 : Ps.take l G ks a = .error (Ps.offAt l a, (G t.2.1).2) := by simp only [Ps.take, hta, if_pos hkd, if_neg hg]
          rw [Ps.step_er h1, Ps.step_er h2, h]
      · have h1 : Ps.take l F ks a = .error (Ps.offAt l a, 30) := by simp only [Ps.take, hta, if_neg hkd]
        have h2 : Ps.take l G ks a = .error (Ps.offAt l a, 30) := by simp only [Ps.take, hta, if_neg hkd]
        rw [Ps.step_er h1, Ps.step_er h2]

theorem takenS_num (l : List Ps.Tok) (ks : List Int) (F : ByteArray → Int × Int) (hF : ∀ s, (F s).2 ≠ 0 → (F s).1 = 0) (st : Ps.St) :
    (match takenS l ks st with | some s => (F s).1 | none => 0) = (Ps.step (Ps.take l F ks) 0 st).1 := by
  cases st with
  | error e => rfl
  | ok a =>
    cases hta : l[a]? with
    | none =>
      have hw : Ps.take l F ks a = .error (Ps.short l) := by simp only [Ps.take, hta]
      rw [Ps.step_er hw]
      simp only [takenS, hta]
    | some t =>
      by_cases hkd : t.1 ∈ ks
      · by_cases hc : (F t.2.1).2 = 0
        · have hw : Ps.take l F ks a = .ok ((F t.2.1).1, a + 1) := by simp only [Ps.take, hta, if_pos hkd, if_pos hc]
          rw [Ps.step_ok hw]
          simp only [takenS, hta, if_pos hkd]
        · have hw : Ps.take l F ks a = .error (Ps.offAt l a, (F t.2.1).2) := by simp only [Ps.take, hta, if_pos hkd, if_neg hc]
          rw [Ps.step_er hw]
          simp only [takenS, hta, if_pos hkd]
          exact hF _ hc
      · have hw : Ps.take l F ks a = .error (Ps.offAt l a, 30) := by simp only [Ps.take, hta, if_neg hkd]
        rw [Ps.step_er hw]
        simp only [takenS, hta, if_neg hkd]

/-- a function of texts that hands over a number and an error -/
def PsNum (g : Nat) (W0 : World) (F : ByteArray → Int × Int) : Prop :=
  (∀ args w, (callFunc g args).run Tryz.prog w = .ok (.enter g args) w) ∧ (∀ s, (F s).2 ≠ 0 → (F s).1 = 0) ∧
  ∀ w (s : ByteArray), Below W0.heap.size W0 w → s.size ≤ 1000000 → Calls Tryz.prog g #[.string s] w fun e W' => e = .returned (.tuple #[.int .i64 (F s).1, .int .i64 (F s).2]) ∧ Below w.heap.size w W'

set_option maxRecDepth 100000 in
set_option maxHeartbeats 400000 in
theorem ps_valAccL (w : World) (s : ByteArray) (g kx ob : Nat) (u : Value) (n x : Int) (hk : w.cell? ⟨kx, 0, none⟩ = some (.func (.func g) #[] #[])) (ho : w.heap[ob]? = some (.cells #[u] 2 (0, 0)))
    (eg : ∀ args w, (callFunc g args).run Tryz.prog w = .ok (.enter g args) w)
    (n1 : Calls Tryz.prog g #[.string s] w fun e w' => e = .returned (.tuple #[.int .i64 n, .int .i64 x]) ∧ Below w.heap.size w w') :
    Calls Tryz.prog 162 #[.string s, .pointer (some ⟨kx, 0, none⟩), .pointer (some ⟨ob, 0, none⟩)] w fun e w' => e = .returned (.int .i64 x) ∧ w'.heap[ob]? = some (.cells #[.int .i64 n] 2 (0, 0)) ∧ Tch ob ob w w' := by
  have HO := Lib.hid ho
  clear ho
  go_enter Tryz.func162, Tryz.ntmps162
  go_wp2_with (go_at_fn g; refine n1.mono ?_; rintro e w' ⟨rfl, hb⟩; have HR := Lib.hid ((hb.block ob (Array.getElem?_eq_some_iff.1 HO.out).1).trans HO.out); have f0 := ps_frozen 0 HR.out; have z0 : w'.cell? ⟨ob, 0, none⟩ = some u := (by rw [cell_of_row _ _ _ _ _ _ HR.out]; rfl); have HB := Lib.hid hb; clear hb)
  go_ret
  exact ⟨rfl, ps_setCell w' ob 0 _ _ _ HR.out, (Tch.of_below HB.out).setCell 0 _⟩

end Go.Proofs.YthijakidnkhbnaaGreatDoor

namespace Go.Proofs.YthijakidnkhbnaaGreatDoor
open Go.RowKit

set_option maxRecDepth 100000 in
set_option maxHeartbeats 400000 in
theorem ps_valueL (W : World) (r g : Nat) (kd v : Int) (P : World → Prop)
    (n1 : Hid (∀ w kx ob kb, w.cell? ⟨kx, 0, none⟩ = some (.func (.func g) #[] #[]) → w.heap[ob]? = some (.cells #[.int .i64 0] 2 (0, 0)) → w.cell? ⟨kb, 0, none⟩ = some (.int .i64 kd) → Below W.heap.size W w → W.heap.size ≤ ob → W.heap.size ≤ kx → W.heap.size ≤ kb → kx ≠ ob →
      Calls Tryz.prog 97 #[.pointer (some ⟨r, 0, none⟩), .func (.func 162) #[] #[.pointer (some ⟨kx, 0, none⟩), .pointer (some ⟨ob, 0, none⟩)], .slice (some ⟨kb, 0, none⟩) 1 1] w fun e W' => e = .returned (.tuple #[]) ∧ W'.cell? ⟨ob, 0, none⟩ = some (.int .i64 v) ∧ P W')) :
    Calls Tryz.prog 132 #[.pointer (some ⟨r, 0, none⟩), .func (.func g) #[] #[], .int .i64 kd] W fun e W' => e = .returned (.int .i64 v) ∧ P W' := by
  go_enter Tryz.func132, Tryz.ntmps132
  go_wp2_with fail
  refine (n1.out _ W.heap.size (W.heap.size + 1) (W.heap.size + 1 + 1) ?_ ?_ ?_ ?_ (by omega) (by omega) (by omega) (by omega)).mono ?_
  · exact Lib.cell?_alloc_some _ (Lib.cell?_alloc_some _ (by rw [cell_of_row _ _ _ _ _ _ (ps_alloc_new W _)]; rfl))
  · rw [Below.heap_alloc _ _ _ (by simp)]
    have h := ps_alloc_new (W.alloc (Obj.cells #[.func (.func g) #[] #[]] 162)) (Obj.cells #[.int .i64 0] 2)
    rwa [show (W.alloc (Obj.cells #[.func (.func g) #[] #[]] 162)).heap.size = W.heap.size + 1 from by simp] at h
  · have h := ps_alloc_new ((W.alloc (Obj.cells #[.func (.func g) #[] #[]] 162)).alloc (Obj.cells #[.int .i64 0] 2)) (Obj.cells #[.int .i64 kd] 3)
    rw [show ((W.alloc (Obj.cells #[.func (.func g) #[] #[]] 162)).alloc (Obj.cells #[.int .i64 0] 2)).heap.size = W.heap.size + 1 + 1 from by simp] at h
    rw [cell_of_row _ _ _ _ _ _ h]; rfl
  · exact (((Below.refl _ _).alloc (Nat.le_refl _) _).alloc (by simp) _).alloc (by simp; omega) _
  rintro x w' ⟨rfl, hv, hp⟩
  clear n1
  go_wp2_with fail
  go_ret
  exact ⟨rfl, hp⟩

theorem ps_value {W0 W : World} {r tb cap : Nat} {l : List Ps.Tok} {st : Ps.St} (hl : ToksOk l) (h : PsAt W0 W r tb cap l st) (g : Nat) (F : ByteArray → Int × Int) (hg : PsNum g W0 F) (kd : Int) :
    Calls Tryz.prog 132 #[.pointer (some ⟨r, 0, none⟩), .func (.func g) #[] #[], .int .i64 kd] W fun e W' =>
      e = .returned (.int .i64 (Ps.step (Ps.take l F [kd]) 0 st).1) ∧ PsAt W0 W' r tb cap l (Ps.step (Ps.take l F [kd]) 0 st).2 ∧ Tch r r W W' := by
  obtain ⟨eg, hF, hc⟩ := hg
  refine ps_valueL W r g kd _ _ (Lib.hid fun w kx ob kb hkx hob hkb hbw hob0 hkx0 hkb0 hne => ?_)
  have hlt := h.rd.lt
  have h1 := h.below hbw
  obtain ⟨val, hval⟩ : ∃ val : Option ByteArray → Int, val = fun s => match s with | some s => (F s).1 | none => 0 := ⟨_, rfl⟩
  refine (ps_take h1.rd hl 162 (.pointer (some ⟨kx, 0, none⟩)) (.pointer (some ⟨ob, 0, none⟩)) kb 1 ob [kd] (by omega) (by simp) (by simp)
    (fun j x hx => by
      cases j with
      | zero => obtain rfl : kd = x := by simpa using hx
                exact hkb
      | succ j => simp at hx) (by omega) (by omega) (fun s => (F s).2)
    (fun s w' => w'.heap[ob]? = some (.cells #[.int .i64 (val s)] 2 (0, 0)) ∧ w'.cell? ⟨kx, 0, none⟩ = some (.func (.func g) #[] #[]) ∧ Below W0.heap.size W0 w') ?_ ?_
    (enters_of Tryz.func162 (by kernel_rfl) rfl) ?_).mono ?_
  · rintro s w1 w2 ⟨x1, x2, x3⟩ hT
    exact ⟨(hT.block ob (Array.getElem?_eq_some_iff.1 x1).1 (by omega) (by omega)).trans x1, hT.cell x2 (by show kx ≠ r; omega) (by show kx ≠ r; omega), x3.trans (hT.below h.r0 h.r0 x3.size)⟩
  · rw [hval]; exact ⟨hob, hkx, h1.base⟩
  · rintro s w1 ⟨x1, x2, x3⟩ hsz
    refine (ps_valAccL w1 s g kx ob _ (F s).1 (F s).2 x2 x1 eg (hc w1 s x3 hsz)).mono ?_
    rintro e w2 ⟨rfl, y1, y2⟩
    have hB : W0.heap.size ≤ ob := by have := h.base.size; omega
    exact ⟨rfl, ⟨by rw [y1, hval], y2.cell x2 hne hne, x3.trans (y2.below hB hB x3.size)⟩, y2⟩
  · rintro e w2 ⟨rfl, y1, y2, y3, y4, y5⟩
    have hT := Tch.fresh hbw y2 hob0
    rw [take_snd l (fun s => (s, (F s).2)) F (fun _ => rfl) [kd] ⟨#[]⟩ 0 st] at y1
    refine ⟨rfl, ?_, h.next y1 hT, hT⟩
    rw [cell_of_row _ _ _ _ _ _ y3, hval, ← takenS_num l [kd] F hF st]
    rfl

/-- the contract of a method without further arguments that reads a number -/
def PsInt (f : Nat) (W0 : World) (l : List Ps.Tok) (p : Ps.P Int) : Prop :=
  ∀ (W : World) (r tb cap : Nat) (st : Ps.St), PsAt W0 W r tb cap l st → Calls Tryz.prog f #[.pointer (some ⟨r, 0, none⟩)] W fun e W' =>
    e = .returned (.int .i64 (Ps.step p 0 st).1) ∧ PsAt W0 W' r tb cap l (Ps.step p 0 st).2 ∧ Tch r r W W'

set_option maxRecDepth 100000 in
set_option maxHeartbeats 400000 in
theorem ps_cash {W0 : World} {l : List Ps.Tok} (hl : ToksOk l) (F : ByteArray → Int × Int) (hF : PsNum 133 W0 F) : PsInt 90 W0 l (Ps.take l F [3]) := fun W r tb cap st h => by
  have n1 := ps_value hl h 133 F hF 3
  generalize Ps.step (Ps.take l F [3]) 0 st = x at *
  clear h hF hl
  go_enter Tryz.func90, Tryz.ntmps90
  go_wp2_with fail
  refine n1.mono ?_
  rintro e w ⟨rfl, h1, h2⟩
  clear n1
  go_wp2_with fail
  go_ret
  exact ⟨rfl, h1, h2⟩

set_option maxRecDepth 100000 in
set_option maxHeartbeats 400000 in
theorem ps_quantity {W0 : World} {l : List Ps.Tok} (hl : ToksOk l) (F : ByteArray → Int × Int) (hF : PsNum 168 W0 F) : PsInt 138 W0 l (Ps.take l F [2]) := fun W r tb cap st h => by
  have n1 := ps_value hl h 168 F hF 2
  generalize Ps.step (Ps.take l F [2]) 0 st = x at *
  clear h hF hl
  go_enter Tryz.func138, Tryz.ntmps138
  go_wp2_with fail
  refine n1.mono ?_
  rintro e w ⟨rfl, h1, h2⟩
  clear n1
  go_wp2_with fail
  go_ret
  exact ⟨rfl, h1, h2⟩

set_option maxRecDepth 100000 in
set_option maxHeartbeats 400000 in
theorem ps_day {W0 : World} {l : List Ps.Tok} (hl : ToksOk l) (F : ByteArray → Int × Int) (hF : PsNum 134 W0 F) : PsInt 91 W0 l (Ps.take l F [4]) := fun W r tb cap st h => by
  have n1 := ps_value hl h 134 F hF 4
  generalize Ps.step (Ps.take l F [4]) 0 st = x at *
  clear h hF hl
  go_enter Tryz.func91, Tryz.ntmps91
  go_wp2_with fail
  refine n1.mono ?_
  rintro e w ⟨rfl, h1, h2⟩
  clear n1
  go_wp2_with fail
  go_ret
  exact ⟨rfl, h1, h2⟩

end Go.Proofs.YthijakidnkhbnaaGreatDoor
