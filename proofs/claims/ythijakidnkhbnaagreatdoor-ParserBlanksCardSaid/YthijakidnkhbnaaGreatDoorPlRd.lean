/-
  The plain reader on tokens that are known; the options in any order; no program in sight.
-/
import Derived.Test.YthijakidnkhbnaaGreatDoorPsPlain
import Derived.Test.YthijakidnkhbnaaGreatDoorPlTok
namespace Go.Proofs.YthijakidnkhbnaaGreatDoor.Ps
open Go

/-- a token of a kind and a text at a place -/
def TokAt (l : List Tok) (a : Nat) (k : Int) (t : ByteArray) : Prop := ∃ o, l[a]? = some (k, t, o)
theorem TokAt.lt {l : List Tok} {a : Nat} {k : Int} {t : ByteArray} (h : TokAt l a k t) : a < l.length := by
  obtain ⟨o, h⟩ := h
  exact (List.getElem?_eq_some_iff.1 h).1
theorem peek_at {l : List Tok} {a : Nat} {t : ByteArray} (h : TokAt l a 0 t) : peek l a = t := by
  obtain ⟨o, h⟩ := h
  simp only [peek, h]
  rfl
theorem word_at {l : List Tok} {a : Nat} {t : ByteArray} {w : Bs} (h : TokAt l a 0 t) (hw : t.data.toList = w) : word l w a = .ok ((), a + 1) := by
  unfold word
  rw [if_neg (by have := h.lt; omega), peek_at h, if_pos hw]
theorem take_at {α : Type} {l : List Tok} {a : Nat} {k : Int} {t : ByteArray} {f : ByteArray → α × Int} {ks : List Int} (h : TokAt l a k t) (hk : k ∈ ks) (x : α) (hf : f t = (x, 0)) : take l f ks a = .ok (x, a + 1) := by
  obtain ⟨o, h⟩ := h
  unfold take
  simp only [h, if_pos hk, hf, if_true]
theorem ident_at {E : Env} {l : List Tok} {a : Nat} {k : Int} {t : ByteArray} {n : Nat} {ks : List Int} (h : TokAt l a k t) (hk : k ∈ ks) (hf : E.valid n t = true) : ident E l n ks a = .ok (t, a + 1) := take_at h hk t (by rw [if_pos hf])
theorem day_at {E : Env} {l : List Tok} {a : Nat} {t : ByteArray} (h : TokAt l a 4 t) (x : Int) (hf : E.date t = (x, 0)) : day E l a = .ok (x, a + 1) := take_at h (by simp) x (by rw [hf]; rfl)
theorem cash_at {E : Env} {l : List Tok} {a : Nat} {t : ByteArray} (h : TokAt l a 3 t) (x : Int) (hf : E.cash t = (x, 0)) : cash E l a = .ok (x, a + 1) := take_at h (by simp) x hf
theorem quantity_at {E : Env} {l : List Tok} {a : Nat} {t : ByteArray} (h : TokAt l a 2 t) (x : Int) (hf : E.number t = (x, 0)) : quantity E l a = .ok (x, a + 1) := take_at h (by simp) x hf

/-! ### options of five kinds -/
def optT : Nat → List Bs
  | 0 => [sUrgent]
  | 1 => [sPartial, [49, 48]]
  | 2 => [sHold]
  | 3 => [sReserve]
  | _ => [sHigh]
/-- the kinds and texts of their tokens -/
def optK : Nat → List (Int × ByteArray)
  | 0 => [(0, ⟨sUrgent.toArray⟩)]
  | 1 => [(0, ⟨sPartial.toArray⟩), (2, ⟨#[49, 48]⟩)]
  | 2 => [(0, ⟨sHold.toArray⟩)]
  | 3 => [(0, ⟨sReserve.toArray⟩)]
  | _ => [(0, ⟨sHigh.toArray⟩)]
def pur : Nat → Nat
  | 0 => 0
  | 1 => 1
  | 2 => 2
  | 3 => 3
  | _ => 0
def seenB (s : Seen) : Nat → Bool
  | 0 => s.prio
  | 1 => s.part
  | 2 => s.hold
  | _ => s.res
def markS (s : Seen) : Nat → Seen
  | 0 => { s with prio := true }
  | 1 => { s with part := true }
  | 2 => { s with hold := true }
  | _ => { s with res := true }
def appO (i : Ins) : Nat → Ins
  | 0 => { i with priority := 2 }
  | 1 => { i with partial_ := true, minLot := 10 }
  | 2 => { i with hold := true }
  | 3 => { i with reserve := true }
  | _ => { i with priority := 1 }
def dupsO : Seen → List Nat → Bool
  | _, [] => false
  | s, k :: r => seenB s (pur k) || dupsO (markS s (pur k)) r

section
variable (E : Env) (l : List Tok) (f : Nat) (s : Seen) (i : Ins) (a : Nat)
theorem opt_prio (hlt : a < l.length) (p : Int) (hp : prio (peek l a).data.toList = some p) : options E l (f + 1) s i a = if s.prio = true then .error (offAt l a, 7) else options E l f { s with prio := true } { i with priority := p } (a + 1) := by
  conv => lhs; unfold options
  rw [if_neg (by omega), hp]
  simp only []
  by_cases h : s.prio = true
  · rw [if_pos h, if_pos h]; rfl
  · rw [if_neg h, if_neg h]
theorem opt_part (hlt : a < l.length) (hw : (peek l a).data.toList = sPartial) : options E l (f + 1) s i a = if s.part = true then .error (offAt l a, 7) else bind' (quantity E l) (fun n => options E l f { s with part := true } { i with partial_ := true, minLot := n }) (a + 1) := by
  conv => lhs; unfold options
  rw [if_neg (by omega), hw, show prio sPartial = none from by decide]
  simp only [if_true]
  by_cases h : s.part = true
  · rw [if_pos h, if_pos h]; rfl
  · rw [if_neg h, if_neg h]
theorem opt_hold (hlt : a < l.length) (hw : (peek l a).data.toList = sHold) : options E l (f + 1) s i a = if s.hold = true then .error (offAt l a, 7) else options E l f { s with hold := true } { i with hold := true } (a + 1) := by
  conv => lhs; unfold options
  rw [if_neg (by omega), hw, show prio sHold = none from by decide]
  simp only []
  rw [if_neg (by decide), if_pos trivial]
  by_cases h : s.hold = true
  · rw [if_pos h, if_pos h]; rfl
  · rw [if_neg h, if_neg h]
theorem opt_res (hlt : a < l.length) (hw : (peek l a).data.toList = sReserve) : options E l (f + 1) s i a = if s.res = true then .error (offAt l a, 7) else options E l f { s with res := true } { i with reserve := true } (a + 1) := by
  conv => lhs; unfold options
  rw [if_neg (by omega), hw, show prio sReserve = none from by decide]
  simp only []
  rw [if_neg (by decide), if_neg (by decide), if_pos trivial]
  by_cases h : s.res = true
  · rw [if_pos h, if_pos h]; rfl
  · rw [if_neg h, if_neg h]
theorem opt_with (hlt : a < l.length) (hw : (peek l a).data.toList = sWith) : options E l (f + 1) s i a = bind' (ref E l) (fun r => options E l f s { i with links := i.links ++ [⟨0, r⟩] }) (a + 1) := by
  conv => lhs; unfold options
  rw [if_neg (by omega), hw, show prio sWith = none from by decide]
  simp only []
  rw [if_neg (by decide), if_neg (by decide), if_neg (by decide), if_pos trivial]
theorem opt_after (hlt : a < l.length) (hw : (peek l a).data.toList = sAfter) : options E l (f + 1) s i a = bind' (ref E l) (fun r => options E l f s { i with links := i.links ++ [⟨1, r⟩] }) (a + 1) := by
  conv => lhs; unfold options
  rw [if_neg (by omega), hw, show prio sAfter = none from by decide]
  simp only []
  rw [if_neg (by decide), if_neg (by decide), if_neg (by decide), if_neg (by decide), if_pos trivial]
end
theorem opt_end (E : Env) (l : List Tok) (f : Nat) (s : Seen) (i : Ins) (a : Nat) (h : l.length ≤ a) : options E l (f + 1) s i a = .ok (i, a) := by
  conv => lhs; unfold options
  rw [if_pos h]

theorem opt_one (E : Env) (l : List Tok) (hn : E.number ⟨#[49, 48]⟩ = (10, 0)) (f : Nat) (s : Seen) (i : Ins) (a k : Nat) (h : ∀ j x, (optK k)[j]? = some x → TokAt l (a + j) x.1 x.2) :
    options E l (f + 1) s i a = if seenB s (pur k) = true then .error (offAt l a, 7) else options E l f (markS s (pur k)) (appO i k) (a + (optK k).length) := by
  match k, h with
  | 0, h =>
    have h0 : TokAt l a 0 ⟨sUrgent.toArray⟩ := h 0 _ rfl
    rw [opt_prio E l f s i a h0.lt 2 (by rw [peek_at h0]; decide)]
    rfl
  | 1, h =>
    have h0 : TokAt l a 0 ⟨sPartial.toArray⟩ := h 0 _ rfl
    have h1 : TokAt l (a + 1) 2 ⟨#[49, 48]⟩ := h 1 _ rfl
    rw [opt_part E l f s i a h0.lt (by rw [peek_at h0]), bind_ok (quantity_at h1 10 hn)]
    rfl
  | 2, h =>
    have h0 : TokAt l a 0 ⟨sHold.toArray⟩ := h 0 _ rfl
    rw [opt_hold E l f s i a h0.lt (by rw [peek_at h0])]
    rfl
  | 3, h =>
    have h0 : TokAt l a 0 ⟨sReserve.toArray⟩ := h 0 _ rfl
    rw [opt_res E l f s i a h0.lt (by rw [peek_at h0])]
    rfl
  | k + 4, h =>
    have h0 : TokAt l a 0 ⟨sHigh.toArray⟩ := h 0 _ rfl
    rw [opt_prio E l f s i a h0.lt 1 (by rw [peek_at h0]; decide)]
    rfl

theorem options_all (E : Env) (l : List Tok) (hn : E.number ⟨#[49, 48]⟩ = (10, 0)) : ∀ (os : List Nat) (f : Nat) (s : Seen) (i : Ins) (a : Nat), (∀ j x, (os.flatMap optK)[j]? = some x → TokAt l (a + j) x.1 x.2) → l.length = a + (os.flatMap optK).length → os.length < f →
    (dupsO s os = false → options E l f s i a = .ok (os.foldl appO i, l.length)) ∧ (dupsO s os = true → ∃ o, options E l f s i a = .error (o, 7))
  | [], 0, s, i, a, h, hl, hf => by simp at hf
  | [], f + 1, s, i, a, h, hl, hf => by
    refine ⟨fun _ => ?_, fun hd => by simp [dupsO] at hd⟩
    have hl' : l.length = a := by simpa using hl
    rw [opt_end E l f s i a (by omega), hl']
    rfl
  | k :: os, 0, s, i, a, h, hl, hf => by simp at hf
  | k :: os, f + 1, s, i, a, h, hl, hf => by
    have e1 := opt_one E l hn f s i a k fun j x hx => h j x (by
      rw [List.flatMap_cons, List.getElem?_append_left (List.getElem?_eq_some_iff.1 hx).1]; exact hx)
    have ih := options_all E l hn os f (markS s (pur k)) (appO i k) (a + (optK k).length) (fun j x hx => by
      have := h ((optK k).length + j) x (by rw [List.flatMap_cons, List.getElem?_append_right (by omega)]; simpa using hx)
      rwa [show a + ((optK k).length + j) = a + (optK k).length + j from by omega] at this) (by rw [List.flatMap_cons, List.length_append] at hl; omega) (by simpa using hf)
    rw [e1]
    unfold dupsO
    by_cases hs : seenB s (pur k) = true
    · simp only [hs, Bool.true_or]
      exact ⟨fun h => by simp at h, fun _ => ⟨_, rfl⟩⟩
    · have hs' : seenB s (pur k) = false := by simpa using hs
      simp only [hs', Bool.false_or, Bool.false_eq_true, if_false]
      exact ih

/-! ### any order -/
theorem dups_iff : ∀ (os : List Nat) (s : Seen), (dupsO s os = false ↔ (os.map pur).Nodup ∧ ∀ k ∈ os, seenB s (pur k) = false)
  | [], s => by simp [dupsO]
  | k :: os, s => by
    have hm : ∀ j : Nat, seenB (markS s (pur k)) (pur j) = (seenB s (pur j) || decide (pur j = pur k)) := fun j => by
      have hk : pur k = 0 ∨ pur k = 1 ∨ pur k = 2 ∨ pur k = 3 := by unfold pur; split <;> simp
      have hj : pur j = 0 ∨ pur j = 1 ∨ pur j = 2 ∨ pur j = 3 := by unfold pur; split <;> simp
      rcases hk with h | h | h | h <;> rcases hj with h' | h' | h' | h' <;> rw [h, h'] <;> simp [markS, seenB]
    unfold dupsO
    rw [Bool.or_eq_false_iff, dups_iff os, List.map_cons, List.nodup_cons]
    constructor
    · rintro ⟨h1, h2, h3⟩
      refine ⟨⟨fun hk => ?_, h2⟩, fun j hj => ?_⟩
      · obtain ⟨j, hj, he⟩ := List.mem_map.1 hk
        have := h3 j hj
        rw [hm j] at this
        simp [he] at this
      · rcases List.mem_cons.1 hj with rfl | hj
        · exact h1
        · have := h3 j hj
          rw [hm j] at this
          simp at this
          exact this.1
    · rintro ⟨⟨h1, h2⟩, h3⟩
      refine ⟨h3 k List.mem_cons_self, h2, fun j hj => ?_⟩
      rw [hm j, h3 j (List.mem_cons_of_mem _ hj)]
      simp only [Bool.false_or, decide_eq_false_iff_not]
      exact fun he => h1 (List.mem_map.2 ⟨j, hj, he⟩)
theorem dups_perm {os os' : List Nat} (h : os.Perm os') : dupsO {} os = dupsO {} os' := by
  have e : ∀ k : Nat, seenB {} (pur k) = false := fun k => by
    have hk : pur k = 0 ∨ pur k = 1 ∨ pur k = 2 ∨ pur k = 3 := by unfold pur; split <;> simp
    rcases hk with h | h | h | h <;> rw [h] <;> rfl
  have : dupsO {} os = false ↔ dupsO {} os' = false := by
    rw [dups_iff, dups_iff, (h.map pur).nodup_iff]
    simp [e]
  cases h1 : dupsO {} os with
  | false => exact (this.1 h1).symm
  | true =>
    cases h2 : dupsO {} os' with
    | true => rfl
    | false => rw [this.2 h2] at h1; cases h1
theorem app_comm (i : Ins) (j k : Nat) (h : pur j ≠ pur k) : appO (appO i j) k = appO (appO i k) j := by
  unfold pur at h
  unfold appO
  split at h <;> split at h <;> first | exact absurd rfl h | rfl
theorem app_perm {os os' : List Nat} (h : os.Perm os') : (os.map pur).Nodup → ∀ i, os.foldl appO i = os'.foldl appO i := by
  induction h with
  | nil => exact fun _ _ => rfl
  | cons x _ ih =>
    intro hn i
    rw [List.map_cons, List.nodup_cons] at hn
    exact ih hn.2 _
  | swap x y l =>
    intro hn i
    rw [List.map_cons, List.map_cons, List.nodup_cons] at hn
    show l.foldl appO (appO (appO i y) x) = l.foldl appO (appO (appO i x) y)
    rw [app_comm i y x fun he => hn.1 (by rw [he]; exact List.mem_cons_self)]
  | trans h1 _ ih1 ih2 =>
    intro hn i
    rw [ih1 hn i, ih2 ((h1.map pur).nodup_iff.1 hn) i]

/-- a rotation -/
theorem rot_perm (os : List Nat) (t : Nat) (back : List Nat) (hl : back.length = os.length) (h : ∀ i, i < os.length → back[i]? = os[(i + t) % os.length]?) : os.Perm back := by
  by_cases h0 : os.length = 0
  · obtain rfl := List.eq_nil_of_length_eq_zero h0
    obtain rfl := List.eq_nil_of_length_eq_zero (hl.trans h0)
    exact List.Perm.refl _
  have hb : back = os.drop (t % os.length) ++ os.take (t % os.length) := by
    have hm := Nat.mod_lt t (Nat.pos_of_ne_zero h0)
    refine List.ext_getElem? fun i => ?_
    by_cases hi : i < os.length
    · rw [h i hi]
      by_cases hc : i < os.length - t % os.length
      · rw [List.getElem?_append_left (by rw [List.length_drop]; exact hc), List.getElem?_drop]
        congr 1
        rw [Nat.add_mod, Nat.mod_eq_of_lt hi, Nat.mod_eq_of_lt (by omega)]
        omega
      · rw [List.getElem?_append_right (by rw [List.length_drop]; omega), List.length_drop, List.getElem?_take, if_pos (by omega)]
        congr 1
        rw [Nat.add_mod, Nat.mod_eq_of_lt hi, Nat.mod_eq_sub_mod (by omega), Nat.mod_eq_of_lt (by omega)]
        omega
    · rw [List.getElem?_eq_none (by omega), List.getElem?_eq_none (by rw [List.length_append, List.length_drop, List.length_take]; omega)]
  rw [hb]
  conv => lhs; rw [← List.take_append_drop (t % os.length) os]
  exact List.perm_append_comm

end Go.Proofs.YthijakidnkhbnaaGreatDoor.Ps
