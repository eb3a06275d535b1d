/-
  The law of the options, plain: their order does not matter.
-/
import Derived.Test.YtampjeghdcpgfaaGreatDoorPlForm
namespace Go.Proofs.YtampjeghdcpgfaaGreatDoor.Ps
open Go

def base0 : List (Bs × Bs) := [([], [112, 97, 121]), ([32], [80, 49]), ([32], [102, 114, 111, 109]), ([32], [66, 65, 78, 75, 65]), ([32], [116, 111]), ([32], [66, 65, 78, 75, 66]), ([32], [97, 109, 111, 117, 110, 116]), ([32], [49, 53, 48, 48, 46, 48, 48]), ([32], [100, 97, 121]), ([32], [50, 48, 50, 54, 45, 49, 49, 45, 49, 54])]
def base1 : List (Bs × Bs) := [([], [100, 101, 108, 105, 118, 101, 114]), ([32], [68, 49]), ([32], [102, 114, 111, 109]), ([32], [66, 65, 78, 75, 65]), ([32], [116, 111]), ([32], [66, 65, 78, 75, 66]), ([32], [105, 115, 105, 110]), ([32], [85, 83, 48, 51, 55, 56, 51, 51, 49, 48, 48, 53]), ([32], [113, 117, 97, 110, 116, 105, 116, 121]), ([32], [49, 48, 48]), ([32], [97, 103, 97, 105, 110, 115, 116]), ([32], [50, 53, 48, 48, 48, 46, 48, 48]), ([32], [116, 114, 97, 100, 101]), ([32], [50, 48, 50, 54, 45, 49, 49, 45, 49, 50]), ([32], [100, 97, 121]), ([32], [50, 48, 50, 54, 45, 49, 49, 45, 49, 54])]
def base2 : List (Bs × Bs) := [([], [114, 101, 99, 101, 105, 118, 101]), ([32], [82, 49]), ([32], [102, 114, 111, 109]), ([32], [66, 65, 78, 75, 65]), ([32], [116, 111]), ([32], [66, 65, 78, 75, 66]), ([32], [105, 115, 105, 110]), ([32], [85, 83, 48, 51, 55, 56, 51, 51, 49, 48, 48, 53]), ([32], [113, 117, 97, 110, 116, 105, 116, 121]), ([32], [49, 48, 48]), ([32], [102, 114, 101, 101]), ([32], [116, 114, 97, 100, 101]), ([32], [50, 48, 50, 54, 45, 49, 49, 45, 49, 50]), ([32], [100, 97, 121]), ([32], [50, 48, 50, 54, 45, 49, 49, 45, 49, 54])]
def base : Nat → List (Bs × Bs)
  | 0 => base0
  | 1 => base1
  | _ => base2
def optP (j : Nat) : List (Bs × Bs) := (optT j).map fun t => ([32], t)
/-- the line -/
def optL (k : Nat) (os : List Nat) : Bs := Lx.lineOf (base k ++ os.flatMap optP) []

/-- what the reader finds in these lines -/
structure OptE (E : Env) : Prop where
  m1 : E.valid 1 ⟨#[66, 65, 78, 75, 65]⟩ = true
  m2 : E.valid 1 ⟨#[66, 65, 78, 75, 66]⟩ = true
  r0 : E.valid 2 ⟨#[80, 49]⟩ = true
  r1 : E.valid 2 ⟨#[68, 49]⟩ = true
  r2 : E.valid 2 ⟨#[82, 49]⟩ = true
  is : E.valid 0 ⟨#[85, 83, 48, 51, 55, 56, 51, 51, 49, 48, 48, 53]⟩ = true
  c0 : E.cash ⟨#[49, 53, 48, 48, 46, 48, 48]⟩ = (150000, 0)
  c1 : E.cash ⟨#[50, 53, 48, 48, 48, 46, 48, 48]⟩ = (2500000, 0)
  q : E.number ⟨#[49, 48, 48]⟩ = (100, 0)
  ten : E.number ⟨#[49, 48]⟩ = (10, 0)
  d : E.date ⟨#[50, 48, 50, 54, 45, 49, 49, 45, 49, 54]⟩ = (9816, 0)
  t : E.date ⟨#[50, 48, 50, 54, 45, 49, 49, 45, 49, 50]⟩ = (9812, 0)

theorem optP_ok : ∀ j : Nat, Lx.lineOk (optP j) false ∧ (optP j) ≠ [] ∧ (optP j).map (fun x => ((Lx.classify ⟨x.2.toArray⟩).1, (⟨x.2.toArray⟩ : ByteArray))) = optK j ∧ (Lx.lineOf (optP j) []).length ≤ 11
  | 0 => by refine ⟨?_, by decide, by decide +kernel, by decide⟩; exact Lx.lineOk_of _ _ (by decide +kernel)
  | 1 => by refine ⟨?_, by decide, by decide +kernel, by decide⟩; exact Lx.lineOk_of _ _ (by decide +kernel)
  | 2 => by refine ⟨?_, by decide, by decide +kernel, by decide⟩; exact Lx.lineOk_of _ _ (by decide +kernel)
  | 3 => by refine ⟨?_, by decide, by decide +kernel, by decide⟩; exact Lx.lineOk_of _ _ (by decide +kernel)
  | j + 4 => by show Lx.lineOk (optP 4) false ∧ optP 4 ≠ [] ∧ (optP 4).map (fun x => ((Lx.classify ⟨x.2.toArray⟩).1, (⟨x.2.toArray⟩ : ByteArray))) = optK 4 ∧ (Lx.lineOf (optP 4) []).length ≤ 11; refine ⟨?_, by decide, by decide +kernel, by decide⟩; exact Lx.lineOk_of _ _ (by decide +kernel)

theorem opts_lineOk : ∀ os : List Nat, Lx.lineOk (os.flatMap optP) false
  | [] => trivial
  | j :: os => by
    rw [List.flatMap_cons]
    refine lineOk_append _ _ _ (optP_ok j).1 ?_
    exact opts_lineOk os
theorem opts_length : ∀ os : List Nat, (Lx.lineOf (os.flatMap optP) []).length ≤ 11 * os.length
  | [] => Nat.le_refl _
  | j :: os => by
    rw [List.flatMap_cons, lineOf_append, List.length_append, List.length_cons]
    have := opts_length os
    have := (optP_ok j).2.2.2
    omega
theorem opts_kinds : ∀ os : List Nat, (os.flatMap optP).map (fun x => ((Lx.classify ⟨x.2.toArray⟩).1, (⟨x.2.toArray⟩ : ByteArray))) = os.flatMap optK
  | [] => rfl
  | j :: os => by
    rw [List.flatMap_cons, List.map_append, opts_kinds os, (optP_ok j).2.2.1, List.flatMap_cons]
theorem base_ok : ∀ k : Nat, Lx.lineOk (base k) true ∧ base k ≠ [] ∧ (Lx.lineOf (base k) []).length ≤ 200
  | 0 => by refine ⟨?_, by decide, by decide⟩; exact Lx.lineOk_of _ _ (by decide +kernel)
  | 1 => by refine ⟨?_, by decide, by decide⟩; exact Lx.lineOk_of _ _ (by decide +kernel)
  | k + 2 => by show Lx.lineOk base2 true ∧ base2 ≠ [] ∧ (Lx.lineOf base2 []).length ≤ 200; refine ⟨?_, by decide, by decide⟩; exact Lx.lineOk_of _ _ (by decide +kernel)

/-- the tokens of the line -/
def optTok (k : Nat) (os : List Nat) : List Tok := Lx.toksOf (base k ++ os.flatMap optP) 0
theorem opt_tokens (k : Nat) (os : List Nat) (hos : os.length ≤ 8) : Lx.tokenize ⟨(optL k os).toArray⟩ = (optTok k os, 0, 0) := by
  refine Lx.tokenize_line _ _ (lineOk_append _ _ _ (base_ok k).1 ?_) rfl ?_
  · have : (base k).isEmpty = false := by rw [List.isEmpty_eq_false_iff]; exact (base_ok k).2.1
    rw [this]
    exact opts_lineOk os
  · rw [lineOf_append, List.length_append]
    have := opts_length os
    have := (base_ok k).2.2
    omega
theorem optTok_length (k : Nat) (os : List Nat) : (optTok k os).length = (base k).length + (os.flatMap optK).length := by
  unfold optTok
  rw [toksOf_length, List.length_append, ← opts_kinds, List.length_map]
theorem optTok_tail (k : Nat) (os : List Nat) (j : Nat) (x : Int × ByteArray) (h : (os.flatMap optK)[j]? = some x) : TokAt (optTok k os) ((base k).length + j) x.1 x.2 := by
  rw [← opts_kinds, List.getElem?_map] at h
  obtain ⟨y, hy, rfl⟩ := Option.map_eq_some_iff.1 h
  exact toksOf_at _ 0 _ y.1 y.2 (by rw [List.getElem?_append_right (by omega), Nat.add_sub_cancel_left, hy])
theorem optTok_base (k : Nat) (os : List Nat) (j : Nat) (g t : Bs) (n : Int) (h : (base k)[j]? = some (g, t)) (hn : (Lx.classify ⟨t.toArray⟩).1 = n) : TokAt (optTok k os) j n ⟨t.toArray⟩ := by
  rw [← hn]
  exact toksOf_at _ 0 _ g t (by rw [List.getElem?_append_left (List.getElem?_eq_some_iff.1 h).1, h])

/-- the instructions ahead of their options -/
def ins0 : Ins := { kind := 0, asset := sCash, sender := ⟨#[66, 65, 78, 75, 65]⟩, counterparty := ⟨#[66, 65, 78, 75, 66]⟩, amount := 150000, settleDay := 9816 }
def ins1 : Ins := { kind := 1, sender := ⟨#[66, 65, 78, 75, 65]⟩, counterparty := ⟨#[66, 65, 78, 75, 66]⟩, asset := ⟨#[85, 83, 48, 51, 55, 56, 51, 51, 49, 48, 48, 53]⟩, quantity := 100, amount := 2500000, tradeDay := 9812, settleDay := 9816 }
def ins2 : Ins := { kind := 2, sender := ⟨#[66, 65, 78, 75, 65]⟩, counterparty := ⟨#[66, 65, 78, 75, 66]⟩, asset := ⟨#[85, 83, 48, 51, 55, 56, 51, 51, 49, 48, 48, 53]⟩, quantity := 100, tradeDay := 9812, settleDay := 9816 }
def insO : Nat → Ins
  | 0 => ins0
  | 1 => ins1
  | _ => ins2
def refO : Nat → ByteArray
  | 0 => ⟨#[80, 49]⟩
  | 1 => ⟨#[68, 49]⟩
  | _ => ⟨#[82, 49]⟩
def endO : Nat → Ins → Ins
  | 0, i => i
  | 1, i => i
  | _, i => turn i

theorem opt_line0 (E : Env) (hE : OptE E) (os : List Nat) : (∀ i b, options E (optTok 0 os) ((optTok 0 os).length + 1) {} ins0 10 = .ok (i, b) → b = (optTok 0 os).length → line E (optTok 0 os) 0 = .ok ({ ref := refO 0, ins := endO 0 i }, b)) ∧
    (∀ e, options E (optTok 0 os) ((optTok 0 os).length + 1) {} ins0 10 = .error e → line E (optTok 0 os) 0 = .error e) := by
  have hp : parties E (optTok 0 os) 2 = .ok ((⟨#[66, 65, 78, 75, 65]⟩, ⟨#[66, 65, 78, 75, 66]⟩), 6) := parties_at (optTok_base 0 os 2 _ _ 0 rfl (by decide +kernel)) rfl (optTok_base 0 os 3 _ _ 1 rfl (by decide +kernel)) hE.m1 (optTok_base 0 os 4 _ _ 0 rfl (by decide +kernel)) rfl (optTok_base 0 os 5 _ _ 1 rfl (by decide +kernel)) hE.m2
  have hr : payment E (optTok 0 os) {} 2 = options E (optTok 0 os) ((optTok 0 os).length + 1) {} ins0 10 := payment_at {} hp (optTok_base 0 os 6 _ _ 0 rfl (by decide +kernel)) rfl (optTok_base 0 os 7 _ _ 3 rfl (by decide +kernel)) hE.c0 (optTok_base 0 os 8 _ _ 0 rfl (by decide +kernel)) rfl (optTok_base 0 os 9 _ _ 4 rfl (by decide +kernel)) hE.d
  have h0 := (optTok_base 0 os 0 _ _ 0 rfl (by decide +kernel))
  have h1 := (optTok_base 0 os 1 _ _ 1 rfl (by decide +kernel))
  refine ⟨fun i b ho hb => ?_, fun e ho => ?_⟩
  · subst hb
    refine line_at h0 (by decide) h1 (by simp) hE.r0 _ ?_
    unfold rest
    rw [if_pos (by decide)]
    show bind' (payment E (optTok 0 os) {}) _ 2 = _
    rw [bind_ok (hr.trans ho)]
    rfl
  · refine line_er h0 (by decide) h1 (by simp) hE.r0 _ ?_
    unfold rest
    rw [if_pos (by decide)]
    show bind' (payment E (optTok 0 os) {}) _ 2 = _
    rw [bind_error (hr.trans ho)]
theorem opt_line1 (E : Env) (hE : OptE E) (os : List Nat) : (∀ i b, options E (optTok 1 os) ((optTok 1 os).length + 1) {} ins1 16 = .ok (i, b) → b = (optTok 1 os).length → line E (optTok 1 os) 0 = .ok ({ ref := refO 1, ins := endO 1 i }, b)) ∧
    (∀ e, options E (optTok 1 os) ((optTok 1 os).length + 1) {} ins1 16 = .error e → line E (optTok 1 os) 0 = .error e) := by
  have hp : parties E (optTok 1 os) 2 = .ok ((⟨#[66, 65, 78, 75, 65]⟩, ⟨#[66, 65, 78, 75, 66]⟩), 6) := parties_at (optTok_base 1 os 2 _ _ 0 rfl (by decide +kernel)) rfl (optTok_base 1 os 3 _ _ 1 rfl (by decide +kernel)) hE.m1 (optTok_base 1 os 4 _ _ 0 rfl (by decide +kernel)) rfl (optTok_base 1 os 5 _ _ 1 rfl (by decide +kernel)) hE.m2
  have hs : ∀ j, security E (optTok 1 os) j 6 = .ok ({ j with asset := ⟨#[85, 83, 48, 51, 55, 56, 51, 51, 49, 48, 48, 53]⟩, quantity := 100 }, 10) := fun j => security_at j (optTok_base 1 os 6 _ _ 0 rfl (by decide +kernel)) rfl (optTok_base 1 os 7 _ _ 1 rfl (by decide +kernel)) hE.is (optTok_base 1 os 8 _ _ 0 rfl (by decide +kernel)) rfl (optTok_base 1 os 9 _ _ 2 rfl (by decide +kernel)) hE.q
  have hr : trade E (optTok 1 os) {} 2 = options E (optTok 1 os) ((optTok 1 os).length + 1) {} ins1 16 := against_at {} hp hs (optTok_base 1 os 10 _ _ 0 rfl (by decide +kernel)) rfl (optTok_base 1 os 11 _ _ 3 rfl (by decide +kernel)) hE.c1 (optTok_base 1 os 12 _ _ 0 rfl (by decide +kernel)) rfl (optTok_base 1 os 13 _ _ 4 rfl (by decide +kernel)) hE.t (optTok_base 1 os 14 _ _ 0 rfl (by decide +kernel)) rfl (optTok_base 1 os 15 _ _ 4 rfl (by decide +kernel)) hE.d
  have h0 := (optTok_base 1 os 0 _ _ 0 rfl (by decide +kernel))
  have h1 := (optTok_base 1 os 1 _ _ 1 rfl (by decide +kernel))
  refine ⟨fun i b ho hb => ?_, fun e ho => ?_⟩
  · subst hb
    refine line_at h0 (by decide) h1 (by simp) hE.r1 _ ?_
    unfold rest
    rw [if_neg (by decide), if_pos (by decide)]
    show bind' (trade E (optTok 1 os) {}) _ 2 = _
    rw [bind_ok (hr.trans ho)]
    rfl
  · refine line_er h0 (by decide) h1 (by simp) hE.r1 _ ?_
    unfold rest
    rw [if_neg (by decide), if_pos (by decide)]
    show bind' (trade E (optTok 1 os) {}) _ 2 = _
    rw [bind_error (hr.trans ho)]
theorem opt_line2 (E : Env) (hE : OptE E) (os : List Nat) : (∀ i b, options E (optTok 2 os) ((optTok 2 os).length + 1) {} ins2 15 = .ok (i, b) → b = (optTok 2 os).length → line E (optTok 2 os) 0 = .ok ({ ref := refO 2, ins := endO 2 i }, b)) ∧
    (∀ e, options E (optTok 2 os) ((optTok 2 os).length + 1) {} ins2 15 = .error e → line E (optTok 2 os) 0 = .error e) := by
  have hp : parties E (optTok 2 os) 2 = .ok ((⟨#[66, 65, 78, 75, 65]⟩, ⟨#[66, 65, 78, 75, 66]⟩), 6) := parties_at (optTok_base 2 os 2 _ _ 0 rfl (by decide +kernel)) rfl (optTok_base 2 os 3 _ _ 1 rfl (by decide +kernel)) hE.m1 (optTok_base 2 os 4 _ _ 0 rfl (by decide +kernel)) rfl (optTok_base 2 os 5 _ _ 1 rfl (by decide +kernel)) hE.m2
  have hs : ∀ j, security E (optTok 2 os) j 6 = .ok ({ j with asset := ⟨#[85, 83, 48, 51, 55, 56, 51, 51, 49, 48, 48, 53]⟩, quantity := 100 }, 10) := fun j => security_at j (optTok_base 2 os 6 _ _ 0 rfl (by decide +kernel)) rfl (optTok_base 2 os 7 _ _ 1 rfl (by decide +kernel)) hE.is (optTok_base 2 os 8 _ _ 0 rfl (by decide +kernel)) rfl (optTok_base 2 os 9 _ _ 2 rfl (by decide +kernel)) hE.q
  have hr : trade E (optTok 2 os) {} 2 = options E (optTok 2 os) ((optTok 2 os).length + 1) {} ins2 15 := free_at {} hp hs (optTok_base 2 os 10 _ _ 0 rfl (by decide +kernel)) rfl (optTok_base 2 os 11 _ _ 0 rfl (by decide +kernel)) rfl (optTok_base 2 os 12 _ _ 4 rfl (by decide +kernel)) hE.t (optTok_base 2 os 13 _ _ 0 rfl (by decide +kernel)) rfl (optTok_base 2 os 14 _ _ 4 rfl (by decide +kernel)) hE.d
  have h0 := (optTok_base 2 os 0 _ _ 0 rfl (by decide +kernel))
  have h1 := (optTok_base 2 os 1 _ _ 1 rfl (by decide +kernel))
  refine ⟨fun i b ho hb => ?_, fun e ho => ?_⟩
  · subst hb
    refine line_at h0 (by decide) h1 (by simp) hE.r2 _ ?_
    unfold rest
    rw [if_neg (by decide), if_neg (by decide), if_pos (by decide)]
    show bind' (trade E (optTok 2 os) {}) _ 2 = _
    rw [bind_ok (hr.trans ho)]
    rfl
  · refine line_er h0 (by decide) h1 (by simp) hE.r2 _ ?_
    unfold rest
    rw [if_neg (by decide), if_neg (by decide), if_pos (by decide)]
    show bind' (trade E (optTok 2 os) {}) _ 2 = _
    rw [bind_error (hr.trans ho)]

theorem opt_line (E : Env) (hE : OptE E) (k : Nat) (os : List Nat) : (dupsO {} os = false → line E (optTok k os) 0 = .ok ({ ref := refO k, ins := endO k (os.foldl appO (insO k)) }, (optTok k os).length)) ∧ (dupsO {} os = true → ∃ o, line E (optTok k os) 0 = .error (o, 7)) := by
  have hall := options_all E (optTok k os) hE.ten os ((optTok k os).length + 1) {} (insO k) (base k).length (optTok_tail k os) (optTok_length k os) (by
    have : os.length ≤ (os.flatMap optK).length := by
      rw [← opts_kinds, List.length_map]
      clear hE
      induction os with
      | nil => exact Nat.le_refl _
      | cons j os ih =>
        rw [List.flatMap_cons, List.length_append, List.length_cons]
        have := List.length_pos_iff.2 (optP_ok j).2.1
        omega
    rw [optTok_length]; omega)
  match k, hall with
  | 0, hall => exact ⟨fun h => (opt_line0 E hE os).1 _ _ (hall.1 h) rfl, fun h => (hall.2 h).elim fun o ho => ⟨o, (opt_line0 E hE os).2 _ ho⟩⟩
  | 1, hall => exact ⟨fun h => (opt_line1 E hE os).1 _ _ (hall.1 h) rfl, fun h => (hall.2 h).elim fun o ho => ⟨o, (opt_line1 E hE os).2 _ ho⟩⟩
  | k + 2, hall => exact ⟨fun h => (opt_line2 E hE os).1 _ _ (hall.1 h) rfl, fun h => (hall.2 h).elim fun o ho => ⟨o, (opt_line2 E hE os).2 _ ho⟩⟩

/-- the order of the options does not matter -/
theorem opt_law (E : Env) (hE : OptE E) (check : Req → Int) (k : Nat) (os os' : List Nat) (hp : os.Perm os') (hl : os.length ≤ 8) :
    ((parse E check ⟨(optL k os).toArray⟩).2.2 = 0 ↔ (parse E check ⟨(optL k os').toArray⟩).2.2 = 0) ∧ (parse E check ⟨(optL k os).toArray⟩).1 = (parse E check ⟨(optL k os').toArray⟩).1 := by
  have hl' : os'.length ≤ 8 := by rw [← hp.length_eq]; exact hl
  unfold parse
  rw [opt_tokens k os hl, opt_tokens k os' hl']
  simp only [ne_eq, not_true_eq_false, if_false]
  cases hd : dupsO {} os with
  | true =>
    obtain ⟨o, ho⟩ := (opt_line E hE k os).2 hd
    obtain ⟨o', ho'⟩ := (opt_line E hE k os').2 (by rw [← dups_perm hp]; exact hd)
    rw [ho, ho']
    exact ⟨Iff.rfl, rfl⟩
  | false =>
    have hd' : dupsO {} os' = false := by rw [← dups_perm hp]; exact hd
    rw [(opt_line E hE k os).1 hd, (opt_line E hE k os').1 hd', ← app_perm hp ((dups_iff _ _).1 hd).1]
    simp only [if_true]
    by_cases hc : check { sender := (endO k (os.foldl appO (insO k))).sender, ref := refO k, ins := { endO k (os.foldl appO (insO k)) with ref := refO k } } = 0
    · simp only [hc, not_true_eq_false, if_false]
      exact ⟨trivial, trivial⟩
    · simp only [hc, not_false_eq_true, if_true]
      exact ⟨trivial, trivial⟩

theorem app_links : ∀ (os : List Nat) (i : Ins), (os.foldl appO i).links = i.links
  | [], _ => rfl
  | j :: os, i => by
    rw [List.foldl_cons, app_links os (appO i j)]
    unfold appO
    split <;> rfl
theorem end_links (k : Nat) (i : Ins) : (endO k i).links = i.links := by
  unfold endO
  split <;> rfl
theorem ins_links (k : Nat) : (insO k).links = [] := by
  unfold insO
  split <;> rfl
/-- no links -/
theorem opt_links (E : Env) (hE : OptE E) (check : Req → Int) (k : Nat) (os : List Nat) (hl : os.length ≤ 8) : (parse E check ⟨(optL k os).toArray⟩).1.ins.links = [] := by
  unfold parse
  rw [opt_tokens k os hl]
  simp only [ne_eq, not_true_eq_false, if_false]
  cases hd : dupsO {} os with
  | true =>
    obtain ⟨o, ho⟩ := (opt_line E hE k os).2 hd
    rw [ho]
  | false =>
    rw [(opt_line E hE k os).1 hd]
    simp only [if_true]
    by_cases hc : check { sender := (endO k (os.foldl appO (insO k))).sender, ref := refO k, ins := { endO k (os.foldl appO (insO k)) with ref := refO k } } = 0
    · simp only [hc, not_true_eq_false, if_false]
      rw [end_links, app_links, ins_links]
    · simp only [hc, not_false_eq_true, if_true]

end Go.Proofs.YtampjeghdcpgfaaGreatDoor.Ps
