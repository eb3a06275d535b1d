/-
  Numbers and amounts written out: the kinds of these texts, and what they denote; no program in sight.
-/
import Derived.Test.YthijakidnkhbnaaGreatDoorPlCash
import Derived.Test.YthijakidnkhbnaaGreatDoorPlTok
import Derived.Lib.ItoaNum
namespace Go.Proofs.YthijakidnkhbnaaGreatDoor.Ps
open Go

/-- a digit -/
def dgt (n : Nat) : UInt8 := UInt8.ofNat (48 + n)
theorem head_app {α : Type} {l : List α} (l' : List α) (h : l ≠ []) : (l ++ l').head? = l.head? := by
  cases l with
  | nil => exact absurd rfl h
  | cons x l => rfl
abbrev dec (n : Nat) : List UInt8 := Lib.decDigits n
theorem dec_small {n : Nat} (h : n < 10) : dec n = [dgt n] := Lib.decDigits_one h
theorem dec_step {n : Nat} (h : ¬ n < 10) : dec n = dec (n / 10) ++ [dgt (n % 10)] := by
  show Lib.decDigits n = _
  rw [Lib.decDigits, dif_neg h]
  rfl
theorem dg_toNat (n : Nat) (h : n < 10) : (dgt n).toNat = 48 + n := by
  unfold dgt
  rw [UInt8.toNat_ofNat']
  omega
theorem dec_facts (n : Nat) : digs (dec n) ∧ dec n ≠ [] ∧ numA 0 (dec n) = n ∧ (1 ≤ n → ∀ c, (dec n).head? = some c → c ≠ 48) := by
  induction n using Nat.strongRecOn with
  | ind n ih =>
    by_cases h : n < 10
    · rw [dec_small h]
      have ht := dg_toNat n h
      refine ⟨fun c hc => ?_, List.cons_ne_nil _ _, ?_, fun h1 c hc => ?_⟩
      · rw [List.mem_singleton] at hc; rw [hc]; omega
      · have h5 := numA_snoc [] 0 (dgt n)
        rw [ht] at h5
        exact h5.trans (by show 0 * 10 + (48 + n - 48) = n; omega)
      · replace hc : dgt n = c := Option.some.inj hc
        rintro rfl
        have := congrArg UInt8.toNat hc
        rw [ht] at this
        have e : (48 : UInt8).toNat = 48 := rfl
        omega
    · obtain ⟨h1, h2, h3, h4⟩ := ih (n / 10) (by omega)
      rw [dec_step h]
      have ht := dg_toNat (n % 10) (by omega)
      refine ⟨fun c hc => ?_, by simp, ?_, fun _ c hc => ?_⟩
      · rcases List.mem_append.1 hc with hc | hc
        · exact h1 c hc
        · rw [List.mem_singleton] at hc; rw [hc]; omega
      · rw [numA_snoc, h3, ht]; omega
      · refine h4 (by omega) c ?_
        rw [head_app _ h2] at hc
        exact hc
theorem dec_length : ∀ (k n : Nat), n < 10 ^ (k + 1) → (dec n).length ≤ k + 1
  | 0, n, h => by rw [dec_small (by omega)]; simp
  | k + 1, n, h => by
    by_cases hn : n < 10
    · rw [dec_small hn]; simp
    · rw [dec_step hn, List.length_append]
      have hp : 10 ^ (k + 1 + 1) = 10 ^ (k + 1) * 10 := Nat.pow_succ 10 (k + 1)
      have := dec_length k (n / 10) (by omega)
      simp; omega

theorem digs_all {l : List UInt8} (h : digs l) : l.all (fun c => Lx.digit (c.toNat : Int)) = true := by
  rw [List.all_eq_true]
  intro c hc
  have := h c hc
  unfold Lx.digit
  simp; omega
theorem digs_solid {l : List UInt8} (h : digs l) : Lx.solid l = true := by
  unfold Lx.solid
  rw [List.all_eq_true]
  intro c hc
  have := h c hc
  unfold Lx.blank
  simp; omega
theorem rdate_no (l : List UInt8) (h : ∀ c, l[4]? = some c → c ≠ 45) : Lx.rdate l = false := by
  unfold Lx.rdate
  by_cases hl : l.length = 10
  · have h4 : Lx.dfit 4 (Lx.at_ l 4) = false := by
      have h5 := h l[4] (List.getElem?_eq_getElem (by omega))
      have e : Lx.at_ l 4 = (l[4].toNat : Int) := by
        unfold Lx.at_
        rw [List.getD_eq_getElem?_getD, List.getElem?_eq_getElem (by omega)]; rfl
      rw [e]
      unfold Lx.dfit
      simp only [true_or, if_true, decide_eq_false_iff_not]
      intro hc
      apply h5
      apply UInt8.toNat.inj
      have e45 : (45 : UInt8).toNat = 45 := rfl
      omega
    rw [Bool.and_eq_false_iff]
    right
    rw [List.all_eq_false]
    exact ⟨4, by simp, by simp [h4]⟩
  · simp [hl]
theorem digit_ne45 {c : UInt8} (h : 48 ≤ c.toNat) : c ≠ 45 := by
  rintro rfl
  have e45 : (45 : UInt8).toNat = 45 := rfl
  omega

/-- a quantity's text -/
theorem dec_classify (n : Nat) (h1 : 1 ≤ n) (h2 : n ≤ 1000000000000000) : Lx.classify ⟨(dec n).toArray⟩ = (2, 0) := by
  obtain ⟨d1, d2, d3, d4⟩ := dec_facts n
  have dl := dec_length 15 n (by omega)
  have hsz : (⟨(dec n).toArray⟩ : ByteArray).size = (dec n).length := rfl
  have hd : (⟨(dec n).toArray⟩ : ByteArray).data.toList = dec n := rfl
  have hrd : Lx.rdate (dec n) = false := rdate_no _ fun c hc => digit_ne45 (d1 c (List.mem_of_getElem? hc)).1
  have hw : Lx.whole (dec n) = true := by
    unfold Lx.whole Lx.all
    rw [digs_all d1]
    have he : (dec n).isEmpty = false := by simp [d2]
    rw [he]
    have hh : ((dec n).head? == some 48) = false := by
      rw [beq_eq_false_iff_ne]
      intro hc
      exact d4 h1 _ hc rfl
    rw [hh]
    simp
  unfold Lx.classify
  rw [Lx.date_eq, hd, hrd, hsz, hw]
  rw [if_neg (by omega)]
  simp only [Bool.false_eq_true, if_false, Bool.true_and]
  rw [if_pos (by simpa using dl)]

/-- an amount's text -/
def cents (n : Nat) : List UInt8 := dec (n / 100) ++ [46, dgt (n / 10 % 10), dgt (n % 10)]
theorem cents_length (n : Nat) (h2 : n ≤ 1000000000000000) : (cents n).length ≤ 17 := by
  have := dec_length 13 (n / 100) (by omega)
  unfold cents
  simp; omega
theorem cents_solid (n : Nat) : Lx.solid (cents n) = true := by
  have e1 : Lx.solid (dec (n / 100)) = true := digs_solid (dec_facts (n / 100)).1
  have t1 := dg_toNat (n / 10 % 10) (by omega)
  have t2 := dg_toNat (n % 10) (by omega)
  unfold cents
  unfold Lx.solid at e1 ⊢
  rw [List.all_append, e1]
  simp only [List.all_cons, List.all_nil, t1, t2, Lx.blank]
  simp; omega
theorem whole_dec (n : Nat) : Lx.whole (dec n) = true := by
  obtain ⟨d1, d2, d3, d4⟩ := dec_facts n
  unfold Lx.whole Lx.all
  rw [digs_all d1]
  have he : (dec n).isEmpty = false := by simp [d2]
  rw [he]
  by_cases h0 : n < 10
  · rw [dec_small h0]; simp
  · have hh : ((dec n).head? == some 48) = false := by
      rw [beq_eq_false_iff_ne]
      intro hc
      exact d4 (by omega) _ hc rfl
    rw [hh]
    simp
theorem dec_no {n : Nat} {c : UInt8} (hc : c.toNat < 48) : c ∉ dec n := fun h => by
  have := (dec_facts n).1 c h
  omega
theorem cents_trim (n : Nat) : Lib.trimPrefix (cents n) [45] = cents n := by
  rw [Lx.trim_eq]
  unfold Lx.unsign
  rw [if_neg]
  obtain ⟨d1, d2, _⟩ := dec_facts (n / 100)
  unfold cents
  intro h
  rw [head_app _ d2] at h
  exact dec_no (by decide) (List.mem_of_mem_head? h)
theorem cents_cut (n : Nat) : Lib.cut (cents n) [46] = (dec (n / 100), [dgt (n / 10 % 10), dgt (n % 10)], true) := Lx.cut_hit _ _ (dec_no (by decide))
theorem two_digs (n : Nat) : digs [dgt (n / 10 % 10), dgt (n % 10)] := fun c hc => by
  have t1 := dg_toNat (n / 10 % 10) (by omega)
  have t2 := dg_toNat (n % 10) (by omega)
  simp at hc
  rcases hc with rfl | rfl <;> omega
theorem cents_classify (n : Nat) (h2 : n ≤ 1000000000000000) : Lx.classify ⟨(cents n).toArray⟩ = (3, 0) := by
  obtain ⟨d1, d2, d3, d4⟩ := dec_facts (n / 100)
  have dl := cents_length n h2
  have hsz : (⟨(cents n).toArray⟩ : ByteArray).size = (cents n).length := rfl
  have hd : (⟨(cents n).toArray⟩ : ByteArray).data.toList = cents n := rfl
  have hrd : Lx.rdate (cents n) = false := rdate_no _ fun c hc => by
    have hm := List.mem_of_getElem? hc
    unfold cents at hm
    rcases List.mem_append.1 hm with hm | hm
    · exact digit_ne45 (d1 c hm).1
    · rcases List.mem_cons.1 hm with rfl | hm
      · decide
      · exact digit_ne45 (two_digs n c hm).1
  have hw : Lx.whole (cents n) = false := by
    unfold Lx.whole Lx.all
    have : (cents n).all (fun c => Lx.digit (c.toNat : Int)) = false := by
      rw [List.all_eq_false]
      exact ⟨46, by unfold cents; simp, by decide⟩
    rw [this]
    simp
  have hdc : Lx.decimal (cents n) = true := by
    unfold Lx.decimal
    rw [cents_trim, cents_cut]
    have h45 : (cents n == [45, 48, 46, 48, 48]) = false := by
      rw [beq_eq_false_iff_ne]
      intro he
      have hh := congrArg List.head? he
      unfold cents at hh
      rw [head_app _ d2] at hh
      exact dec_no (by decide) (List.mem_of_mem_head? hh)
    rw [h45]
    have ha : Lx.all Lx.digit [dgt (n / 10 % 10), dgt (n % 10)] = true := by
      unfold Lx.all
      rw [digs_all (two_digs n)]; rfl
    simp only [whole_dec, ha]
    rfl
  unfold Lx.classify
  rw [Lx.date_eq, hd, hrd, hsz, hw, hdc]
  rw [if_neg (by omega)]
  simp
/-- the number that an amount's text denotes -/
theorem cents_num (n : Nat) : digs (dec (n / 100) ++ [dgt (n / 10 % 10), dgt (n % 10)]) ∧ numA 0 (dec (n / 100) ++ [dgt (n / 10 % 10), dgt (n % 10)]) = n := by
  obtain ⟨d1, d2, d3, d4⟩ := dec_facts (n / 100)
  refine ⟨fun c hc => ?_, ?_⟩
  · rcases List.mem_append.1 hc with hc | hc
    · exact d1 c hc
    · exact two_digs n c hc
  · have t1 := dg_toNat (n / 10 % 10) (by omega)
    have t2 := dg_toNat (n % 10) (by omega)
    rw [show dec (n / 100) ++ [dgt (n / 10 % 10), dgt (n % 10)] = (dec (n / 100) ++ [dgt (n / 10 % 10)]) ++ [dgt (n % 10)] from by simp]
    rw [numA_snoc, numA_snoc, d3, t1, t2]
    omega

/-- names -/
theorem named_classify (s : ByteArray) (h : Lx.all Lx.named s.data.toList = true) (hs : s.size ≤ 32) : ∃ k ∈ ([1, 2, 4] : List Int), Lx.classify s = (k, 0) := by
  have hdc : Lx.decimal s.data.toList = false := by
    rw [Lx.decimal_eq]
    unfold Lx.rdecimal Lx.rdec
    rw [Bool.and_eq_false_iff]
    right
    rw [Bool.and_eq_false_iff]; left
    rw [Bool.and_eq_false_iff]; left
    rw [Bool.and_eq_false_iff]; left
    by_cases hl : 4 ≤ (Lx.unsign s.data.toList).length
    · rw [Bool.and_eq_false_iff]; right
      rw [decide_eq_false_iff_not]
      intro hc
      have hm : ∀ c ∈ Lx.unsign s.data.toList, c ∈ s.data.toList := fun c hc => by
        unfold Lx.unsign at hc
        split at hc
        · exact List.mem_of_mem_drop hc
        · exact hc
      have hi : (Lx.unsign s.data.toList).length - 3 < (Lx.unsign s.data.toList).length := by omega
      have e : Lx.at_ (Lx.unsign s.data.toList) ((Lx.unsign s.data.toList).length - 3) = ((Lx.unsign s.data.toList)[(Lx.unsign s.data.toList).length - 3].toNat : Int) := by
        unfold Lx.at_
        rw [List.getD_eq_getElem?_getD, List.getElem?_eq_getElem hi]; rfl
      rw [e] at hc
      have hmem := hm _ (List.getElem_mem hi)
      unfold Lx.all at h
      rw [Bool.and_eq_true, List.all_eq_true] at h
      have := h.2 _ hmem
      rw [hc] at this
      revert this
      decide
    · rw [Bool.and_eq_false_iff]; left
      simpa using hl
  unfold Lx.classify
  rw [if_neg (by omega), hdc, h]
  by_cases h1 : Lx.date s = true
  · rw [if_pos h1]; exact ⟨4, by simp, rfl⟩
  · rw [if_neg h1]
    by_cases h2 : (Lx.whole s.data.toList && decide (s.size ≤ 16)) = true
    · rw [if_pos h2]; exact ⟨2, by simp, rfl⟩
    · rw [if_neg h2]; exact ⟨1, by simp, by simp⟩
theorem upper_classify (s : ByteArray) (h : Lx.all Lx.named s.data.toList = true) (hs : s.size ≤ 32) (c : UInt8) (hc : s.data.toList.head? = some c) (hu : Lx.upper (c.toNat : Int) = true) : Lx.classify s = (1, 0) := by
  obtain ⟨l, hl⟩ : ∃ l, s.data.toList = l := ⟨_, rfl⟩
  have hnd : Lx.digit (c.toNat : Int) = false := by
    unfold Lx.upper at hu
    unfold Lx.digit
    simp at hu ⊢
    omega
  obtain ⟨k, hk, h1⟩ := named_classify s h hs
  rw [hl] at hc
  cases l with
  | nil => cases hc
  | cons x l =>
    simp at hc
    subst hc
    have hrd : Lx.date s = false := by
      rw [Lx.date_eq, hl]
      unfold Lx.rdate
      rw [Bool.and_eq_false_iff]; right
      rw [List.all_eq_false]
      refine ⟨0, by simp, ?_⟩
      have : Lx.dfit 0 (Lx.at_ (x :: l) 0) = Lx.digit (x.toNat : Int) := rfl
      rw [this, hnd]
      simp
    have hw : Lx.whole s.data.toList = false := by
      rw [hl]
      unfold Lx.whole Lx.all
      rw [List.all_cons, hnd]
      simp
    unfold Lx.classify at h1 ⊢
    rw [if_neg (by omega)] at h1 ⊢
    rw [hrd, hw] at h1 ⊢
    simp only [Bool.false_eq_true, if_false, Bool.false_and, h] at h1 ⊢
    by_cases hd : Lx.decimal s.data.toList = true
    · rw [if_pos hd] at h1
      cases h1
      simp at hk
    · rw [if_neg hd]
      rfl
theorem named_solid {l : List UInt8} (h : Lx.all Lx.named l = true) : Lx.solid l = true ∧ l ≠ [] := by
  unfold Lx.all at h
  rw [Bool.and_eq_true, List.all_eq_true] at h
  refine ⟨?_, fun h0 => by rw [h0] at h; simp at h⟩
  unfold Lx.solid
  rw [List.all_eq_true]
  intro c hc
  have := h.2 c hc
  unfold Lx.named Lx.upper Lx.digit at this
  unfold Lx.blank
  simp at this ⊢
  omega

end Go.Proofs.YthijakidnkhbnaaGreatDoor.Ps
