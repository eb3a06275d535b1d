/-
  The kinds of tokens, as the reference tells them: the same; no program in sight.
-/
import Derived.Test.YthijakidnkhbnaaGreatDoorLexPlain
namespace Go.Proofs.YthijakidnkhbnaaGreatDoor.Lx
open Go

abbrev Bt := List UInt8
theorem index_split (c : UInt8) : ∀ (p r : Bt), c ∉ p → Lib.index (p ++ c :: r) [c] = p.length
  | [], r, _ => by
    show Lib.index (c :: r) [c] = 0
    rw [Lib.index]; simp [List.isPrefixOf]
  | b :: p, r, h => by
    have hb : ¬ b = c := fun e => h (by rw [e]; exact List.mem_cons_self)
    have ih := index_split c p r fun hm => h (List.mem_cons_of_mem _ hm)
    have hp : ([c] : Bt).isPrefixOf (b :: (p ++ c :: r)) = false := by simp [List.isPrefixOf, Ne.symm hb]
    have hm : ((p.length : Int) == -1) = false := by rw [beq_eq_false_iff_ne]; omega
    rw [List.cons_append, Lib.index, hp, ih]
    simp [hm]
theorem index_miss (c : UInt8) : ∀ l : Bt, c ∉ l → Lib.index l [c] = -1
  | [], _ => by simp [Lib.index]
  | b :: l, h => by
    have hb : ¬ b = c := fun e => h (by rw [e]; exact List.mem_cons_self)
    have ih := index_miss c l fun hm => h (List.mem_cons_of_mem _ hm)
    have hp : ([c] : Bt).isPrefixOf (b :: l) = false := by simp [List.isPrefixOf, Ne.symm hb]
    rw [Lib.index, hp, ih]
    simp
/-- the pieces between a byte -/
def pcs (c : UInt8) (l : Bt) : List Bt := Lib.splitK [c] 0 (l.count c) l
theorem pcs_miss (c : UInt8) (l : Bt) (h : c ∉ l) : pcs c l = [l] := by
  unfold pcs
  rw [List.count_eq_zero.2 h]
  rfl
theorem pcs_hit (c : UInt8) (p r : Bt) (h : c ∉ p) : pcs c (p ++ c :: r) = p :: pcs c r := by
  unfold pcs
  rw [List.count_append, List.count_eq_zero.2 h, List.count_cons_self, Nat.zero_add]
  conv => lhs; unfold Lib.splitK
  rw [index_split c p r h]
  have hm : ((p.length : Int) == -1) = false := by rw [beq_eq_false_iff_ne]; omega
  rw [hm]
  simp only [Bool.false_eq_true, if_false, Int.toNat_natCast, Nat.add_zero, List.take_left, List.length_singleton]
  congr 1
  rw [← List.drop_drop, List.drop_left]
  rfl
theorem pcs_cases (c : UInt8) (l : Bt) : (c ∉ l ∧ pcs c l = [l]) ∨ ∃ p r, l = p ++ c :: r ∧ c ∉ p ∧ pcs c l = p :: pcs c r := by
  by_cases h : c ∈ l
  · obtain ⟨p, r, rfl, hp⟩ := List.eq_append_cons_of_mem h
    exact .inr ⟨p, r, rfl, hp, pcs_hit c p r hp⟩
  · exact .inl ⟨h, pcs_miss c l h⟩
theorem pieces_eq (s : ByteArray) : (pieces s).map (·.data.toList) = pcs 45 s.data.toList := by
  unfold pieces pcs
  rw [Lib.splitB_data]
  congr 1
  exact Lib.count_one 45 _

/-- the byte at a place -/
def at_ (l : Bt) (i : Nat) : Int := ((l.getD i 0).toNat : Int)
/-- the form of a date at a place -/
def dfit (i : Nat) (c : Int) : Bool := if i = 4 ∨ i = 7 then decide (c = 45) else digit c
def rdate (l : Bt) : Bool := decide (l.length = 10) && (List.range 10).all fun i => dfit i (at_ l i)
theorem list10 : ∀ l : Bt, l.length = 10 → ∃ a b c d e f g h i j, l = [a, b, c, d, e, f, g, h, i, j]
  | [a, b, c, d, e, f, g, h, i, j], _ => ⟨a, b, c, d, e, f, g, h, i, j, rfl⟩
theorem list2 : ∀ l : Bt, l.length = 2 → ∃ a b, l = [a, b]
  | [a, b], _ => ⟨a, b, rfl⟩
theorem list4 : ∀ l : Bt, l.length = 4 → ∃ a b c d, l = [a, b, c, d]
  | [a, b, c, d], _ => ⟨a, b, c, d, rfl⟩
theorem digit_ne {c : UInt8} (h : digit (c.toNat : Int) = true) : c ≠ 45 ∧ c ≠ 46 := by
  constructor
  all_goals
    rintro rfl
    revert h
    decide
theorem u8_45 (c : UInt8) : decide ((c.toNat : Int) = 45) = true ↔ c = 45 := by
  rw [decide_eq_true_iff]
  constructor
  · intro h
    apply UInt8.toNat_inj.1
    have : c.toNat = 45 := by omega
    rw [this]; rfl
  · rintro rfl; rfl
theorem u8_46 (c : UInt8) : decide ((c.toNat : Int) = 46) = true ↔ c = 46 := by
  rw [decide_eq_true_iff]
  constructor
  · intro h
    apply UInt8.toNat_inj.1
    have : c.toNat = 46 := by omega
    rw [this]; rfl
  · rintro rfl; rfl
theorem rdate_ten (a b c d e f g h i j : UInt8) : rdate [a, b, c, d, e, f, g, h, i, j] = true ↔ digit a.toNat = true ∧ digit b.toNat = true ∧ digit c.toNat = true ∧ digit d.toNat = true ∧ e = 45 ∧ digit f.toNat = true ∧ digit g.toNat = true ∧ h = 45 ∧ digit i.toNat = true ∧ digit j.toNat = true := by
  unfold rdate
  have : (List.range 10) = [0, 1, 2, 3, 4, 5, 6, 7, 8, 9] := rfl
  rw [this]
  simp only [List.all_cons, List.all_nil, Bool.and_true, Bool.and_eq_true]
  rw [← u8_45 e, ← u8_45 h]
  simp only [dfit, at_]
  simp
theorem dpieces (s : ByteArray) : date s = (decide (s.data.toList.length = 10) && decide ((pcs 45 s.data.toList).length = 3) && decide (((pcs 45 s.data.toList)[0]?.map List.length).getD 0 = 4) && decide (((pcs 45 s.data.toList)[1]?.map List.length).getD 0 = 2) && (pcs 45 s.data.toList).all fun p => all digit p) := by
  unfold date
  have hz : ∀ x : ByteArray, x.data.toList.length = x.size := by rintro ⟨⟨l⟩⟩; rfl
  rw [← pieces_eq, List.length_map, List.getElem?_map, List.getElem?_map, List.all_map, Option.map_map, Option.map_map, hz]
  have hf : (List.length ∘ fun x : ByteArray => x.data.toList) = fun x => x.size := funext hz
  rw [hf]
  rfl
theorem date_eq (s : ByteArray) : date s = rdate s.data.toList := by
  rw [dpieces]
  obtain ⟨l, hl⟩ : ∃ l, l = s.data.toList := ⟨_, rfl⟩
  rw [← hl]
  clear hl
  rw [Bool.eq_iff_iff]
  constructor
  · intro h
    simp only [Bool.and_eq_true, decide_eq_true_eq] at h
    obtain ⟨⟨⟨⟨h1, h2⟩, h3⟩, h4⟩, h5⟩ := h
    rcases pcs_cases 45 l with ⟨_, e⟩ | ⟨p, r, rfl, hp, e⟩
    · rw [e] at h2; simp at h2
    rw [e] at h2 h3 h4 h5
    rcases pcs_cases 45 r with ⟨_, e⟩ | ⟨q, r, rfl, hq, e⟩
    · rw [e] at h2; simp at h2
    rw [e] at h2 h4 h5
    rcases pcs_cases 45 r with ⟨_, e⟩ | ⟨q2, r2, rfl, hq2, e⟩
    · rw [e] at h5
      have h3 : p.length = 4 := by simpa using h3
      have h4 : q.length = 2 := by simpa using h4
      have hr : r.length = 2 := by
        simp only [List.length_append, List.length_cons] at h1; omega
      obtain ⟨a, b, c, d, rfl⟩ := list4 p h3
      obtain ⟨f, g, rfl⟩ := list2 q h4
      obtain ⟨i, j, rfl⟩ := list2 r hr
      show rdate [a, b, c, d, 45, f, g, 45, i, j] = true
      rw [rdate_ten]
      simp [all] at h5
      simp [h5]
    · exfalso
      rw [e] at h2
      simp only [List.length_cons] at h2
      have : 0 < (pcs 45 r2).length := by
        rcases pcs_cases 45 r2 with ⟨_, e⟩ | ⟨_, _, _, _, e⟩ <;> rw [e] <;> simp
      omega
  · intro h
    have h1 : l.length = 10 := by
      unfold rdate at h
      simp only [Bool.and_eq_true, decide_eq_true_eq] at h
      exact h.1
    obtain ⟨a, b, c, d, e, f, g, h', i, j, rfl⟩ := list10 l h1
    rw [rdate_ten] at h
    obtain ⟨x0, x1, x2, x3, rfl, x5, x6, rfl, x8, x9⟩ := h
    have e1 : pcs 45 [a, b, c, d, 45, f, g, 45, i, j] = [[a, b, c, d], [f, g], [i, j]] := by
      rw [show ([a, b, c, d, 45, f, g, 45, i, j] : Bt) = [a, b, c, d] ++ 45 :: ([f, g] ++ 45 :: [i, j]) from rfl]
      rw [pcs_hit, pcs_hit, pcs_miss]
      · simp [Ne.symm (digit_ne x8).1, Ne.symm (digit_ne x9).1]
      · simp [Ne.symm (digit_ne x5).1, Ne.symm (digit_ne x6).1]
      · simp [Ne.symm (digit_ne x0).1, Ne.symm (digit_ne x1).1, Ne.symm (digit_ne x2).1, Ne.symm (digit_ne x3).1]
    rw [e1]
    simp [all, x0, x1, x2, x3, x5, x6, x8, x9]

/-- the form of an amount, without its sign -/
def rdec (t : Bt) : Bool := decide (4 ≤ t.length) && decide (at_ t (t.length - 3) = 46) && digit (at_ t (t.length - 1)) && digit (at_ t (t.length - 2)) && whole (t.take (t.length - 3))
def unsign (l : Bt) : Bt := if l.head? = some 45 then l.drop 1 else l
def rdecimal (l : Bt) : Bool := !(l == [45, 48, 46, 48, 48]) && rdec (unsign l)
theorem trim_eq (l : Bt) : Lib.trimPrefix l [45] = unsign l := by
  unfold Lib.trimPrefix unsign Lib.hasPrefix
  cases l with
  | nil => rfl
  | cons c l => by_cases h : c = 45
                · subst h; simp [List.isPrefixOf]
                · simp [List.isPrefixOf, h, Ne.symm h]
theorem whole_digits {l : Bt} (h : whole l = true) : ∀ c ∈ l, digit (c.toNat : Int) = true := by
  unfold whole all at h
  simp only [Bool.and_eq_true, List.all_eq_true] at h
  exact h.1.2
theorem cut_hit (p r : Bt) (h : (46 : UInt8) ∉ p) : Lib.cut (p ++ 46 :: r) [46] = (p, r, true) := by
  unfold Lib.cut
  rw [index_split 46 p r h, if_pos (by omega)]
  simp only [Int.toNat_natCast, List.take_left, List.length_singleton]
  congr 2
  rw [← List.drop_drop, List.drop_left]
  rfl
theorem dec_eq (t : Bt) : ((Lib.cut t [46]).2.2 && whole (Lib.cut t [46]).1 && decide ((Lib.cut t [46]).2.1.length = 2) && all digit (Lib.cut t [46]).2.1) = rdec t := by
  rw [Bool.eq_iff_iff]
  constructor
  · intro h
    by_cases hm : (46 : UInt8) ∈ t
    · obtain ⟨p, r, rfl, hp⟩ := List.eq_append_cons_of_mem hm
      rw [cut_hit p r hp] at h
      simp only [Bool.and_eq_true, decide_eq_true_eq, Bool.true_and] at h
      obtain ⟨⟨h1, h2⟩, h3⟩ := h
      obtain ⟨x, y, rfl⟩ := list2 r h2
      have hpl : 0 < p.length := by
        cases p with
        | nil => simp [whole, all] at h1
        | cons _ _ => simp
      have hn : (p ++ [46, x, y]).length = p.length + 3 := by simp
      unfold rdec
      rw [hn, show p.length + 3 - 3 = p.length from by omega, show p.length + 3 - 1 = p.length + 2 from by omega, show p.length + 3 - 2 = p.length + 1 from by omega, List.take_left, h1]
      have a0 : at_ (p ++ [46, x, y]) p.length = 46 := by unfold at_; rw [List.getD_eq_getElem?_getD, List.getElem?_append_right (Nat.le_refl _), Nat.sub_self]; rfl
      have a1 : at_ (p ++ [46, x, y]) (p.length + 1) = x.toNat := by unfold at_; rw [List.getD_eq_getElem?_getD, List.getElem?_append_right (by omega), Nat.add_sub_cancel_left]; rfl
      have a2 : at_ (p ++ [46, x, y]) (p.length + 2) = y.toNat := by unfold at_; rw [List.getD_eq_getElem?_getD, List.getElem?_append_right (by omega), Nat.add_sub_cancel_left]; rfl
      rw [a0, a1, a2]
      simp [all] at h3
      simp [h3]
      omega
    · unfold Lib.cut at h
      rw [index_miss 46 t hm] at h
      simp at h
  · intro h
    unfold rdec at h
    simp only [Bool.and_eq_true, decide_eq_true_eq] at h
    obtain ⟨⟨⟨⟨h0, h1⟩, h2⟩, h3⟩, h4⟩ := h
    obtain ⟨p, hp⟩ : ∃ p, p = t.take (t.length - 3) := ⟨_, rfl⟩
    obtain ⟨z, x, y, hr⟩ : ∃ z x y, t.drop (t.length - 3) = [z, x, y] := by
      have : (t.drop (t.length - 3)).length = 3 := by rw [List.length_drop]; omega
      match t.drop (t.length - 3), this with
      | [z, x, y], _ => exact ⟨z, x, y, rfl⟩
    have ht : t = p ++ [z, x, y] := by rw [hp, ← hr, List.take_append_drop]
    have hpl : p.length = t.length - 3 := by rw [hp, List.length_take]; omega
    rw [← hp] at h4
    have a0 : at_ t (t.length - 3) = z.toNat := by unfold at_; rw [← hpl, ht, List.getD_eq_getElem?_getD, List.getElem?_append_right (by omega), Nat.sub_self]; rfl
    have a1 : at_ t (t.length - 2) = x.toNat := by unfold at_; rw [show t.length - 2 = p.length + 1 from by omega, ht, List.getD_eq_getElem?_getD, List.getElem?_append_right (by omega), Nat.add_sub_cancel_left]; rfl
    have a2 : at_ t (t.length - 1) = y.toNat := by unfold at_; rw [show t.length - 1 = p.length + 2 from by omega, ht, List.getD_eq_getElem?_getD, List.getElem?_append_right (by omega), Nat.add_sub_cancel_left]; rfl
    rw [a0] at h1
    rw [a1] at h3
    rw [a2] at h2
    have hz : z = 46 := (u8_46 z).1 (by simp [h1])
    subst hz
    have hn : (46 : UInt8) ∉ p := fun hm => (digit_ne (whole_digits h4 _ hm)).2 rfl
    rw [ht, show p ++ [46, x, y] = p ++ 46 :: [x, y] from rfl, cut_hit p _ hn]
    simp [h4, all, h2, h3]
theorem decimal_eq (l : Bt) : decimal l = rdecimal l := by
  unfold decimal rdecimal
  rw [trim_eq, dec_eq, Bool.and_comm]

/-- the kind of a text, as the reference tells it -/
def rkind (l : Bt) : Int × Int :=
  if 32 < l.length then (0, 5) else if rdate l then (4, 0) else if whole l && decide (l.length ≤ 16) then (2, 0) else if rdecimal l then (3, 0)
  else if all named l then (1, 0) else if all lower l then (0, 0) else (0, 30)
theorem classify_eq (s : ByteArray) : classify s = rkind s.data.toList := by
  have hl : s.data.toList.length = s.size := by obtain ⟨⟨l⟩⟩ := s; rfl
  unfold classify rkind
  rw [date_eq, decimal_eq, hl]

/-- a token's bytes -/
theorem classify_plain (s : ByteArray) (h : (classify s).2 = 0) : (s.data.toList.all fun c => c != 35) = true := by
  rw [classify_eq] at h
  obtain ⟨l, hl⟩ : ∃ l, l = s.data.toList := ⟨_, rfl⟩
  rw [← hl] at h ⊢
  rw [List.all_eq_true]
  intro c hc
  rw [bne_iff_ne]
  rintro rfl
  unfold rkind at h
  split at h
  · cases h
  split at h
  · rename_i hd
    have h1 : l.length = 10 := by
      unfold rdate at hd
      simp only [Bool.and_eq_true, decide_eq_true_eq] at hd
      exact hd.1
    obtain ⟨a, b, c, d, e, f, g, h', i, j, rfl⟩ := list10 l h1
    rw [rdate_ten] at hd
    obtain ⟨x0, x1, x2, x3, rfl, x5, x6, rfl, x8, x9⟩ := hd
    have k : ∀ c : UInt8, digit (c.toNat : Int) = true → (35 : UInt8) ≠ c := by
      rintro c hc rfl
      revert hc; decide
    simp [k _ x0, k _ x1, k _ x2, k _ x3, k _ x5, k _ x6, k _ x8, k _ x9] at hc
  split at h
  · rename_i hd
    rw [Bool.and_eq_true] at hd
    have := whole_digits hd.1 _ hc
    revert this; decide
  split at h
  · rename_i hd
    unfold rdecimal at hd
    rw [Bool.and_eq_true] at hd
    have hr := hd.2
    have hm : (35 : UInt8) ∈ unsign l := by
      unfold unsign
      split
      · rename_i hh
        cases l with
        | nil => cases hh
        | cons x l =>
          obtain rfl : x = 45 := by simpa using hh
          rcases List.mem_cons.1 hc with h | h
          · cases h
          · exact h
      · exact hc
    rw [← dec_eq] at hr
    by_cases hn : (46 : UInt8) ∈ unsign l
    · obtain ⟨p, r, he, hp⟩ := List.eq_append_cons_of_mem hn
      rw [he, cut_hit p r hp] at hr
      rw [he] at hm
      simp only [Bool.and_eq_true, decide_eq_true_eq, Bool.true_and] at hr
      obtain ⟨⟨h1, h2⟩, h3⟩ := hr
      rcases List.mem_append.1 hm with hm | hm
      · have := whole_digits h1 _ hm
        revert this; decide
      · rcases List.mem_cons.1 hm with hm | hm
        · cases hm
        · unfold all at h3
          rw [Bool.and_eq_true, List.all_eq_true] at h3
          have := h3.2 _ hm
          revert this; decide
    · unfold Lib.cut at hr
      rw [index_miss 46 _ hn] at hr
      simp at hr
  split at h
  · rename_i hd
    unfold all at hd
    rw [Bool.and_eq_true, List.all_eq_true] at hd
    have := hd.2 _ hc
    revert this; decide
  split at h
  · rename_i hd
    unfold all at hd
    rw [Bool.and_eq_true, List.all_eq_true] at hd
    have := hd.2 _ hc
    revert this; decide
  · cases h

end Go.Proofs.YthijakidnkhbnaaGreatDoor.Lx
