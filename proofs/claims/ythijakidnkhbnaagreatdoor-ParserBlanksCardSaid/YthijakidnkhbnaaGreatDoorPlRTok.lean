/-
  The tokens of a line, as the reference reads them: the same; no program in sight.
-/
import Derived.Test.YthijakidnkhbnaaGreatDoorPlKind
import Derived.Test.YthijakidnkhbnaaGreatDoorPlTok
namespace Go.Proofs.YthijakidnkhbnaaGreatDoor.Lx
open Go

/-- a text without its comment; b: may a comment begin at its first byte -/
def cutR : Bool → Bt → Bt
  | _, [] => []
  | b, c :: l => if (decide (c = 35) && b) = true then [] else c :: cutR (blank (c.toNat : Int)) l
def isB (b : Bool) (l : Bt) (i : Nat) : Bool := (l[i]? == some 35) && (if i = 0 then b else ((l[i - 1]?).map fun c => blank (c.toNat : Int)).getD false)
theorem cutR_hit : ∀ (l : Bt) (b : Bool) (k : Nat), k < l.length → isB b l k = true → (∀ j, j < k → isB b l j = false) → cutR b l = l.take k
  | [], b, k, h, _, _ => by simp at h
  | c :: l, b, 0, _, hk, _ => by
    unfold isB at hk
    unfold cutR
    rw [if_pos (by simpa using hk)]
    rfl
  | c :: l, b, k + 1, h, hk, hlow => by
    have h0 := hlow 0 (by omega)
    unfold isB at h0
    unfold cutR
    have hn : ¬ (decide (c = 35) && b) = true := by
      intro hc
      simp at hc
      simp [hc] at h0
    rw [if_neg hn, List.take_succ_cons]
    congr 1
    have e : ∀ j, isB (blank (c.toNat : Int)) l j = isB b (c :: l) (j + 1) := fun j => by
      unfold isB
      cases j with
      | zero => simp
      | succ j => simp
    exact cutR_hit l _ k (by simpa using h) (by rw [e]; exact hk) fun j hj => by rw [e]; exact hlow _ (by omega)
theorem cutR_miss : ∀ (l : Bt) (b : Bool), (∀ j, j < l.length → isB b l j = false) → cutR b l = l
  | [], b, _ => rfl
  | c :: l, b, hlow => by
    have h0 := hlow 0 (by simp)
    unfold isB at h0
    unfold cutR
    have hn : ¬ (decide (c = 35) && b) = true := by
      intro hc
      simp at hc
      simp [hc] at h0
    rw [if_neg hn]
    congr 1
    have e : ∀ j, isB (blank (c.toNat : Int)) l j = isB b (c :: l) (j + 1) := fun j => by
      unfold isB
      cases j with
      | zero => simp
      | succ j => simp
    exact cutR_miss l _ fun j hj => by rw [e]; exact hlow _ (by simp; omega)
theorem isC_eq (l : Bt) (i : Nat) : isC l i = isB true l i := by
  unfold isC isB
  by_cases h : i = 0
  · simp [h]
  · have : (i == 0) = false := by simp [h]
    rw [this, if_neg h, Bool.false_or]
theorem cutAt_eq (l : Bt) : l.take (cutAt l) = cutR true l := by
  by_cases h : ∃ k, k < l.length ∧ isC l k = true
  · obtain ⟨k, ⟨h1, h2⟩, h3⟩ : ∃ k, (k < l.length ∧ isC l k = true) ∧ ∀ j, j < k → isC l j = false := by
      obtain ⟨k0, h0⟩ := h
      have hex : ∃ n, n = k0 := ⟨k0, rfl⟩
      clear hex
      -- the least one
      induction k0 using Nat.strongRecOn with
      | ind k0 ih =>
        by_cases hl : ∃ j, j < k0 ∧ isC l j = true
        · obtain ⟨j, hj, hc⟩ := hl
          exact ih j hj ⟨by omega, hc⟩
        · exact ⟨k0, h0, fun j hj => by
            cases hc : isC l j with
            | false => rfl
            | true => exact absurd ⟨j, hj, hc⟩ hl⟩
    rw [cutAt_hit l k h1 h2 h3]
    rw [isC_eq] at h2
    exact (cutR_hit l true k h1 h2 fun j hj => by rw [← isC_eq]; exact h3 j hj).symm
  · have hm : ∀ j, j < l.length → isC l j = false := fun j hj => by
      cases hc : isC l j with
      | false => rfl
      | true => exact absurd ⟨j, hj, hc⟩ h
    rw [cutAt_miss l hm, List.take_length]
    exact (cutR_miss l true fun j hj => by rw [← isC_eq]; exact hm j hj).symm
theorem uncomment_data (s : ByteArray) : (uncomment s).data.toList = cutR true s.data.toList := by
  unfold uncomment
  rw [extract_list, ← cutAt_eq]
  rfl

theorem cutR_blanks : ∀ (g l : Bt) (b : Bool), blanks g = true → cutR b (g ++ l) = g ++ cutR (b || !g.isEmpty) l
  | [], l, b, _ => by simp
  | c :: g, l, b, h => by
    unfold blanks at h
    rw [List.all_cons, Bool.and_eq_true] at h
    have hc : ¬ c = 35 := by
      rintro rfl
      have := h.1
      revert this; decide
    rw [List.cons_append]
    conv => lhs; unfold cutR
    rw [if_neg (by simp [hc]), h.1, cutR_blanks g l true h.2]
    simp
theorem cutR_solid : ∀ (t l : Bt) (b : Bool), solid t = true → t ≠ [] → (b = true → t.head? ≠ some 35) → cutR b (t ++ l) = t ++ cutR false l
  | [], l, b, _, h, _ => absurd rfl h
  | c :: t, l, b, h, _, hb => by
    unfold solid at h
    rw [List.all_cons, Bool.and_eq_true] at h
    have hcb : blank (c.toNat : Int) = false := by simpa using h.1
    rw [List.cons_append]
    conv => lhs; unfold cutR
    have hn : ¬ (decide (c = 35) && b) = true := by
      intro hc
      simp at hc
      exact hb hc.2 (by simp [hc.1])
    rw [if_neg hn, hcb]
    cases t with
    | nil => rfl
    | cons d t => rw [cutR_solid (d :: t) l false h.2 (by simp) (by simp)]; rfl
theorem cutR_next (l : Bt) (h : ∀ c r, l = c :: r → blank (c.toNat : Int) = true) : cutR false l = cutR true l := by
  cases l with
  | nil => rfl
  | cons c l =>
    have hc : ¬ c = 35 := by
      rintro rfl
      have := h _ _ rfl
      revert this; decide
    unfold cutR
    simp [hc]

/-- the tokens as the reference reads them: from a place on, over what is left of the line -/
def rtok : Nat → Bt → Nat → List Tok → List Tok × Int × Int
  | 0, _, _, acc => (acc, 0, 0)
  | _ + 1, [], _, acc => (acc, 0, 0)
  | f + 1, c :: l, a, acc =>
    if blank (c.toNat : Int) = true then rtok f l (a + 1) acc
    else if c = 35 then (acc, 0, 0)
    else if (classify ⟨((c :: l).take (run (fun c => !blank c) (c :: l))).toArray⟩).2 = 0 then
      rtok f ((c :: l).drop (run (fun c => !blank c) (c :: l))) (a + run (fun c => !blank c) (c :: l)) (acc ++ [((classify ⟨((c :: l).take (run (fun c => !blank c) (c :: l))).toArray⟩).1, ⟨((c :: l).take (run (fun c => !blank c) (c :: l))).toArray⟩, a)])
    else ([], (a : Int), (classify ⟨((c :: l).take (run (fun c => !blank c) (c :: l))).toArray⟩).2)

theorem run_split (p : Int → Bool) (l : Bt) : ∃ t r, l = t ++ r ∧ run p l = t.length ∧ t.all (fun c => p (c.toNat : Int)) = true ∧ ∀ c r', r = c :: r' → p (c.toNat : Int) = false := by
  induction l with
  | nil => exact ⟨[], [], rfl, rfl, rfl, fun c r' h => by cases h⟩
  | cons x l ih =>
    by_cases hx : p (x.toNat : Int) = true
    · obtain ⟨t, r, h1, h2, h3, h4⟩ := ih
      refine ⟨x :: t, r, by rw [h1]; rfl, ?_, by simp [hx, h3], h4⟩
      have e : run p (x :: l) = run p l + 1 := by simp [run, hx]
      rw [e, h2]; rfl
    · refine ⟨[], x :: l, rfl, ?_, rfl, fun c r' h => ?_⟩
      · simp [run, hx]
      · injection h with h1 _
        subst h1
        simpa using hx

theorem tokR_fuel : ∀ (f g : Nat) (l : Bt) (a : Nat) (acc : List Tok), l.length ≤ f → l.length ≤ g → tokR f l a acc = tokR g l a acc
  | 0, g, l, a, acc, hf, hg => by
    obtain rfl := List.eq_nil_of_length_eq_zero (Nat.le_zero.1 hf)
    rw [tokR_nil 0 [] a acc rfl, tokR_nil g [] a acc rfl]
  | f + 1, 0, l, a, acc, hf, hg => by
    obtain rfl := List.eq_nil_of_length_eq_zero (Nat.le_zero.1 hg)
    rw [tokR_nil 0 [] a acc rfl, tokR_nil (f + 1) [] a acc rfl]
  | f + 1, g + 1, l, a, acc, hf, hg => by
    rw [tokR_succ, tokR_succ]
    obtain ⟨k, hk⟩ : ∃ k, k = run blank l := ⟨_, rfl⟩
    obtain ⟨t, ht⟩ : ∃ t, t = (l.drop k).take (run (fun c => !blank c) (l.drop k)) := ⟨_, rfl⟩
    rw [← hk, ← ht]
    by_cases h0 : t = []
    · unfold tokS; rw [if_pos h0, if_pos h0]
    · have hp := List.length_pos_iff.2 h0
      by_cases hcl : (classify ⟨t.toArray⟩).2 = 0
      · rw [tokS_ok _ _ _ _ _ h0 hcl, tokS_ok _ _ _ _ _ h0 hcl]
        exact tokR_fuel f g _ _ _ (by rw [List.length_drop]; omega) (by rw [List.length_drop]; omega)
      · rw [tokS_bad _ _ _ _ _ h0 hcl, tokS_bad _ _ _ _ _ h0 hcl]

theorem rtok_nil (f a : Nat) (acc : List Tok) : rtok f [] a acc = (acc, 0, 0) := by cases f <;> rfl
theorem tokR_rtok : ∀ (f : Nat) (l : Bt) (a : Nat) (acc : List Tok), l.length < f → tokR f (cutR true l) a acc = rtok f l a acc
  | 0, l, a, acc, h => by omega
  | f + 1, [], a, acc, h => rfl
  | f + 1, c :: l, a, acc, h => by
    have h : l.length < f := by simpa using h
    by_cases hb : blank (c.toNat : Int) = true
    · unfold rtok
      rw [if_pos hb, ← tokR_rtok f l (a + 1) acc h]
      have hc : ¬ c = 35 := by
        rintro rfl
        revert hb; decide
      have e1 : cutR true (c :: l) = c :: cutR true l := by
        conv => lhs; unfold cutR
        rw [if_neg (by simp [hc]), hb]
      rw [e1]
      -- one blank more ahead of a token
      obtain ⟨m, hm⟩ : ∃ m, m = cutR true l := ⟨_, rfl⟩
      rw [← hm]
      have hml : m.length ≤ l.length := by
        rw [hm, ← cutAt_eq, List.length_take]; omega
      have hmf : m.length < f := by omega
      clear hm e1
      cases f with
      | zero => omega
      | succ f =>
        have er : run blank (c :: m) = run blank m + 1 := by simp [run, hb]
        rw [tokR_succ, er, List.drop_succ_cons, tokR_succ]
        obtain ⟨k, hk⟩ : ∃ k, k = run blank m := ⟨_, rfl⟩
        obtain ⟨t, ht⟩ : ∃ t, t = (m.drop k).take (run (fun c => !blank c) (m.drop k)) := ⟨_, rfl⟩
        rw [← hk, ← ht]
        by_cases h0 : t = []
        · unfold tokS; rw [if_pos h0, if_pos h0]
        · by_cases hcl : (classify ⟨t.toArray⟩).2 = 0
          · rw [tokS_ok _ _ _ _ _ h0 hcl, tokS_ok _ _ _ _ _ h0 hcl, show k + 1 + t.length = k + t.length + 1 from by omega, List.drop_succ_cons, show a + (k + 1) + t.length = a + 1 + k + t.length from by omega, show a + (k + 1) = a + 1 + k from by omega]
            refine tokR_fuel _ _ _ _ _ ?_ ?_
            · have := List.length_pos_iff.2 h0
              rw [List.length_drop]; omega
            · have := List.length_pos_iff.2 h0
              have : t.length ≤ m.length - k := by rw [ht, List.length_take, List.length_drop]; omega
              rw [List.length_drop]; omega
          · rw [tokS_bad _ _ _ _ _ h0 hcl, tokS_bad _ _ _ _ _ h0 hcl, show a + (k + 1) = a + 1 + k from by omega]
    · have hbf : blank (c.toNat : Int) = false := by simpa using hb
      unfold rtok
      rw [if_neg hb]
      by_cases hc : c = 35
      · rw [if_pos hc]
        subst hc
        rw [show cutR true (35 :: l) = [] from rfl]
        exact tokR_nil _ [] _ _ rfl
      · rw [if_neg hc]
        obtain ⟨t, r, e1, e2, e3, e4⟩ := run_split (fun c => !blank c) (c :: l)
        rw [e2]
        have ht0 : t ≠ [] := by
          rintro rfl
          have := e4 c l (by simpa using e1.symm)
          simp [hbf] at this
        have hhd : t.head? = some c := by
          cases t with
          | nil => exact absurd rfl ht0
          | cons x t => rw [List.cons_append] at e1; injection e1 with e1 _; subst e1; rfl
        rw [e1, List.take_left, List.drop_left]
        have e4' : ∀ c r', r = c :: r' → blank (c.toNat : Int) = true := fun c r' h => by simpa using e4 c r' h
        rw [cutR_solid t r true e3 ht0 (fun _ => by rw [hhd]; simpa using hc), cutR_next r e4']
        have hcut : ∀ c r', cutR true r = c :: r' → blank (c.toNat : Int) = true := fun x r' h => by
          cases r with
          | nil => cases h
          | cons y r =>
            unfold cutR at h
            split at h
            · cases h
            · injection h with h1 _
              subst h1
              exact e4' _ _ rfl
        have e5 := tokR_cons f [] t (cutR true r) a acc rfl e3 ht0 hcut
        rw [List.nil_append] at e5
        rw [e5]
        have hrl : r.length < f := by
          have := congrArg List.length e1
          rw [List.length_append, List.length_cons] at this
          have := List.length_pos_iff.2 ht0
          omega
        by_cases hcl : (classify ⟨t.toArray⟩).2 = 0
        · rw [if_pos hcl, if_pos hcl, tokR_rtok f r _ _ hrl]
          rfl
        · rw [if_neg hcl, if_neg hcl]
          rfl

/-- Tokenize is what the reference reads -/
theorem tokenize_eq (s : ByteArray) : tokenize s = if 1024 < s.size then ([], 1024, 5) else rtok (s.size + 1) s.data.toList 0 [] := by
  unfold tokenize
  split
  · rfl
  · have hl : s.data.toList.length = s.size := by obtain ⟨⟨l⟩⟩ := s; rfl
    have hu : (uncomment s).data.toList.length = (uncomment s).size := by obtain ⟨⟨l⟩⟩ := uncomment s; rfl
    have hus : (uncomment s).size ≤ s.size := by
      unfold uncomment
      rw [ByteArray.size_extract]
      omega
    rw [tokAcc_eq _ _ _ _ (Nat.zero_le _), List.drop_zero, tokR_fuel _ (s.size + 1) _ _ _ (by omega) (by omega), uncomment_data]
    exact tokR_rtok (s.size + 1) s.data.toList 0 [] (by omega)

end Go.Proofs.YthijakidnkhbnaaGreatDoor.Lx
