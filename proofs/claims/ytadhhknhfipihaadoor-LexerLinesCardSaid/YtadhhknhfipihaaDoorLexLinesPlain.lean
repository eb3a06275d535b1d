/-
  PLAIN LAWS FOR LINES: pieces between line feeds, by position and by Split; trimming from both ends.
-/
import Derived.Test.YtadhhknhfipihaaDoorLexPlain
import Derived.Lib.SlTrimSet
import Derived.Lib.IndexLaws
namespace Go.Proofs.YtadhhknhfipihaaDoor.Lx

/-- cut at line feeds; the last piece always -/
def sp : List UInt8 → List UInt8 → List (List UInt8)
  | [], cur => [cur]
  | c :: l, cur => if c = 10 then cur :: sp l [] else sp l (cur ++ [c])
/-- cut at line feeds; the last piece if it is not empty -/
def go : List UInt8 → List UInt8 → List (List UInt8)
  | [], cur => if cur = [] then [] else [cur]
  | c :: l, cur => if c = 10 then cur :: go l [] else go l (cur ++ [c])

theorem go_snoc (l : List UInt8) : ∀ cur, go (l ++ [10]) cur = sp l cur := by
  induction l with
  | nil => intro cur; simp [go, sp]
  | cons c l ih => intro cur; simp only [List.cons_append, go, sp]; split <;> rw [ih]
theorem go_last (l : List UInt8) : ∀ cur, (l ≠ [] ∨ cur ≠ []) → (∀ h : l ≠ [], l.getLast h ≠ 10) → go l cur = sp l cur := by
  induction l with
  | nil => intro cur h _; simp [go, sp]; simpa using h
  | cons c l ih =>
    intro cur _ hl
    simp only [go, sp]
    by_cases hn : l = []
    · subst hn
      have : c ≠ 10 := by simpa using hl (by simp)
      rw [if_neg this, if_neg this]
      simp [go, sp]
    · have hl' : ∀ h : l ≠ [], l.getLast h ≠ 10 := fun h => by have := hl (by simp); rwa [List.getLast_cons h] at this
      split
      · rw [ih [] (.inl hn) hl']
      · rw [ih _ (.inl hn) hl']

theorem hasSuffix_nl (l : List UInt8) : Lib.hasSuffix (l ++ [10]) [10] = true := by
  unfold Lib.hasSuffix; rw [List.isSuffixOf_iff_suffix]; exact List.suffix_append _ _
theorem go_eq (l : List UInt8) (h : l ≠ []) : go l [] = sp (Lib.trimSuffix l [10]) [] := by
  by_cases hs : l.getLast h = 10
  · obtain ⟨m, rfl⟩ : ∃ m, l = m ++ [10] := ⟨l.dropLast, by rw [← hs]; exact (List.dropLast_concat_getLast h).symm⟩
    rw [go_snoc, Lib.trimSuffix, if_pos (hasSuffix_nl m)]
    simp
  · have : Lib.hasSuffix l [10] = false := by
      rw [Bool.eq_false_iff]
      intro e
      unfold Lib.hasSuffix at e
      rw [List.isSuffixOf_iff_suffix] at e
      obtain ⟨m, rfl⟩ := e
      exact hs (by simp)
    rw [Lib.trimSuffix, if_neg (by rw [this]; simp)]
    exact go_last l [] (.inl h) (fun _ => hs)

theorem sp_append (a l : List UInt8) : (∀ c ∈ a, c ≠ 10) → ∀ cur, sp (a ++ l) cur = sp l (cur ++ a) := by
  induction a with
  | nil => intro _ cur; simp
  | cons c a ih =>
    intro h cur
    simp only [List.cons_append, sp]
    rw [if_neg (h c (by simp)), ih (fun x hx => h x (by simp [hx]))]
    simp

theorem occ_one (l : List UInt8) (j : Nat) (hj : j < l.length) : Lib.occAt l [10] j = (l[j] == 10) := by
  unfold Lib.occAt
  rw [List.drop_eq_getElem_cons hj]
  simp [List.isPrefixOf, Bool.beq_comm]

theorem splitK_sp : ∀ (n : Nat) (l : List UInt8), l.length ≤ n → Lib.splitK [10] 0 (Lib.count l [10]) l = sp l [] := by
  intro n
  induction n with
  | zero =>
    intro l hl
    obtain rfl : l = [] := List.eq_nil_of_length_eq_zero (by omega)
    rw [Lib.count_miss (by decide)]
    rfl
  | succ n ih =>
    intro l hl
    rcases Lib.index_spec l [10] with ⟨h1, h2⟩ | ⟨i, h1, h2, h3, h4⟩
    · rw [Lib.count_miss h1]
      have : ∀ c ∈ l, c ≠ 10 := by
        intro c hc e
        obtain ⟨j, hj, rfl⟩ := List.mem_iff_getElem.1 hc
        have := h2 j (by omega)
        rw [occ_one l j hj, e] at this
        simp at this
      have := sp_append l [] this []
      simp only [List.append_nil, List.nil_append] at this
      rw [this]; rfl
    · have hr := Lib.index_room l [10] (by omega)
      rw [h1] at hr
      have hi : i < l.length := by simp at hr; omega
      rw [Lib.count_hit (by simp) h1, Nat.add_comm]
      have hne : ¬ (Lib.index l [10] == -1) = true := fun e => by have := beq_iff_eq.1 e; omega
      rw [Lib.splitK, if_neg hne, h1]
      have e10 : l[i] = 10 := by have := h3; rw [occ_one l i hi] at this; simpa using this
      have hl2 : l = l.take i ++ 10 :: l.drop (i + 1) := by
        rw [← e10, ← List.drop_eq_getElem_cons hi, List.take_append_drop]
      have hbefore : ∀ c ∈ l.take i, c ≠ 10 := by
        intro c hc e
        obtain ⟨j, hj, rfl⟩ := List.mem_iff_getElem.1 hc
        simp at hj
        have := h4 j (by omega)
        rw [occ_one l j (by omega)] at this
        simp at e
        rw [e] at this
        simp at this
      have hsp : sp l [] = l.take i :: sp (l.drop (i + 1)) [] := by
        conv => lhs; rw [hl2]
        rw [sp_append _ _ hbefore]
        simp [sp]
      rw [hsp]
      have ih' := ih (l.drop (i + 1)) (by simp; omega)
      simpa using ih'

theorem split_lines (s : ByteArray) : (Lib.splitB ⟨#[10]⟩ 0 (Lib.countB s ⟨#[10]⟩) s).map (·.data.toList) = sp s.data.toList [] := by
  rw [Lib.splitB_data]
  exact splitK_sp _ _ (Nat.le_refl _)

/-- trimming from the left and from the right can be exchanged -/
def rdrop (p : UInt8 → Bool) (l : List UInt8) : List UInt8 := (l.reverse.dropWhile p).reverse
theorem rdrop_cons (p : UInt8 → Bool) (x : UInt8) (l : List UInt8) : rdrop p (x :: l) = if rdrop p l = [] then (if p x then [] else [x]) else x :: rdrop p l := by
  unfold rdrop
  rw [List.reverse_cons, List.dropWhile_append]
  by_cases h : (l.reverse.dropWhile p) = []
  · rw [h]
    by_cases hp : p x <;> simp [hp]
  · have : (l.reverse.dropWhile p).isEmpty = false := by simpa using h
    rw [this]
    simp [h]
theorem trim_comm (p : UInt8 → Bool) (l : List UInt8) : (rdrop p l).dropWhile p = rdrop p (l.dropWhile p) := by
  induction l with
  | nil => simp [rdrop]
  | cons x l ih =>
    by_cases hp : p x = true
    · rw [List.dropWhile_cons, if_pos hp, ← ih, rdrop_cons]
      by_cases h : rdrop p l = []
      · rw [if_pos h, if_pos hp, h]
      · rw [if_neg h, List.dropWhile_cons, if_pos hp]
    · rw [List.dropWhile_cons, if_neg hp, rdrop_cons]
      split
      · rw [List.dropWhile_cons, if_neg hp]
      · simp [hp]

/-- a line without its comment and without blanks at its ends -/
def clean (s : ByteArray) : List UInt8 := Lib.trimS (uncomment s).data.toList [32, 9]
theorem clean_eq (s : ByteArray) : clean s = rdrop (fun c => [32, 9].contains c) ((uncomment s).data.toList.dropWhile (fun c => [32, 9].contains c)) := by
  unfold clean Lib.trimS Lib.trimLeftS Lib.trimRightS
  exact trim_comm _ _

/-- the lines of a text -/
def lines (s : ByteArray) : List (List UInt8) := (go s.data.toList []).map fun p => clean ⟨p.toArray⟩

end Go.Proofs.YtadhhknhfipihaaDoor.Lx
