/-
  The tokens of a line that is written out as blanks and texts; no program in sight.
  Where the plain reader's errors lie; no program in sight.
-/
import Derived.Test.YthijakidnkhbnaaGreatDoorLexPlain
import Derived.Test.YthijakidnkhbnaaGreatDoorPsPlain

namespace Go.Proofs.YthijakidnkhbnaaGreatDoor.Lx

abbrev Bs := List UInt8

/-- no byte of a text is a blank -/
def solid (l : Bs) : Bool := l.all fun c => !blank (c.toNat : Int)
def blanks (l : Bs) : Bool := l.all fun c => blank (c.toNat : Int)

/-- one token: what stands ahead of it, its text -/
def tokS (k : Nat) (t : Bs) (a : Nat) (acc : List Tok) (next : Nat → List Tok → List Tok × Int × Int) : List Tok × Int × Int :=
  if t = [] then (acc, 0, 0)
  else if (classify ⟨t.toArray⟩).2 = 0 then next (a + k + t.length) (acc ++ [((classify ⟨t.toArray⟩).1, ⟨t.toArray⟩, a + k)])
  else ([], ((a + k : Nat) : Int), (classify ⟨t.toArray⟩).2)
theorem tokS_ok (k : Nat) (t : Bs) (a : Nat) (acc : List Tok) (next : Nat → List Tok → List Tok × Int × Int) (h : t ≠ []) (hc : (classify ⟨t.toArray⟩).2 = 0) : tokS k t a acc next = next (a + k + t.length) (acc ++ [((classify ⟨t.toArray⟩).1, ⟨t.toArray⟩, a + k)]) := by
  unfold tokS; rw [if_neg h, if_pos hc]
theorem tokS_bad (k : Nat) (t : Bs) (a : Nat) (acc : List Tok) (next : Nat → List Tok → List Tok × Int × Int) (h : t ≠ []) (hc : (classify ⟨t.toArray⟩).2 ≠ 0) : tokS k t a acc next = ([], ((a + k : Nat) : Int), (classify ⟨t.toArray⟩).2) := by
  unfold tokS; rw [if_neg h, if_neg hc]

/-- the tokens from a place on, over what is left of the line -/
def tokR : Nat → Bs → Nat → List Tok → List Tok × Int × Int
  | 0, _, _, acc => (acc, 0, 0)
  | f + 1, l, a, acc =>
    tokS (run blank l) ((l.drop (run blank l)).take (run (fun c => !blank c) (l.drop (run blank l)))) a acc (tokR f (l.drop (run blank l + ((l.drop (run blank l)).take (run (fun c => !blank c) (l.drop (run blank l)))).length)))

theorem tokR_succ (f : Nat) (l : Bs) (a : Nat) (acc : List Tok) : tokR (f + 1) l a acc = tokS (run blank l) ((l.drop (run blank l)).take (run (fun c => !blank c) (l.drop (run blank l)))) a acc (tokR f (l.drop (run blank l + ((l.drop (run blank l)).take (run (fun c => !blank c) (l.drop (run blank l)))).length))) := rfl
theorem extract_list (s : ByteArray) (a b : Nat) : s.extract a b = ⟨((s.data.toList.drop a).take (b - a)).toArray⟩ := by
  obtain ⟨⟨l⟩⟩ := s
  rw [ByteArray.extract_mk]

theorem run_takeWhile (p : Int → Bool) (l : Bs) : l.take (run p l) = l.takeWhile (fun c => p (c.toNat : Int)) := by
  induction l with
  | nil => rfl
  | cons x l ih =>
    by_cases h : p (x.toNat : Int) = true
    · have e : run p (x :: l) = run p l + 1 := by simp [run, h]
      rw [e, List.take_succ_cons, ih, List.takeWhile_cons, if_pos h]
    · have e : run p (x :: l) = 0 := by simp [run, h]
      rw [e, List.takeWhile_cons, if_neg h]
      rfl

theorem tokAcc_eq (s : ByteArray) : ∀ (f a : Nat) (acc : List Tok), a ≤ s.size → tokAcc f s a acc = tokR f (s.data.toList.drop a) a acc
  | 0, _, _, _ => rfl
  | f + 1, a, acc, ha => by
    have hl : s.data.toList.length = s.size := by obtain ⟨⟨l⟩⟩ := s; rfl
    obtain ⟨k, hk⟩ : ∃ k, k = run blank (s.data.toList.drop a) := ⟨_, rfl⟩
    have h1 : skip s a = k := by
      unfold skip
      rw [extract_list, hk]
      congr 1
      show List.take _ _ = _
      rw [List.take_of_length_le]
      rw [List.length_drop]; omega
    have hsk := skip_le s a ha
    obtain ⟨m, hm⟩ : ∃ m, m = run (fun c => !blank c) ((s.data.toList.drop a).drop k) := ⟨_, rfl⟩
    have h2 : size s (a + k) = m := by
      unfold size
      rw [extract_list, hm]
      congr 1
      show List.take _ _ = _
      rw [List.take_of_length_le, List.drop_drop]
      rw [List.length_drop]; omega
    rw [h1] at hsk
    have hsz := size_le s (a + k) hsk
    rw [h2] at hsz
    obtain ⟨t, hte⟩ : ∃ t, t = (List.drop k (List.drop a s.data.toList)).take m := ⟨_, rfl⟩
    have ht : s.extract (a + k) (a + k + m) = ⟨t.toArray⟩ := by
      rw [extract_list, hte, List.drop_drop, show a + k + m - (a + k) = m from by omega]
    have htl : t.length = m := by
      rw [hte, List.length_take, List.drop_drop, List.length_drop]; omega
    unfold tokAcc tokR
    rw [← hk, ← hm, ← hte]
    simp only [h1, h2, ht]
    by_cases h0 : m = 0
    · rw [if_pos h0]
      unfold tokS
      rw [if_pos (List.eq_nil_of_length_eq_zero (by omega))]
    · have hn : t ≠ [] := fun h => h0 (by rw [← htl, h]; rfl)
      rw [if_neg h0]
      by_cases hc : (classify ⟨t.toArray⟩).2 = 0
      · rw [if_pos hc, tokS_ok _ _ _ _ _ hn hc, tokAcc_eq s f _ _ (by omega), List.drop_drop, htl, show a + (k + m) = a + k + m from by omega]
      · rw [if_neg hc, tokS_bad _ _ _ _ _ hn hc]

theorem run_of (p : Int → Bool) (g l : Bs) (hg : g.all (fun c => p (c.toNat : Int)) = true) (hl : ∀ c r, l = c :: r → p (c.toNat : Int) = false) : run p (g ++ l) = g.length := by
  induction g with
  | nil =>
    cases l with
    | nil => rfl
    | cons c r => simp [run, hl c r rfl]
  | cons x g ih =>
    rw [List.all_cons, Bool.and_eq_true] at hg
    have e : run p (x :: (g ++ l)) = run p (g ++ l) + 1 := by simp [run, hg.1]
    rw [List.cons_append, e, ih hg.2]
    rfl

/-- one token -/
theorem tokR_cons (f : Nat) (g t l : Bs) (a : Nat) (acc : List Tok) (hg : blanks g = true) (ht : solid t = true) (h0 : t ≠ []) (hl : ∀ c r, l = c :: r → blank (c.toNat : Int) = true) :
    tokR (f + 1) (g ++ (t ++ l)) a acc = if (classify ⟨t.toArray⟩).2 = 0 then tokR f l (a + g.length + t.length) (acc ++ [((classify ⟨t.toArray⟩).1, ⟨t.toArray⟩, a + g.length)]) else ([], ((a + g.length : Nat) : Int), (classify ⟨t.toArray⟩).2) := by
  have e1 : run blank (g ++ (t ++ l)) = g.length := run_of blank g _ hg fun c r h => by
    cases t with
    | nil => exact absurd rfl h0
    | cons x t =>
      rw [List.cons_append] at h
      injection h with h1 h2
      subst h1
      unfold solid at ht
      rw [List.all_cons, Bool.and_eq_true] at ht
      simpa using ht.1
  have e2 : run (fun c => !blank c) (t ++ l) = t.length := run_of _ t _ ht fun c r h => by simp [hl c r h]
  rw [tokR_succ, e1, List.drop_left, e2, List.take_left]
  by_cases hc : (classify ⟨t.toArray⟩).2 = 0
  · rw [if_pos hc, tokS_ok _ _ _ _ _ h0 hc, ← List.drop_drop, List.drop_left, List.drop_left]
  · rw [if_neg hc, tokS_bad _ _ _ _ _ h0 hc]
/-- the end -/
theorem tokR_nil (f : Nat) (g : Bs) (a : Nat) (acc : List Tok) (hg : blanks g = true) : tokR f g a acc = (acc, 0, 0) := by
  cases f with
  | zero => rfl
  | succ f =>
    have e1 : run blank g = g.length := (run_eq_length _ _).2 hg
    unfold tokR
    rw [e1, List.drop_length, List.take_nil]
    rfl

/-- a line: blanks and texts, blanks at its end -/
def lineOf : List (Bs × Bs) → Bs → Bs
  | [], e => e
  | (g, t) :: r, e => g ++ (t ++ lineOf r e)
/-- its tokens, from an offset on -/
def toksOf : List (Bs × Bs) → Nat → List Tok
  | [], _ => []
  | (g, t) :: r, a => ((classify ⟨t.toArray⟩).1, ⟨t.toArray⟩, a + g.length) :: toksOf r (a + g.length + t.length)
/-- each text is a token, blanks lie between them -/
def lineOk : List (Bs × Bs) → Bool → Prop
  | [], _ => True
  | (g, t) :: r, b => (b = false → g ≠ []) ∧ blanks g = true ∧ solid t = true ∧ t ≠ [] ∧ (classify ⟨t.toArray⟩).2 = 0 ∧ (t.all fun c => c != 35) = true ∧ lineOk r false

/-- the same, by evaluation -/
def lineB : List (Bs × Bs) → Bool → Bool
  | [], _ => true
  | (g, t) :: r, b => (b || !g.isEmpty) && blanks g && solid t && !t.isEmpty && decide ((classify ⟨t.toArray⟩).2 = 0) && (t.all fun c => c != 35) && lineB r false
theorem lineOk_of : ∀ (ps : List (Bs × Bs)) (b : Bool), lineB ps b = true → lineOk ps b
  | [], _, _ => trivial
  | (g, t) :: r, b, h => by
    unfold lineB at h
    simp only [Bool.and_eq_true, Bool.or_eq_true, decide_eq_true_eq, Bool.not_eq_true', List.isEmpty_eq_false_iff] at h
    obtain ⟨⟨⟨⟨⟨⟨h1, h2⟩, h3⟩, h4⟩, h5⟩, h6⟩, h7⟩ := h
    exact ⟨fun hb => by rcases h1 with h1 | h1 <;> simp_all, h2, h3, h4, h5, h6, lineOk_of r false h7⟩

theorem tokR_line : ∀ (ps : List (Bs × Bs)) (e : Bs) (f a : Nat) (acc : List Tok) (b : Bool), lineOk ps b → blanks e = true → (e = [] ∨ True) → ps.length ≤ f → tokR f (lineOf ps e) a acc = (acc ++ toksOf ps a, 0, 0)
  | [], e, f, a, acc, _, _, he, _, _ => by rw [toksOf, List.append_nil]; exact tokR_nil f e a acc he
  | (g, t) :: r, e, 0, a, acc, b, h, he, ht, hf => by simp at hf
  | (g, t) :: r, e, f + 1, a, acc, b, ⟨h1, h2, h3, h4, h5, h7, h6⟩, he, ht, hf => by
    unfold lineOf
    rw [tokR_cons f g t _ a acc h2 h3 h4 fun c r' hc => ?_, if_pos h5, tokR_line r e f _ _ false h6 he ht (by simpa using hf)]
    · rw [toksOf, List.append_assoc]; rfl
    · cases r with
      | nil =>
        rw [show lineOf [] e = e from rfl] at hc
        subst hc
        unfold blanks at he
        rw [List.all_cons, Bool.and_eq_true] at he
        exact he.1
      | cons y r =>
        obtain ⟨g2, t2⟩ := y
        obtain ⟨k1, k2, _⟩ := h6
        have k3 := k1 rfl
        cases g2 with
        | nil => exact absurd rfl k3
        | cons x g2 =>
          rw [lineOf, List.cons_append] at hc
          injection hc with hc1 _
          subst hc1
          unfold blanks at k2
          rw [List.all_cons, Bool.and_eq_true] at k2
          exact k2.1

theorem isC_plain (l : Bs) (h : (l.all fun c => c != 35) = true) (i : Nat) : isC l i = false := by
  unfold isC
  rw [Bool.and_eq_false_iff]
  left
  rw [beq_eq_false_iff_ne]
  intro hi
  have := List.mem_of_getElem? hi
  rw [List.all_eq_true] at h
  have := h _ this
  simp at this
theorem uncomment_plain (s : ByteArray) (h : (s.data.toList.all fun c => c != 35) = true) : uncomment s = s := by
  unfold uncomment
  rw [cutAt_miss _ fun j _ => isC_plain _ h j]
  have hl : s.data.toList.length = s.size := by obtain ⟨⟨l⟩⟩ := s; rfl
  rw [hl]
  exact extract_all s
theorem blanks_plain {g : Bs} (h : blanks g = true) : (g.all fun c => c != 35) = true := by
  unfold blanks at h
  rw [List.all_eq_true] at h ⊢
  intro x hx
  have h2 := h x hx
  rw [bne_iff_ne]
  rintro rfl
  revert h2
  decide
theorem line_plain : ∀ (ps : List (Bs × Bs)) (e : Bs) (b : Bool), lineOk ps b → blanks e = true → ((lineOf ps e).all fun c => c != 35) = true
  | [], e, _, _, he => blanks_plain he
  | (g, t) :: r, e, b, ⟨h1, h2, h3, h4, h5, h7, h6⟩, he => by
    unfold lineOf
    rw [List.all_append, List.all_append, blanks_plain h2, h7, line_plain r e false h6 he]
    rfl
theorem line_length : ∀ (ps : List (Bs × Bs)) (e : Bs) (b : Bool), lineOk ps b → ps.length ≤ (lineOf ps e).length
  | [], e, _, _ => Nat.zero_le _
  | (g, t) :: r, e, b, ⟨h1, h2, h3, h4, h5, h7, h6⟩ => by
    have := line_length r e false h6
    have := List.length_pos_iff.2 h4
    unfold lineOf
    simp only [List.length_append, List.length_cons]
    omega
/-- the tokens of such a line -/
theorem tokenize_line (ps : List (Bs × Bs)) (e : Bs) (h : lineOk ps true) (he : blanks e = true) (hl : (lineOf ps e).length ≤ 1024) : tokenize ⟨(lineOf ps e).toArray⟩ = (toksOf ps 0, 0, 0) := by
  unfold tokenize
  have hsz : (⟨(lineOf ps e).toArray⟩ : ByteArray).size = (lineOf ps e).length := rfl
  rw [if_neg (by rw [hsz]; omega), uncomment_plain _ (line_plain ps e true h he), tokAcc_eq _ _ _ _ (Nat.zero_le _)]
  have := line_length ps e true h
  exact tokR_line ps e _ 0 [] true h he (.inr trivial) (by omega)

end Go.Proofs.YthijakidnkhbnaaGreatDoor.Lx

namespace Go.Proofs.YthijakidnkhbnaaGreatDoor.Ps
open Go

/-- an offset of a token, or the end of the last one -/
def Off (l : List Tok) (o : Int) : Prop := (∃ a, o = offAt l a) ∨ o = offEnd l
/-- a reader's errors lie at tokens or at the end -/
def ErrIn {α : Type} (l : List Tok) (p : P α) : Prop := ∀ a e, p a = .error e → Off l e.1 ∧ e.2 ≠ 0
section
variable {l : List Tok}
theorem ErrIn.pure {α : Type} (x : α) : ErrIn l (pure' x) := fun a e h => by cases h
theorem ErrIn.bind {α β : Type} {m : P α} {f : α → P β} (hm : ErrIn l m) (hf : ∀ x, ErrIn l (f x)) : ErrIn l (bind' m f) := fun a e h => by
  unfold bind' at h
  cases hc : m a with
  | error e' => rw [hc] at h; cases h; exact hm a _ hc
  | ok x => rw [hc] at h; exact hf x.1 x.2 e h
theorem ErrIn.fail {α : Type} (n : Int) (hn : n ≠ 0) : ErrIn l (failAt (α := α) l n) := fun a e h => by
  cases h; exact ⟨.inl ⟨a, rfl⟩, hn⟩
theorem ErrIn.word (w : Bs) : ErrIn l (word l w) := fun a e h => by
  unfold Ps.word at h
  split at h
  · cases h; exact ⟨.inr rfl, by show (4 : Int) ≠ 0; decide⟩
  · split at h
    · cases h
    · cases h; exact ⟨.inl ⟨a, rfl⟩, by show (30 : Int) ≠ 0; decide⟩
theorem ErrIn.take {α : Type} (f : ByteArray → α × Int) (ks : List Int) : ErrIn l (take l f ks) := fun a e h => by
  unfold Ps.take at h
  split at h
  · cases h; exact ⟨.inr rfl, by show (4 : Int) ≠ 0; decide⟩
  · split at h
    · split at h
      · cases h
      · rename_i hz; cases h; exact ⟨.inl ⟨a, rfl⟩, hz⟩
    · cases h; exact ⟨.inl ⟨a, rfl⟩, by show (30 : Int) ≠ 0; decide⟩
variable (E : Env)
theorem ErrIn.ref : ErrIn l (Ps.ref E l) := by unfold Ps.ref Ps.ident; exact ErrIn.take _ _
theorem ErrIn.member : ErrIn l (Ps.member E l) := by unfold Ps.member Ps.ident; exact ErrIn.take _ _
theorem ErrIn.isin : ErrIn l (Ps.isin E l) := by unfold Ps.isin Ps.ident; exact ErrIn.take _ _
theorem ErrIn.cash : ErrIn l (Ps.cash E l) := ErrIn.take _ _
theorem ErrIn.quantity : ErrIn l (Ps.quantity E l) := ErrIn.take _ _
theorem ErrIn.day : ErrIn l (Ps.day E l) := ErrIn.take _ _
theorem ErrIn.options : ∀ (f : Nat) (s : Seen) (i : Ins), ErrIn l (options E l f s i)
  | 0, s, i => .pure i
  | f + 1, s, i => fun a e h => by
    have ih := ErrIn.options f
    unfold Ps.options at h
    split at h
    · cases h
    split at h
    · split at h
      · exact ErrIn.fail 7 (by decide) a e h
      · exact ih _ _ _ e h
    split at h
    · split at h
      · exact ErrIn.fail 7 (by decide) a e h
      · exact ErrIn.bind (.quantity E) (fun n => ih _ _) _ e h
    split at h
    · split at h
      · exact ErrIn.fail 7 (by decide) a e h
      · exact ih _ _ _ e h
    split at h
    · split at h
      · exact ErrIn.fail 7 (by decide) a e h
      · exact ih _ _ _ e h
    split at h
    · exact ErrIn.bind (.ref E) (fun n => ih _ _) _ e h
    split at h
    · exact ErrIn.bind (.ref E) (fun n => ih _ _) _ e h
    exact ErrIn.fail 30 (by decide) a e h
theorem ErrIn.changes : ∀ (f : Nat) (s : Seen) (i : Amd), ErrIn l (changes E l f s i)
  | 0, s, i => .pure i
  | f + 1, s, i => fun a e h => by
    have ih := ErrIn.changes f
    unfold Ps.changes at h
    split at h
    · cases h
    split at h
    · split at h
      · exact ErrIn.fail 7 (by decide) a e h
      · exact ih _ _ _ e h
    split at h
    · split at h
      · exact ErrIn.fail 7 (by decide) a e h
      · exact ErrIn.bind (.quantity E) (fun n => ih _ _) _ e h
    split at h
    · split at h
      · exact ErrIn.fail 7 (by decide) a e h
      · exact ih _ _ _ e h
    split at h
    · split at h
      · exact ErrIn.fail 7 (by decide) a e h
      · exact ErrIn.bind (.cash E) (fun n => ih _ _) _ e h
    split at h
    · split at h
      · exact ErrIn.fail 7 (by decide) a e h
      · exact ErrIn.bind (.day E) (fun n => ih _ _) _ e h
    exact ErrIn.fail 30 (by decide) a e h
theorem ErrIn.parties : ErrIn l (parties E l) := .bind (.word _) fun _ => .bind (.member E) fun _ => .bind (.word _) fun _ => .bind (.member E) fun _ => .pure _
theorem ErrIn.by_ : ErrIn l (by_ E l) := .bind (.word _) fun _ => .member E
theorem ErrIn.security (i : Ins) : ErrIn l (security E l i) := .bind (.word _) fun _ => .bind (.isin E) fun _ => .bind (.word _) fun _ => .bind (.quantity E) fun _ => .pure _
theorem ErrIn.payment (i : Ins) : ErrIn l (payment E l i) := .bind (.parties E) fun _ => .bind (.word _) fun _ => .bind (.cash E) fun _ => .bind (.word _) fun _ => .bind (.day E) fun _ => .options E _ _ _
theorem ErrIn.trade (i : Ins) : ErrIn l (trade E l i) := .bind (.parties E) fun _ => .bind (.security E _) fun j => .bind (fun a e h => by
    split at h
    · cases h
    · exact ErrIn.bind (.word _) (fun _ => ErrIn.bind (.cash E) fun _ => .pure _) a e h) fun _ => .bind (.word _) fun _ => .bind (.day E) fun _ => .bind (.word _) fun _ => .bind (.day E) fun _ => .options E _ _ _
theorem ErrIn.collateral (k : Int) (i : Ins) : ErrIn l (collateral E l k i) := .bind (.by_ E) fun _ => .bind (.security E _) fun _ => .bind (.word _) fun _ => .bind (.day E) fun _ => .pure _
theorem ErrIn.rest (v : Bs) (q : Req) : ErrIn l (rest E l v q) := by
  unfold Ps.rest
  split
  · exact .bind (.payment E _) fun _ => .pure _
  split
  · exact .bind (.trade E _) fun _ => .pure _
  split
  · exact .bind (.trade E _) fun _ => .pure _
  split
  · exact .bind (.collateral E _ _) fun _ => .pure _
  split
  · exact .bind (.collateral E _ _) fun _ => .pure _
  split
  · refine .bind (.by_ E) fun _ a e h => ?_
    split at h
    · cases h; exact ⟨.inr rfl, by show (4 : Int) ≠ 0; decide⟩
    · exact ErrIn.bind (.changes E _ _ _) (fun _ => .pure _) a e h
  split
  · exact .bind (.by_ E) fun _ => .pure _
  split
  · exact .bind (.by_ E) fun _ => .pure _
  · exact .bind (.by_ E) fun _ => .pure _
theorem ErrIn.line : ErrIn l (line E l) := fun a e h => by
  unfold Ps.line at h
  split at h
  · cases h; exact ⟨.inr rfl, by show (4 : Int) ≠ 0; decide⟩
  split at h
  · refine ErrIn.bind (.ref E) (fun r => ErrIn.bind (.rest E _ _) fun q => ?_) _ e h
    intro b e h
    have h : (if b < l.length then (.error (offAt l b, 30) : Except Er (Req × Nat)) else .ok (q, b)) = .error e := h
    split at h
    · cases h; exact ⟨.inl ⟨b, rfl⟩, by show (30 : Int) ≠ 0; decide⟩
    · cases h
  · cases h; exact ⟨.inl ⟨a, rfl⟩, by show (30 : Int) ≠ 0; decide⟩
end

/-- tokens lie in their line -/
theorem tokR_off : ∀ (f : Nat) (l : Bs) (a : Nat) (acc : List Tok) (m : Nat), a + l.length ≤ m → (∀ t ∈ acc, t.2.2 + t.2.1.size ≤ m) → (∀ t ∈ (Lx.tokR f l a acc).1, t.2.2 + t.2.1.size ≤ m) ∧ 0 ≤ (Lx.tokR f l a acc).2.1 ∧ (Lx.tokR f l a acc).2.1 ≤ m
  | 0, l, a, acc, m, ha, h => ⟨h, Int.le_refl _, by show (0 : Int) ≤ m; omega⟩
  | f + 1, l, a, acc, m, ha, h => by
    rw [Lx.tokR_succ]
    have h1 := Lx.run_le Lx.blank l
    obtain ⟨k, hk⟩ : ∃ k, k = Lx.run Lx.blank l := ⟨_, rfl⟩
    rw [← hk] at h1 ⊢
    obtain ⟨t, ht⟩ : ∃ t, t = (l.drop k).take (Lx.run (fun c => !Lx.blank c) (l.drop k)) := ⟨_, rfl⟩
    rw [← ht]
    have htl : k + t.length ≤ l.length := by
      rw [ht, List.length_take, List.length_drop]; omega
    by_cases h0 : t = []
    · unfold Lx.tokS
      rw [if_pos h0]
      exact ⟨h, Int.le_refl _, by show (0 : Int) ≤ m; omega⟩
    by_cases hc : (Lx.classify ⟨t.toArray⟩).2 = 0
    · rw [Lx.tokS_ok _ _ _ _ _ h0 hc]
      refine tokR_off f _ _ _ m ?_ fun x hx => ?_
      · rw [List.length_drop]; omega
      · rcases List.mem_append.1 hx with hx | hx
        · exact h x hx
        · rw [List.mem_singleton.1 hx]
          show a + k + t.length ≤ m
          omega
    · rw [Lx.tokS_bad _ _ _ _ _ h0 hc]
      exact ⟨fun t ht => by simp at ht, by show (0 : Int) ≤ ((a + k : Nat) : Int); omega, by show ((a + k : Nat) : Int) ≤ m; omega⟩
theorem tokenize_off (s : ByteArray) (hs : s.size ≤ 1024) : (∀ t ∈ (Lx.tokenize s).1, t.2.2 + t.2.1.size ≤ s.size) ∧ 0 ≤ (Lx.tokenize s).2.1 ∧ (Lx.tokenize s).2.1 ≤ s.size := by
  have hu : (Lx.uncomment s).size ≤ s.size := by
    unfold Lx.uncomment
    rw [ByteArray.size_extract]
    omega
  unfold Lx.tokenize
  rw [if_neg (by omega), Lx.tokAcc_eq _ _ _ _ (Nat.zero_le _)]
  refine tokR_off _ _ _ _ _ ?_ fun t ht => by cases ht
  have : (Lx.uncomment s).data.toList.length = (Lx.uncomment s).size := by obtain ⟨⟨l⟩⟩ := Lx.uncomment s; rfl
  rw [List.drop_zero, this]
  omega

theorem Off.bound {l : List Tok} {o : Int} {m : Nat} (h : ∀ t ∈ l, t.2.2 + t.2.1.size ≤ m) (ho : Off l o) : 0 ≤ o ∧ o ≤ m := by
  rcases ho with ⟨a, rfl⟩ | rfl
  · unfold offAt
    cases ha : l[a]? with
    | none => exact ⟨Int.le_refl _, by show (0 : Int) ≤ m; omega⟩
    | some t =>
      have := h t (List.mem_of_getElem? ha)
      exact ⟨by show (0 : Int) ≤ (t.2.2 : Int); omega, by show (t.2.2 : Int) ≤ m; omega⟩
  · unfold offEnd
    cases ha : l.getLast? with
    | none => exact ⟨Int.le_refl _, by show (0 : Int) ≤ m; omega⟩
    | some t =>
      have := h t (List.mem_of_getLast? ha)
      exact ⟨by show (0 : Int) ≤ ((t.2.2 + t.2.1.size : Nat) : Int); omega, by show ((t.2.2 + t.2.1.size : Nat) : Int) ≤ m; omega⟩

/-- what Parse says: a valid request, or nothing and a place in the line -/
theorem parse_valid (E : Env) (check : Req → Int) (s : ByteArray) (hs : s.size ≤ 1024) : ((parse E check s).2.2 = 0 → check (parse E check s).1 = 0 ∧ (parse E check s).2.1 = 0) ∧ ((parse E check s).2.2 ≠ 0 → (parse E check s).1 = {} ∧ 0 ≤ (parse E check s).2.1 ∧ (parse E check s).2.1 ≤ s.size) := by
  obtain ⟨h1, h2, h3⟩ := tokenize_off s hs
  unfold parse
  split
  · rename_i he
    exact ⟨fun h => absurd h he, fun _ => ⟨rfl, h2, h3⟩⟩
  · cases hl : line E (Lx.tokenize s).1 0 with
    | error e =>
      simp only []
      obtain ⟨hb, hz⟩ := ErrIn.line E 0 e hl
      exact ⟨fun h => absurd h hz, fun _ => ⟨trivial, hb.bound h1⟩⟩
    | ok x =>
      obtain ⟨q, b⟩ := x
      simp only []
      obtain ⟨q', hq'⟩ : ∃ q', q' = if q.op = 0 then ({ q with sender := q.ins.sender, ins := { q.ins with ref := q.ref } } : Req) else q := ⟨_, rfl⟩
      rw [← hq']
      by_cases hc : check q' ≠ 0
      · rw [if_pos hc]
        exact ⟨fun h => absurd h hc, fun _ => ⟨rfl, Off.bound h1 (.inl ⟨0, rfl⟩)⟩⟩
      · rw [if_neg hc]
        exact ⟨fun _ => ⟨by simpa using hc, rfl⟩, fun h => absurd rfl h⟩

end Go.Proofs.YthijakidnkhbnaaGreatDoor.Ps
