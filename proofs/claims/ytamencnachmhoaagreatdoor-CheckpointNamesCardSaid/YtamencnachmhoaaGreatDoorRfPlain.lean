/-
  THE REFERENCE OF THE DISK, PLAIN: apply byte by byte, the place of a name, files in and out, pieces, choices.
-/
import Derived.Test.YtamencnachmhoaaGreatDoorDkPlain4
import Derived.WideAt
import Derived.WideShapes
namespace Go.Proofs.YtamencnachmhoaaGreatDoor.Dk
open Go

/-! ### apply -/
def rapply (l : Bs) (off : Nat) (b : Bs) : Bs := if b = [] then l else over l off b
def padded (l : Bs) (n : Nat) : Bs := l ++ List.replicate (n - l.length) 0
/-- contents padded, i bytes of b laid over -/
def part (l b : Bs) (off i : Nat) : Bs := (padded l (off + b.length)).take off ++ b.take i ++ (padded l (off + b.length)).drop (off + i)

theorem padded_length (l : Bs) (n : Nat) : (padded l n).length = max l.length n := by
  unfold padded; rw [List.length_append, List.length_replicate]; omega
theorem part_zero (l b : Bs) (off : Nat) : part l b off 0 = padded l (off + b.length) := by
  unfold part; rw [List.take_zero, List.append_nil, Nat.add_zero, List.take_append_drop]
theorem part_full (l b : Bs) (off : Nat) : part l b off b.length = over l off b := by
  unfold part over padded; rw [List.take_length]
theorem part_length (l b : Bs) (off i : Nat) (hi : i ≤ b.length) : (part l b off i).length = max l.length (off + b.length) := by
  have h := padded_length l (off + b.length)
  unfold part
  rw [List.length_append, List.length_append, List.length_take, List.length_take, List.length_drop]
  omega
theorem part_step (l b : Bs) (off i : Nat) (hi : i < b.length) : (part l b off i).set (off + i) b[i] = part l b off (i + 1) := by
  have h := padded_length l (off + b.length)
  unfold part
  have h1 : ((padded l (off + b.length)).take off ++ b.take i).length = off + i := by
    rw [List.length_append, List.length_take, List.length_take]; omega
  rw [List.set_append_right _ _ (by omega), h1, Nat.sub_self, List.drop_eq_getElem_cons (l := padded l (off + b.length)) (i := off + i) (by omega), List.set_cons_zero]
  rw [List.take_succ_eq_append_getElem hi, ← List.append_assoc, List.append_assoc _ [b[i]], List.singleton_append]
  rfl
theorem rapply_length (l : Bs) (off : Nat) (b : Bs) : (rapply l off b).length = if b = [] then l.length else max l.length (off + b.length) := by
  unfold rapply; split
  · rfl
  · exact over_length l off b
theorem rapply_pos (l : Bs) (off : Nat) (b : Bs) (h : 0 < b.length) : rapply l off b = over l off b := by
  unfold rapply; rw [if_neg (fun e => by rw [e] at h; exact absurd h (by simp))]

/-! ### the place of a name -/
def pos (n : Bs) : List (Bs × Fl) → Option Nat
  | [] => none
  | p :: r => if p.1 == n then some 0 else (pos n r).map (· + 1)
def posInt (n : Bs) (fs : List (Bs × Fl)) : Int := match pos n fs with | some k => (k : Int) | none => -1
theorem pos_none {n : Bs} : ∀ {fs : List (Bs × Fl)}, pos n fs = none ↔ find n fs = none
  | [] => by simp [pos, find]
  | p :: r => by
    have ih := pos_none (n := n) (fs := r)
    unfold find at ih ⊢
    unfold pos
    rw [List.find?_cons]
    cases h : p.1 == n
    · simp only [Bool.false_eq_true, if_false, Option.map_eq_none_iff] at ih ⊢
      exact ih
    · simp
theorem pos_some {n : Bs} : ∀ {fs : List (Bs × Fl)} {k : Nat}, pos n fs = some k → ∃ f, fs[k]? = some (n, f) ∧ find n fs = some f ∧ ∀ j, j < k → ∀ p, fs[j]? = some p → p.1 ≠ n
  | [], k, h => by simp [pos] at h
  | p :: r, k, h => by
    unfold pos at h
    cases hp : p.1 == n
    · rw [hp] at h
      simp only [Bool.false_eq_true, if_false, Option.map_eq_some_iff] at h
      obtain ⟨k', hk, rfl⟩ := h
      obtain ⟨f, h1, h2, h3⟩ := pos_some hk
      refine ⟨f, by simpa using h1, ?_, fun j hj q hq => ?_⟩
      · unfold find at h2 ⊢
        rw [List.find?_cons, hp]
        exact h2
      · cases j with
        | zero => simp at hq; subst hq; simpa using hp
        | succ j => exact h3 j (by omega) q (by simpa using hq)
    · rw [hp] at h
      simp at h
      subst h
      have hn : p.1 = n := by simpa using hp
      refine ⟨p.2, by simp [← hn], ?_, fun j hj => by omega⟩
      unfold find
      rw [List.find?_cons, hp]
      rfl
theorem pos_of {n : Bs} {fs : List (Bs × Fl)} (k : Nat) (hk : k < fs.length) (hn : (fs[k]).1 = n) (hb : ∀ j, (h : j < k) → (fs[j]'(by omega)).1 ≠ n) : pos n fs = some k := by
  cases h : pos n fs with
  | none =>
    have := pos_none.1 h
    unfold find at this
    rw [Option.map_eq_none_iff, List.find?_eq_none] at this
    have := this fs[k] (List.getElem_mem hk)
    simp [hn] at this
  | some j =>
    obtain ⟨f, h1, _, h3⟩ := pos_some h
    rcases Nat.lt_trichotomy j k with hj | rfl | hj
    · have e := hb j hj
      rw [List.getElem?_eq_getElem (by omega)] at h1
      simp only [Option.some.injEq] at h1
      rw [h1] at e
      exact absurd rfl e
    · rfl
    · exact absurd hn (h3 k hj fs[k] (List.getElem?_eq_getElem hk))
theorem pos_miss {n : Bs} {fs : List (Bs × Fl)} (h : ∀ k, (hk : k < fs.length) → (fs[k]).1 ≠ n) : pos n fs = none := by
  cases hp : pos n fs with
  | none => rfl
  | some j =>
    obtain ⟨f, h1, _, _⟩ := pos_some hp
    obtain ⟨hj, e⟩ := List.getElem?_eq_some_iff.1 h1
    exact absurd (by rw [e]) (h j hj)

/-! ### files in and out -/
def Rising (fs : List (Bs × Fl)) : Prop := fs.Pairwise (fun p q => bytesBefore p.1 q.1 = true)
theorem Rising.ne {fs : List (Bs × Fl)} (h : Rising fs) : fs.Pairwise (fun p q => p.1 ≠ q.1) :=
  h.imp fun {a b} hab e => by rw [e, WideAt.bytes_irrefl] at hab; cases hab
theorem bytes_asymm {a b : Bs} (h : bytesBefore a b = true) : bytesBefore b a = false := by
  cases hb : bytesBefore b a with
  | false => rfl
  | true => have := Go.WideShapes.bytes_trans a b a h hb; rw [WideAt.bytes_irrefl] at this; cases this
/-- how many names are ahead of a name -/
def ahead (n : Bs) (fs : List (Bs × Fl)) : Nat := (fs.takeWhile (fun p => bytesBefore p.1 n)).length
theorem ahead_le (n : Bs) (fs : List (Bs × Fl)) : ahead n fs ≤ fs.length := (List.takeWhile_prefix _).length_le
theorem ahead_cons (n : Bs) (p : Bs × Fl) (fs : List (Bs × Fl)) : ahead n (p :: fs) = if bytesBefore p.1 n then ahead n fs + 1 else 0 := by
  unfold ahead
  rw [List.takeWhile_cons]
  split <;> rfl
theorem ahead_lt {n : Bs} : ∀ {fs : List (Bs × Fl)} {k : Nat} (hk : k < fs.length), k < ahead n fs → bytesBefore (fs[k]).1 n = true
  | [], k, hk, _ => by simp at hk
  | p :: r, k, hk, h => by
    rw [ahead_cons] at h
    split at h
    · rename_i hp
      cases k with
      | zero => exact hp
      | succ k => exact ahead_lt (fs := r) (by simpa using hk) (by omega)
    · omega
theorem ahead_at {n : Bs} : ∀ {fs : List (Bs × Fl)} (hk : ahead n fs < fs.length), bytesBefore (fs[ahead n fs]).1 n = false
  | [], hk => by simp at hk
  | p :: r, hk => by
    cases hp : bytesBefore p.1 n with
    | false =>
      have e : ahead n (p :: r) = 0 := by rw [ahead_cons, hp]; rfl
      simp only [e, List.getElem_cons_zero]
      exact hp
    | true =>
      have e : ahead n (p :: r) = ahead n r + 1 := by rw [ahead_cons, hp]; rfl
      rw [e] at hk
      have := ahead_at (n := n) (fs := r) (by simpa using hk)
      simp only [e, List.getElem_cons_succ]
      exact this
/-- the place is the first whose name is not ahead -/
theorem ahead_eq {n : Bs} {fs : List (Bs × Fl)} {k : Nat} (hk : k ≤ fs.length) (h1 : ∀ j, (h : j < k) → bytesBefore (fs[j]'(by omega)).1 n = true) (h2 : (h : k < fs.length) → bytesBefore (fs[k]).1 n = false) : ahead n fs = k := by
  rcases Nat.lt_trichotomy (ahead n fs) k with h | h | h
  · have e := h1 _ h
    have := ahead_at (n := n) (fs := fs) (by omega)
    rw [e] at this
    cases this
  · exact h
  · have hl := ahead_le n fs
    have e := ahead_lt (n := n) (fs := fs) (k := k) (by omega) h
    rw [h2 (by omega)] at e
    cases e
theorem ins_eq (n : Bs) (f : Fl) : ∀ (fs : List (Bs × Fl)), (∀ p ∈ fs, p.1 ≠ n) → fs.take (ahead n fs) ++ (n, f) :: fs.drop (ahead n fs) = ins n f fs
  | [], _ => rfl
  | p :: r, h => by
    have hp := h p (by simp)
    have ih := ins_eq n f r (fun q hq => h q (by simp [hq]))
    rw [ahead_cons]
    show _ = if bytesBefore n p.1 then (n, f) :: p :: r else p :: insBy Prod.fst (n, f) r
    rcases WideAt.bytes_total p.1 n hp with hb | hb
    · rw [if_pos hb, if_neg (by rw [bytes_asymm hb]; simp)]
      simp only [List.take_succ_cons, List.drop_succ_cons, List.cons_append]
      rw [ih]
      rfl
    · rw [if_neg (by rw [bytes_asymm hb]; simp), if_pos hb]
      rfl
theorem del_eq {n : Bs} : ∀ {fs : List (Bs × Fl)} {k : Nat}, fs.Pairwise (fun p q => p.1 ≠ q.1) → pos n fs = some k → fs.take k ++ fs.drop (k + 1) = del n fs
  | [], k, _, h => by simp [pos] at h
  | p :: r, k, hd, h => by
    obtain ⟨h1, h2⟩ := List.pairwise_cons.1 hd
    unfold pos at h
    cases hp : p.1 == n
    · rw [hp] at h
      simp only [Bool.false_eq_true, if_false, Option.map_eq_some_iff] at h
      obtain ⟨k', hk, rfl⟩ := h
      have ih := del_eq h2 hk
      simp only [List.take_succ_cons, List.drop_succ_cons, List.cons_append]
      rw [ih]
      unfold del
      rw [List.filter_cons, hp]
      rfl
    · rw [hp] at h
      simp at h
      subst h
      have hn : p.1 = n := by simpa using hp
      simp only [List.take_zero, List.nil_append, List.drop_succ_cons, List.drop_zero]
      unfold del
      rw [List.filter_cons, hp]
      simp only [Bool.not_true, Bool.false_eq_true, if_false]
      rw [List.filter_eq_self.2]
      intro q hq
      have := h1 q hq
      rw [hn] at this
      simp [Ne.symm this]
theorem upd_eq {n : Bs} (f : Fl) : ∀ {fs : List (Bs × Fl)} {k : Nat}, fs.Pairwise (fun p q => p.1 ≠ q.1) → pos n fs = some k → fs.set k (n, f) = upd n f fs
  | [], k, _, h => by simp [pos] at h
  | p :: r, k, hd, h => by
    obtain ⟨h1, h2⟩ := List.pairwise_cons.1 hd
    unfold pos at h
    cases hp : p.1 == n
    · rw [hp] at h
      simp only [Bool.false_eq_true, if_false, Option.map_eq_some_iff] at h
      obtain ⟨k', hk, rfl⟩ := h
      have ih := upd_eq f h2 hk
      rw [List.set_cons_succ, ih]
      unfold upd
      rw [List.map_cons, hp]
      rfl
    · rw [hp] at h
      simp at h
      subst h
      have hn : p.1 = n := by simpa using hp
      rw [List.set_cons_zero]
      unfold upd
      rw [List.map_cons, hp]
      simp only [if_true]
      congr 1
      have : r.map (fun q => if q.1 == n then (n, f) else q) = r.map id := by
        apply List.map_congr_left
        intro q hq
        have := h1 q hq
        rw [hn] at this
        simp [Ne.symm this]
      rw [this, List.map_id]

/-! ### choices, pieces -/
def chc (l : Bs) (i : Nat) : Nat := hd (l.drop i)
theorem chc_lt (l : Bs) (i : Nat) : chc l i < 256 := hd_lt _
theorem chc_in (l : Bs) (i : Nat) (h : i < l.length) : chc l i = l[i].toNat := by
  unfold chc; rw [List.drop_eq_getElem_cons h]; rfl
theorem chc_out (l : Bs) (i : Nat) (h : l.length ≤ i) : chc l i = 0 := by
  unfold chc; rw [List.drop_of_length_le h]; rfl

theorem contents_keep (m : Nat) (d : Bs) (i : Nat) (p : Wr) (r : List Wr) : contents d (keepBits m i (p :: r)) = contents (if (m >>> (i % 8)) % 2 = 1 then p.apply d else d) (keepBits m (i + 1) r) := by
  show contents d (if (m >>> (i % 8)) % 2 = 1 then p :: keepBits m (i + 1) r else keepBits m (i + 1) r) = _
  split
  · rw [contents_cons]
  · rfl

/-- the loop of the reference's pieces: behind the cut at fr with n pieces, at round j -/
def PcInv (b : Bs) (off m : Nat) (fin : Bs) (fr n j : Nat) (d : Bs) : Prop :=
  fr < j ∧ j ≤ b.length + 1 ∧ n ≤ fr ∧ (j ≤ b.length → j - fr ≤ 512 - (off + fr) % 512) ∧ (b.length < j → 0 < b.length → fr = b.length) ∧ contents d (keepBits m n (piecesF (b.length - fr) (off + fr) (b.drop fr))) = fin
theorem PcInv.start (b : Bs) (off m : Nat) (d : Bs) : PcInv b off m (contents d (keepBits m 0 (pieces ⟨off, b⟩))) 0 0 1 d :=
  ⟨by omega, by omega, by omega, fun _ => by omega, fun h1 h2 => by omega, by simp [pieces]⟩
theorem PcInv.stop {b : Bs} {off m : Nat} {fin : Bs} {fr n j : Nat} {d : Bs} (h : PcInv b off m fin fr n j d) (hj : b.length < j) : d = fin := by
  obtain ⟨_, _, _, _, h5, h6⟩ := h
  rcases Nat.eq_zero_or_pos b.length with h0 | hp
  · obtain rfl : b = [] := List.eq_nil_of_length_eq_zero h0
    simp [piecesF_nil, keepBits, contents_nil] at h6
    exact h6
  · have := h5 hj hp
    subst this
    rw [List.drop_length, piecesF_nil] at h6
    exact h6
theorem PcInv.next {b : Bs} {off m : Nat} {fin : Bs} {fr n j : Nat} {d : Bs} (h : PcInv b off m fin fr n j d) (hj : j < b.length) (hc : (off + j) % 512 ≠ 0) : PcInv b off m fin fr n (j + 1) d := by
  obtain ⟨h1, h2, h3, h4, h5, h6⟩ := h
  have := h4 (by omega)
  refine ⟨by omega, by omega, h3, fun _ => ?_, fun h => by omega, h6⟩
  omega
theorem PcInv.cut {b : Bs} {off m : Nat} {fin : Bs} {fr n j : Nat} {d : Bs} (h : PcInv b off m fin fr n j d) (hj : j ≤ b.length) (hc : j = b.length ∨ (off + j) % 512 = 0) :
    PcInv b off m fin j (n + 1) (j + 1) (if (m >>> (n % 8)) % 2 = 1 then over d (off + fr) ((b.take j).drop fr) else d) ∧ 0 < ((b.take j).drop fr).length := by
  obtain ⟨h1, h2, h3, h4, h5, h6⟩ := h
  have h4' := h4 hj
  have hmin : min (b.drop fr).length (512 - (off + fr) % 512) = j - fr := by
    rw [List.length_drop]; omega
  have hne : b.drop fr ≠ [] := by
    intro e
    have := congrArg List.length e
    rw [List.length_drop, List.length_nil] at this
    omega
  have hs : b.length - fr = (b.length - fr - 1) + 1 := by omega
  rw [hs, piecesF_step _ _ _ hne, hmin, List.drop_drop, contents_keep] at h6
  have e1 : (b.drop fr).take (j - fr) = (b.take j).drop fr := by rw [List.drop_take]
  have e2 : off + fr + (j - fr) = off + j := by omega
  have e3 : fr + (j - fr) = j := by omega
  rw [e1, e2, e3, piecesF_fuel _ (b.length - j) _ _ (by rw [List.length_drop]; omega) (by rw [List.length_drop]; omega)] at h6
  refine ⟨⟨by omega, by omega, by omega, fun _ => by omega, fun _ _ => by omega, h6⟩, ?_⟩
  rw [List.length_drop, List.length_take]
  omega

end Go.Proofs.YtamencnachmhoaaGreatDoor.Dk
