/-
  THE REFERENCE's Restart, PLAIN: choices by their number; the files one after another.
-/
import Derived.Test.YtcbnbhlgikjbeaaGreatDoorRfPlain
namespace Go.Proofs.YtcbnbhlgikjbeaaGreatDoor.Dk
open Go

theorem chc_drop (l : Bs) (i k : Nat) : chc (l.drop i) k = chc l (i + k) := by unfold chc; rw [List.drop_drop]
theorem hd_chc (l : Bs) (i : Nat) : hd (l.drop i) = chc l i := rfl
theorem tail_drop (l : Bs) (i : Nat) : (l.drop i).tail = l.drop (i + 1) := by rw [List.tail_drop]

theorem oddS_snoc (w : Wr) : ∀ (a : List Wr) (ch : Bs), oddS (a ++ [w]) ch = ((oddS a ch).1 ++ keepBits (chc ch a.length) 0 (pieces w), ch.drop (a.length + 1))
  | [], ch => by
    simp only [List.nil_append, oddS, List.length_nil, List.append_nil]
    rw [show chc ch 0 = hd ch from by unfold chc; rw [List.drop_zero]]
    cases ch <;> rfl
  | x :: a, ch => by
    have ih := oddS_snoc w a ch.tail
    simp only [List.cons_append, oddS, List.length_cons]
    rw [ih]
    have e : ∀ k, chc ch.tail k = chc ch (k + 1) := fun k => by
      unfold chc
      cases ch <;> simp
    simp only [e, List.append_assoc]
    cases ch <;> simp
theorem oddS_rest : ∀ (a : List Wr) (ch : Bs), (oddS a ch).2 = ch.drop a.length
  | [], ch => by simp [oddS]
  | x :: a, ch => by
    simp only [oddS, List.length_cons]
    rw [oddS_rest a ch.tail]
    cases ch <;> simp
theorem oddS_take (d : Bs) (l : List Wr) (ch : Bs) (k : Nat) (h : k < l.length) : contents d (oddS (l.take (k + 1)) ch).1 = contents (contents d (oddS (l.take k) ch).1) (keepBits (chc ch k) 0 (pieces l[k])) := by
  rw [List.take_succ_eq_append_getElem h, oddS_snoc, contents_append, List.length_take, Nat.min_eq_left (by omega)]

/-- how many choices a file with pending writes takes -/
def used (pend : List Wr) (a : Nat) : Nat := if a % 2 = 0 then 3 else 1 + pend.length
theorem surv_rest (pend : List Wr) (l : Bs) (at0 : Nat) : (surv pend (l.drop at0)).2 = l.drop (at0 + used pend (chc l at0)) := by
  unfold surv used
  rw [hd_chc]
  split
  · unfold evenS
    simp only [List.tail_drop]
  · rw [oddS_rest, List.tail_drop, List.drop_drop]
    congr 1
    omega
theorem surv_even (d : Bs) (pend : List Wr) (l : Bs) (at0 : Nat) (h : chc l at0 % 2 = 0) (hpos : ∀ w ∈ pend, 0 < w.b.length) : contents d (surv pend (l.drop at0)).1 =
    match pend[chc l (at0 + 1) % (pend.length + 1)]? with
    | some w => rapply (contents d (pend.take (chc l (at0 + 1) % (pend.length + 1)))) w.off (w.b.take (chc l (at0 + 2) % (w.b.length + 1)))
    | none => contents d (pend.take (chc l (at0 + 1) % (pend.length + 1))) := by
  unfold surv
  rw [hd_chc, if_pos h]
  unfold evenS
  simp only [List.tail_drop, hd_chc, Nat.add_assoc, Nat.reduceAdd]
  cases hw : pend[chc l (at0 + 1) % (pend.length + 1)]? with
  | none => simp only [List.append_nil]
  | some w =>
    simp only []
    have hp := hpos w (List.mem_of_getElem? hw)
    generalize chc l (at0 + 2) % (w.b.length + 1) = k
    rcases Nat.eq_zero_or_pos k with rfl | hk
    · simp [rapply]
    · rw [if_pos hk, contents_snoc, rapply_pos _ _ _ (by rw [List.length_take]; omega)]
      rfl
theorem surv_odd (pend : List Wr) (l : Bs) (at0 : Nat) (h : ¬ chc l at0 % 2 = 0) : (surv pend (l.drop at0)).1 = (oddS pend (l.drop (at0 + 1))).1 := by
  unfold surv
  rw [hd_chc, if_neg h, List.tail_drop]

theorem restartFs_snoc (n : Bs) (f : Fl) : ∀ (a : List (Bs × Fl)) (ch : Bs), restartFs (a ++ [(n, f)]) ch =
    ((restartFs a ch).1 ++ [(n, if f.pend = [] then f else ⟨contents f.dur (surv f.pend (restartFs a ch).2).1, []⟩)], if f.pend = [] then (restartFs a ch).2 else (surv f.pend (restartFs a ch).2).2)
  | [], ch => by
    simp only [List.nil_append]
    show restartFs ((n, f) :: []) ch = _
    rw [restartFs]
    split
    · rename_i h; simp [restartFs, h]
    · rename_i h; simp [restartFs, h]
  | (m, g) :: a, ch => by
    simp only [List.cons_append]
    rw [restartFs, restartFs]
    split
    · rw [restartFs_snoc n f a ch]; simp
    · rw [restartFs_snoc n f a _]; simp
/-- one file more -/
theorem restart_step (fs gs : List (Bs × Fl)) (l : Bs) (i at0 : Nat) (n : Bs) (f : Fl) (hi : fs[i]? = some (n, f)) (h : restartFs (fs.take i) l = (gs, l.drop at0)) :
    restartFs (fs.take (i + 1)) l = (gs ++ [(n, if f.pend = [] then f else ⟨contents f.dur (surv f.pend (l.drop at0)).1, []⟩)], l.drop (if f.pend = [] then at0 else at0 + used f.pend (chc l at0))) := by
  have e : fs.take (i + 1) = fs.take i ++ [(n, f)] := by rw [List.take_add_one, hi]; rfl
  rw [e, restartFs_snoc, h]
  simp only []
  split
  · rfl
  · rw [surv_rest]

theorem contents_within {N : Nat} (d : Bs) (l : List Wr) (h1 : d.length ≤ N) (h2 : Within N l) : (contents d l).length ≤ N := by
  rw [sizeOf_contents]; exact within_sizeOf l _ h1 h2

end Go.Proofs.YtcbnbhlgikjbeaaGreatDoor.Dk
