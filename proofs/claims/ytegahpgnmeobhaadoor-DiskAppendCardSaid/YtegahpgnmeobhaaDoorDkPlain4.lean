/-
  THE DISK, PLAIN: what survives a crash.
-/
import Derived.Test.YtegahpgnmeobhaaDoorDkPlain3
namespace Go.Proofs.YtegahpgnmeobhaaDoor.Dk
open Go

def hd : Bs → Nat
  | [] => 0
  | c :: _ => c.toNat
theorem hd_lt (l : Bs) : hd l < 256 := by
  cases l with
  | nil => exact Nat.zero_lt_succ _
  | cons c r => exact c.toNat_lt

/-- a write's pieces, cut at multiples of 512 -/
def piecesF : Nat → Nat → Bs → List Wr
  | 0, _, _ => []
  | k + 1, a, b => if b = [] then [] else ⟨a, b.take (min b.length (512 - a % 512))⟩ :: piecesF k (a + min b.length (512 - a % 512)) (b.drop (min b.length (512 - a % 512)))
def pieces (w : Wr) : List Wr := piecesF w.b.length w.off w.b

theorem piecesF_step (k a : Nat) (b : Bs) (hb : b ≠ []) : piecesF (k + 1) a b = ⟨a, b.take (min b.length (512 - a % 512))⟩ :: piecesF k (a + min b.length (512 - a % 512)) (b.drop (min b.length (512 - a % 512))) := by
  show (if b = [] then _ else _) = _
  rw [if_neg hb]
theorem piecesF_nil (k a : Nat) : piecesF k a [] = [] := by
  cases k with
  | zero => rfl
  | succ k => show (if ([] : Bs) = [] then [] else _) = []; rw [if_pos rfl]
/-- more fuel than bytes makes no difference -/
theorem piecesF_fuel : ∀ (k k' a : Nat) (b : Bs), b.length ≤ k → b.length ≤ k' → piecesF k a b = piecesF k' a b
  | 0, k', a, b, h, _ => by
    obtain rfl : b = [] := List.eq_nil_of_length_eq_zero (by omega)
    rw [piecesF_nil, piecesF_nil]
  | k + 1, 0, a, b, _, h => by
    obtain rfl : b = [] := List.eq_nil_of_length_eq_zero (by omega)
    rw [piecesF_nil, piecesF_nil]
  | k + 1, k' + 1, a, b, h, h' => by
    by_cases hb : b = []
    · subst hb; rw [piecesF_nil, piecesF_nil]
    · have hp : 0 < b.length := List.length_pos_iff.2 hb
      rw [piecesF_step k a b hb, piecesF_step k' a b hb, piecesF_fuel k k' _ _ (by rw [List.length_drop]; omega) (by rw [List.length_drop]; omega)]
theorem piecesF_le : ∀ (k a : Nat) (b : Bs), (piecesF k a b).length ≤ b.length
  | 0, _, _ => Nat.zero_le _
  | k + 1, a, b => by
    by_cases hb : b = []
    · subst hb; rw [piecesF_nil]; exact Nat.le_refl _
    · have hp : 0 < b.length := List.length_pos_iff.2 hb
      rw [piecesF_step k a b hb, List.length_cons]
      have := piecesF_le k (a + min b.length (512 - a % 512)) (b.drop (min b.length (512 - a % 512)))
      rw [List.length_drop] at this
      omega

def keepBits (m i : Nat) : List Wr → List Wr
  | [] => []
  | p :: r => if (m >>> (i % 8)) % 2 = 1 then p :: keepBits m (i + 1) r else keepBits m (i + 1) r
theorem keepBits_le (m : Nat) : ∀ (i : Nat) (l : List Wr), (keepBits m i l).length ≤ l.length
  | _, [] => Nat.le_refl _
  | i, p :: r => by
    unfold keepBits
    have := keepBits_le m (i + 1) r
    split <;> simp only [List.length_cons] <;> omega
theorem keepBits_mem (m : Nat) : ∀ (i : Nat) (l : List Wr), ∀ x ∈ keepBits m i l, x ∈ l
  | _, [], x, h => h
  | i, p :: r, x, h => by
    unfold keepBits at h
    split at h
    · rcases List.mem_cons.1 h with rfl | h
      · simp
      · exact List.mem_cons_of_mem _ (keepBits_mem m _ r x h)
    · exact List.mem_cons_of_mem _ (keepBits_mem m _ r x h)
theorem keepBits_snoc (m : Nat) (p : Wr) : ∀ (i : Nat) (l : List Wr), keepBits m i (l ++ [p]) = keepBits m i l ++ (if (m >>> ((i + l.length) % 8)) % 2 = 1 then [p] else [])
  | i, [] => by simp [keepBits]
  | i, x :: r => by
    have ih := keepBits_snoc m p (i + 1) r
    simp only [List.cons_append, keepBits, List.length_cons]
    rw [ih, show i + 1 + r.length = i + (r.length + 1) by omega]
    split <;> simp

def evenS (l : List Wr) (ch : Bs) : List Wr × Bs :=
  (l.take (hd ch % (l.length + 1)) ++ (match l[hd ch % (l.length + 1)]? with
    | some w => if 0 < hd ch.tail % (w.b.length + 1) then [⟨w.off, w.b.take (hd ch.tail % (w.b.length + 1))⟩] else []
    | none => []), ch.tail.tail)
def oddS : List Wr → Bs → List Wr × Bs
  | [], ch => ([], ch)
  | w :: l, ch => (keepBits (hd ch) 0 (pieces w) ++ (oddS l ch.tail).1, (oddS l ch.tail).2)
def surv (l : List Wr) (ch : Bs) : List Wr × Bs := if hd ch % 2 = 0 then evenS l ch.tail else oddS l ch.tail

/-- all within a bound, none empty -/
def Within (N : Nat) (l : List Wr) : Prop := ∀ w ∈ l, 0 < w.b.length ∧ w.off + w.b.length ≤ N
theorem within_sizeOf {N : Nat} : ∀ (l : List Wr) (n : Nat), n ≤ N → Within N l → sizeOf' n l ≤ N
  | [], _, h, _ => h
  | w :: l, n, h, hw => within_sizeOf l (max n (w.off + w.b.length)) (by have := (hw w (by simp)).2; omega) (fun x hx => hw x (by simp [hx]))
theorem piecesF_within : ∀ (k a : Nat) (b : Bs) (N : Nat), a + b.length ≤ N → Within N (piecesF k a b)
  | 0, _, _, _, _, w, hw => by cases hw
  | k + 1, a, b, N, h, w, hw => by
    by_cases hb : b = []
    · subst hb; rw [piecesF_nil] at hw; cases hw
    · have hp : 0 < b.length := List.length_pos_iff.2 hb
      rw [piecesF_step k a b hb] at hw
      rcases List.mem_cons.1 hw with rfl | hw
      · simp only [List.length_take]
        omega
      · exact piecesF_within k _ _ N (by rw [List.length_drop]; omega) w hw
theorem evenS_within {N : Nat} {l : List Wr} (h : Within N l) (ch : Bs) : Within N (evenS l ch).1 := by
  intro w hw
  simp only [evenS, List.mem_append] at hw
  rcases hw with hw | hw
  · exact h w (List.mem_of_mem_take hw)
  · split at hw
    · rename_i v hv
      have := h v (List.mem_of_getElem? hv)
      split at hw
      · simp only [List.mem_singleton] at hw
        subst hw
        simp only [List.length_take]
        omega
      · cases hw
    · cases hw
theorem oddS_within {N : Nat} : ∀ (l : List Wr) (ch : Bs), Within N l → Within N (oddS l ch).1
  | [], _, _, w, hw => by cases hw
  | x :: l, ch, h, w, hw => by
    simp only [oddS, List.mem_append] at hw
    rcases hw with hw | hw
    · exact piecesF_within _ _ _ N (h x (by simp)).2 w (keepBits_mem _ _ _ w hw)
    · exact oddS_within l ch.tail (fun y hy => h y (by simp [hy])) w hw
theorem surv_within {N : Nat} {l : List Wr} (h : Within N l) (ch : Bs) : Within N (surv l ch).1 := by
  unfold surv
  split
  · exact evenS_within h _
  · exact oddS_within l _ h

def restartFs : List (Bs × Fl) → Bs → List (Bs × Fl) × Bs
  | [], ch => ([], ch)
  | (n, f) :: r, ch => if f.pend = [] then ((n, f) :: (restartFs r ch).1, (restartFs r ch).2)
    else ((n, ⟨contents f.dur (surv f.pend ch).1, []⟩) :: (restartFs r (surv f.pend ch).2).1, (restartFs r (surv f.pend ch).2).2)
def D.restart (d : D) (ch : Bs) : D × Int := if d.down then (⟨(restartFs d.fs ch).1, -1, false⟩, 0) else (d, 10)

end Go.Proofs.YtegahpgnmeobhaaDoor.Dk
