/-
  Checkpoints, plain: what the methods of a store do to a disk.
-/
import Derived.Test.YtamencnachmhoaaGreatDoorCkPlain
import Derived.Test.YtamencnachmhoaaGreatDoorDkRename
namespace Go.Proofs.YtamencnachmhoaaGreatDoor.Ck
open Go

/-- a file goes, if it is there -/
def discard (d : Dk.D) (n : Bs) : Dk.D × Int := if d.names.contains n then d.remove n else (d, 0)
/-- the files of a store, with their numbers -/
def filesF (d : Dk.D) (nm : Bs) : List (Bs × Nat) := d.names.filterMap fun x => (numOf nm x).map fun n => (x, n)
/-- the data of a file, if it is intact -/
def loadF (d : Dk.D) (x : Bs × Nat) : Option Bs :=
  if (d.read x.1).2 ≠ 0 then none else if (decode (d.read x.1).1).2.2 = 0 ∧ (decode (d.read x.1).1).1 = x.2 then some (decode (d.read x.1).1).2.1 else none
def seqs (d : Dk.D) (nm : Bs) : List Nat := ((filesF d nm).filter fun x => (loadF d x).isSome).map (·.2)
/-- the first that is intact -/
def newest (d : Dk.D) : List (Bs × Nat) → Nat × Bs × Int
  | [] => (0, [], 9)
  | x :: r => match loadF d x with
    | some b => (x.2, b, 0)
    | none => newest d r
def load (d : Dk.D) (nm : Bs) : Nat × Bs × Int := if d.down then (0, [], 32) else newest d (filesF d nm).reverse
def thinL (e : Nat) : Nat → List (Bs × Nat) → Dk.D → Dk.D × Int
  | _, [], d => (d, 0)
  | i, x :: r, d => if e ≤ i + 2 ∧ i < e then thinL e (i + 1) r d else if (d.remove x.1).2 ≠ 0 then d.remove x.1 else thinL e (i + 1) r (d.remove x.1).1
/-- all files but the last two up to a number go -/
def thin (d : Dk.D) (nm : Bs) (n : Nat) : Dk.D × Int := thinL ((filesF d nm).takeWhile fun x => decide (x.2 ≤ n)).length 0 (filesF d nm) d
/-- one of Save's six steps -/
def step (nm : Bs) (n : Nat) (b : Bs) (k : Nat) (d : Dk.D) : Dk.D × Int := match k with
  | 0 => discard d (tmpName nm)
  | 1 => d.create (tmpName nm)
  | 2 => d.write (tmpName nm) (fun m => m) b
  | 3 => d.sync (tmpName nm)
  | 4 => d.rename (tmpName nm) (fileName nm n)
  | _ => thin d nm n
def stepsL (nm : Bs) (n : Nat) (b : Bs) : List Nat → Dk.D → Dk.D × Int
  | [], d => (d, 0)
  | k :: ks, d => if (step nm n b k d).2 ≠ 0 then step nm n b k d else stepsL nm n b ks (step nm n b k d).1
def save (d : Dk.D) (nm : Bs) (n : Int) (data : Bs) : Dk.D × Int :=
  if n < 0 ∨ 1000000000 < n then (d, 2) else if 1000000 < data.length then (d, 5) else if d.down then (d, 32)
  else if (seqs d nm).any (fun m => decide (n ≤ (m : Int))) then (d, 23) else stepsL nm n.toNat (encode n.toNat data) [0, 1, 2, 3, 4, 5] d
def openC (d : Dk.D) (nm : Bs) : Dk.D × Int := if Wl.validP nm = false then (d, 6) else if d.down then (d, 32) else discard d (tmpName nm)

/-! ### order -/
theorem before_cons_lt {a b : UInt8} (s t : Bs) (h : a < b) : bytesBefore (a :: s) (b :: t) = true := by simp [bytesBefore, h]
theorem before_irrefl : ∀ s : Bs, bytesBefore s s = false
  | [] => rfl
  | a :: s => by simp [bytesBefore, before_irrefl s]
theorem before_asymm : ∀ (s t : Bs), bytesBefore s t = true → bytesBefore t s = false
  | [], [], h => by simp [bytesBefore] at h
  | [], _ :: _, _ => rfl
  | _ :: _, [], h => by simp [bytesBefore] at h
  | a :: s, b :: t, h => by
    simp only [bytesBefore] at h ⊢
    by_cases h1 : a < b
    · have h2 : ¬ b < a := fun h => by have := UInt8.lt_iff_toNat_lt.1 h; have := UInt8.lt_iff_toNat_lt.1 h1; omega
      have h3 : ¬ b = a := fun e => by subst e; exact absurd h1 (by simp)
      simp [h2, h3]
    · simp only [h1, decide_false, Bool.false_or, Bool.and_eq_true, beq_iff_eq] at h
      obtain ⟨rfl, h⟩ := h
      simp [before_asymm s t h]
theorem before_ext : ∀ (s t u v : Bs), s.length = t.length → bytesBefore s t = true → bytesBefore (s ++ u) (t ++ v) = true
  | [], [], _, _, _, h => by simp [bytesBefore] at h
  | a :: s, b :: t, u, v, hl, h => by
    simp only [List.cons_append, bytesBefore] at h ⊢
    by_cases h1 : a < b
    · simp [h1]
    · simp only [h1, decide_false, Bool.false_or, Bool.and_eq_true, beq_iff_eq] at h ⊢
      exact ⟨h.1, before_ext s t u v (by simpa using hl) h.2⟩
theorem file_before_file {nm : Bs} {m n : Nat} (hn : n < 10000000000) (h : m < n) : bytesBefore (fileName nm m) (fileName nm n) = true :=
  before_ext _ _ _ _ (by rw [Wl.name_length (by omega), Wl.name_length hn]) (Wl.name_before hn h)
theorem file_before_tmp (nm : Bs) (n : Nat) : bytesBefore (fileName nm n) (tmpName nm) = true := by
  unfold fileName tmpName Wl.name
  rw [List.append_assoc]
  exact Wl.before_append nm _ _ (before_cons_lt _ _ (by decide))
theorem file_ne_tmp (nm : Bs) (n : Nat) : fileName nm n ≠ tmpName nm := fun e => by
  have := file_before_tmp nm n
  rw [e, before_irrefl] at this
  cases this
theorem ins_at {n : Bs} {f : Dk.Fl} : ∀ {pre post : List (Bs × Dk.Fl)}, (∀ x ∈ pre, bytesBefore x.1 n = true) → (∀ x ∈ post, bytesBefore n x.1 = true) → Dk.ins n f (pre ++ post) = pre ++ (n, f) :: post
  | [], post, _, h2 => by
    unfold Dk.ins
    cases post with
    | nil => rfl
    | cons y r =>
      show Dk.insBy Prod.fst (n, f) (y :: r) = _
      rw [Dk.insBy, if_pos (h2 y (by simp))]
      rfl
  | x :: pre, post, h1, h2 => by
    have ih := ins_at (n := n) (f := f) (pre := pre) (post := post) (fun y hy => h1 y (by simp [hy])) h2
    unfold Dk.ins at ih ⊢
    rw [List.cons_append, Dk.insBy, if_neg (by rw [before_asymm _ _ (h1 x (by simp))]; simp), ih]
    rfl
theorem find_at {n : Bs} {f : Dk.Fl} : ∀ {pre post : List (Bs × Dk.Fl)}, (∀ x ∈ pre, x.1 ≠ n) → Dk.find n (pre ++ (n, f) :: post) = some f
  | [], post, _ => by unfold Dk.find; simp
  | x :: pre, post, h1 => by
    have ih := find_at (n := n) (f := f) (pre := pre) (post := post) (fun y hy => h1 y (by simp [hy]))
    unfold Dk.find at ih ⊢
    rw [List.cons_append, List.find?_cons, beq_eq_false_iff_ne.2 (h1 x (by simp))]
    exact ih
theorem find_no {n : Bs} {fs : List (Bs × Dk.Fl)} (h : ∀ x ∈ fs, x.1 ≠ n) : Dk.find n fs = none := by
  unfold Dk.find
  rw [List.find?_eq_none.2 (fun x hx => by simpa using h x hx)]
  rfl
theorem del_at {n : Bs} {f : Dk.Fl} {pre post : List (Bs × Dk.Fl)} (h1 : ∀ x ∈ pre, x.1 ≠ n) (h2 : ∀ x ∈ post, x.1 ≠ n) : Dk.del n (pre ++ (n, f) :: post) = pre ++ post := by
  unfold Dk.del
  rw [List.filter_append, List.filter_cons, if_neg (by simp), List.filter_eq_self.2 (fun x hx => by simpa using h1 x hx), List.filter_eq_self.2 (fun x hx => by simpa using h2 x hx)]
theorem del_no {n : Bs} {fs : List (Bs × Dk.Fl)} (h : ∀ x ∈ fs, x.1 ≠ n) : Dk.del n fs = fs := by
  unfold Dk.del
  exact List.filter_eq_self.2 (fun x hx => by simpa using h x hx)
theorem upd_at {n : Bs} {f g : Dk.Fl} {pre post : List (Bs × Dk.Fl)} (h1 : ∀ x ∈ pre, x.1 ≠ n) (h2 : ∀ x ∈ post, x.1 ≠ n) : Dk.upd n g (pre ++ (n, f) :: post) = pre ++ (n, g) :: post := by
  unfold Dk.upd
  rw [List.map_append, List.map_cons, if_pos (by simp)]
  have e : ∀ l : List (Bs × Dk.Fl), (∀ x ∈ l, x.1 ≠ n) → l.map (fun p => if p.1 == n then (n, g) else p) = l := fun l h => by
    conv => rhs; rw [← List.map_id l]
    exact List.map_congr_left (fun x hx => by rw [if_neg (by simpa using h x hx)]; rfl)
  rw [e pre h1, e post h2]
theorem before_ne {s t : Bs} (h : bytesBefore s t = true) : s ≠ t := fun e => by rw [e, before_irrefl] at h; cases h

end Go.Proofs.YtamencnachmhoaaGreatDoor.Ck
