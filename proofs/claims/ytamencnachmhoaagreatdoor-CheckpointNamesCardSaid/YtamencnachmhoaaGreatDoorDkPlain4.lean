/-
  THE DISK, PLAIN: files as lists of bytes with pending writes; what each operation makes of them. No program in sight.
  THE DISK, PLAIN, MORE: the list of files by name.
  THE DISK, PLAIN: its operations.
  THE DISK, PLAIN: what survives a crash.
-/
import Derived.PlainAid
import Derived.Maps.Ext
import Derived.Lib.SlTrimSet
namespace Go.Proofs.YtamencnachmhoaaGreatDoor.Dk

abbrev Bs := List UInt8

/-- a pending write -/
structure Wr where
  off : Nat
  b : Bs

/-- a file -/
structure Fl where
  dur : Bs
  pend : List Wr

/-- bytes laid over contents, zeros in a gap -/
def over (c : Bs) (off : Nat) (b : Bs) : Bs :=
  (c ++ List.replicate (off + b.length - c.length) 0).take off ++ b ++ (c ++ List.replicate (off + b.length - c.length) 0).drop (off + b.length)

def Wr.apply (w : Wr) (c : Bs) : Bs := over c w.off w.b
def contents (d : Bs) (l : List Wr) : Bs := l.foldl (fun c w => w.apply c) d
def Fl.contents (f : Fl) : Bs := Dk.contents f.dur f.pend

theorem over_length (c : Bs) (off : Nat) (b : Bs) : (over c off b).length = max c.length (off + b.length) := by
  unfold over
  simp only [List.length_append, List.length_take, List.length_drop, List.length_replicate]
  omega
theorem over_end (c b : Bs) : over c c.length b = c ++ b := by
  unfold over
  rw [List.take_append_of_le_length (Nat.le_refl _), List.take_length, List.drop_of_length_le (by simp)]
  simp
theorem contents_nil (d : Bs) : contents d [] = d := rfl
theorem contents_cons (d : Bs) (w : Wr) (l : List Wr) : contents d (w :: l) = contents (w.apply d) l := rfl
theorem contents_snoc (d : Bs) (l : List Wr) (w : Wr) : contents d (l ++ [w]) = w.apply (contents d l) := by
  unfold contents; rw [List.foldl_append]; rfl
theorem contents_append (d : Bs) (l m : List Wr) : contents d (l ++ m) = contents (contents d l) m := by
  unfold contents; rw [List.foldl_append]
theorem contents_take (d : Bs) (l : List Wr) (k : Nat) (h : k < l.length) : contents d (l.take (k + 1)) = (l[k]).apply (contents d (l.take k)) := by
  rw [List.take_succ_eq_append_getElem h, contents_snoc]

/-- the size, reckoned without the bytes -/
def sizeOf' (n : Nat) (l : List Wr) : Nat := l.foldl (fun n w => max n (w.off + w.b.length)) n
theorem sizeOf_contents (l : List Wr) : ∀ d : Bs, (contents d l).length = sizeOf' d.length l := by
  induction l with
  | nil => intro d; rfl
  | cons w l ih =>
    intro d
    rw [contents_cons, ih, Wr.apply, over_length]
    rfl
theorem sizeOf_take (n : Nat) (l : List Wr) (k : Nat) (h : k < l.length) : sizeOf' n (l.take (k + 1)) = max (sizeOf' n (l.take k)) ((l[k]).off + (l[k]).b.length) := by
  rw [List.take_succ_eq_append_getElem h, sizeOf', List.foldl_append]; rfl
theorem sizeOf_le (n : Nat) (l : List Wr) : ∀ k, sizeOf' n (l.take k) ≤ sizeOf' n l := by
  have mono : ∀ (l : List Wr) (a b : Nat), a ≤ b → sizeOf' a l ≤ sizeOf' b l := by
    intro l
    induction l with
    | nil => intro a b h; exact h
    | cons w l ih => intro a b h; exact ih (max a (w.off + w.b.length)) (max b (w.off + w.b.length)) (by omega)
  have ge : ∀ (l : List Wr) (a : Nat), a ≤ sizeOf' a l := by
    intro l
    induction l with
    | nil => intro a; exact Nat.le_refl _
    | cons w l ih => intro a; exact Nat.le_trans (Nat.le_max_left _ _) (ih _)
  intro k
  conv => rhs; rw [← List.take_append_drop k l]
  unfold sizeOf'
  rw [List.foldl_append]
  exact ge _ _

end Go.Proofs.YtamencnachmhoaaGreatDoor.Dk

namespace Go.Proofs.YtamencnachmhoaaGreatDoor.Dk
open Go

/-- inserts by a key, ahead of the first greater one -/
def insBy {α : Type} (key : α → Bs) (x : α) : List α → List α
  | [] => [x]
  | y :: r => if bytesBefore (key x) (key y) then x :: y :: r else y :: insBy key x r

theorem insBy_perm {α : Type} (key : α → Bs) (x : α) : ∀ l : List α, (insBy key x l).Perm (x :: l)
  | [] => List.Perm.refl _
  | y :: r => by
    unfold insBy
    split
    · exact List.Perm.refl _
    · exact ((insBy_perm key x r).cons y).trans (List.Perm.swap x y r)
theorem insBy_map {α β : Type} (key : α → Bs) (key' : β → Bs) (f : α → β) (hk : ∀ a, key' (f a) = key a) (x : α) : ∀ l : List α, (insBy key x l).map f = insBy key' (f x) (l.map f)
  | [] => rfl
  | y :: r => by
    show (if bytesBefore (key x) (key y) then x :: y :: r else y :: insBy key x r).map f = if bytesBefore (key' (f x)) (key' (f y)) then f x :: f y :: r.map f else f y :: insBy key' (f x) (r.map f)
    rw [hk, hk]
    split
    · rfl
    · rw [List.map_cons, insBy_map key key' f hk x r]

structure D where
  fs : List (Bs × Fl)
  bud : Int
  down : Bool

def find (n : Bs) (fs : List (Bs × Fl)) : Option Fl := (fs.find? (fun p => p.1 == n)).map (·.2)
def del (n : Bs) (fs : List (Bs × Fl)) : List (Bs × Fl) := fs.filter (fun p => !(p.1 == n))
def ins (n : Bs) (f : Fl) (fs : List (Bs × Fl)) : List (Bs × Fl) := insBy Prod.fst (n, f) fs
def upd (n : Bs) (f : Fl) (fs : List (Bs × Fl)) : List (Bs × Fl) := fs.map fun p => if p.1 == n then (n, f) else p

end Go.Proofs.YtamencnachmhoaaGreatDoor.Dk

namespace Go.Proofs.YtamencnachmhoaaGreatDoor.Dk
open Go

def nameBytes : List UInt8 := [97, 98, 99, 100, 101, 102, 103, 104, 105, 106, 107, 108, 109, 110, 111, 112, 113, 114, 115, 116, 117, 118, 119, 120, 121, 122, 48, 49, 50, 51, 52, 53, 54, 55, 56, 57, 46, 45, 95]
def valid (l : List UInt8) : Bool := !l.isEmpty && decide (l.length ≤ 64) && (Lib.trimS l nameBytes).isEmpty

/-- a modifying operation whose check is passed -/
def D.modify (d : D) (fs : List (Bs × Fl)) : D × Int :=
  if d.bud = 0 then ({ d with down := true }, 32) else ({ d with fs := fs, bud := if 0 < d.bud then d.bud - 1 else d.bud }, 0)

def createCheck (d : D) (n : Bs) : Int :=
  if valid n = false then 6 else if (find n d.fs).isSome then 7 else if 256 ≤ d.fs.length then 8 else 0
def D.create (d : D) (n : Bs) : D × Int :=
  if d.down then (d, 32) else if createCheck d n ≠ 0 then (d, createCheck d n) else d.modify (ins n ⟨[], []⟩ d.fs)

def D.sync (d : D) (n : Bs) : D × Int :=
  if d.down then (d, 32) else match find n d.fs with
    | none => (d, 9)
    | some f => d.modify (upd n ⟨f.contents, []⟩ d.fs)

/-- what a write's check says; pos: the offset out of the size -/
def writeCheck (d : D) (n : Bs) (pos : Nat → Int) (b : Bs) : Int := match find n d.fs with
  | none => 9
  | some f => if pos f.contents.length < 0 ∨ 16777216 - (b.length : Int) < pos f.contents.length then 2 else 0
def D.write (d : D) (n : Bs) (pos : Nat → Int) (b : Bs) : D × Int :=
  if d.down then (d, 32) else if writeCheck d n pos b ≠ 0 then (d, writeCheck d n pos b) else if b = [] then (d, 0) else match find n d.fs with
    | none => (d, 9)
    | some f => d.modify (upd n ⟨f.dur, f.pend ++ [⟨(pos f.contents.length).toNat, b⟩]⟩ d.fs)

def D.read (d : D) (n : Bs) : Bs × Int :=
  if d.down then ([], 32) else match find n d.fs with
    | none => ([], 9)
    | some f => (f.contents, 0)

end Go.Proofs.YtamencnachmhoaaGreatDoor.Dk

namespace Go.Proofs.YtamencnachmhoaaGreatDoor.Dk
open Go

def hd : Bs → Nat
  | [] => 0
  | c :: _ => c.toNat
theorem hd_lt (l : Bs) : hd l < 256 := by
  cases l with
  | nil => exact Nat.zero_lt_succ _
  | cons c r => exact c.toNat_lt

/-- a write's pieces, cut at multiples of 512 -/
def piecesF : Nat → Nat → Bs → List Wr
  | 0, _, _ => []
  | k + 1, a, b => if b = [] then [] else ⟨a, b.take (min b.length (512 - a % 512))⟩ :: piecesF k (a + min b.length (512 - a % 512)) (b.drop (min b.length (512 - a % 512)))
def pieces (w : Wr) : List Wr := piecesF w.b.length w.off w.b

theorem piecesF_step (k a : Nat) (b : Bs) (hb : b ≠ []) : piecesF (k + 1) a b = ⟨a, b.take (min b.length (512 - a % 512))⟩ :: piecesF k (a + min b.length (512 - a % 512)) (b.drop (min b.length (512 - a % 512))) := by
  show (if b = [] then _ else _) = _
  rw [if_neg hb]
theorem piecesF_nil (k a : Nat) : piecesF k a [] = [] := by
  cases k with
  | zero => rfl
  | succ k => show (if ([] : Bs) = [] then [] else _) = []; rw [if_pos rfl]
/-- more fuel than bytes makes no difference -/
theorem piecesF_fuel : ∀ (k k' a : Nat) (b : Bs), b.length ≤ k → b.length ≤ k' → piecesF k a b = piecesF k' a b
  | 0, k', a, b, h, _ => by
    obtain rfl : b = [] := List.eq_nil_of_length_eq_zero (by omega)
    rw [piecesF_nil, piecesF_nil]
  | k + 1, 0, a, b, _, h => by
    obtain rfl : b = [] := List.eq_nil_of_length_eq_zero (by omega)
    rw [piecesF_nil, piecesF_nil]
  | k + 1, k' + 1, a, b, h, h' => by
    by_cases hb : b = []
    · subst hb; rw [piecesF_nil, piecesF_nil]
    · have hp : 0 < b.length := List.length_pos_iff.2 hb
      rw [piecesF_step k a b hb, piecesF_step k' a b hb, piecesF_fuel k k' _ _ (by rw [List.length_drop]; omega) (by rw [List.length_drop]; omega)]
theorem piecesF_le : ∀ (k a : Nat) (b : Bs), (piecesF k a b).length ≤ b.length
  | 0, _, _ => Nat.zero_le _
  | k + 1, a, b => by
    by_cases hb : b = []
    · subst hb; rw [piecesF_nil]; exact Nat.le_refl _
    · have hp : 0 < b.length := List.length_pos_iff.2 hb
      rw [piecesF_step k a b hb, List.length_cons]
      have := piecesF_le k (a + min b.length (512 - a % 512)) (b.drop (min b.length (512 - a % 512)))
      rw [List.length_drop] at this
      omega

def keepBits (m i : Nat) : List Wr → List Wr
  | [] => []
  | p :: r => if (m >>> (i % 8)) % 2 = 1 then p :: keepBits m (i + 1) r else keepBits m (i + 1) r
theorem keepBits_le (m : Nat) : ∀ (i : Nat) (l : List Wr), (keepBits m i l).length ≤ l.length
  | _, [] => Nat.le_refl _
  | i, p :: r => by
    unfold keepBits
    have := keepBits_le m (i + 1) r
    split <;> simp only [List.length_cons] <;> omega
theorem keepBits_mem (m : Nat) : ∀ (i : Nat) (l : List Wr), ∀ x ∈ keepBits m i l, x ∈ l
  | _, [], x, h => h
  | i, p :: r, x, h => by
    unfold keepBits at h
    split at h
    · rcases List.mem_cons.1 h with rfl | h
      · simp
      · exact List.mem_cons_of_mem _ (keepBits_mem m _ r x h)
    · exact List.mem_cons_of_mem _ (keepBits_mem m _ r x h)
theorem keepBits_snoc (m : Nat) (p : Wr) : ∀ (i : Nat) (l : List Wr), keepBits m i (l ++ [p]) = keepBits m i l ++ (if (m >>> ((i + l.length) % 8)) % 2 = 1 then [p] else [])
  | i, [] => by simp [keepBits]
  | i, x :: r => by
    have ih := keepBits_snoc m p (i + 1) r
    simp only [List.cons_append, keepBits, List.length_cons]
    rw [ih, show i + 1 + r.length = i + (r.length + 1) by omega]
    split <;> simp

def evenS (l : List Wr) (ch : Bs) : List Wr × Bs :=
  (l.take (hd ch % (l.length + 1)) ++ (match l[hd ch % (l.length + 1)]? with
    | some w => if 0 < hd ch.tail % (w.b.length + 1) then [⟨w.off, w.b.take (hd ch.tail % (w.b.length + 1))⟩] else []
    | none => []), ch.tail.tail)
def oddS : List Wr → Bs → List Wr × Bs
  | [], ch => ([], ch)
  | w :: l, ch => (keepBits (hd ch) 0 (pieces w) ++ (oddS l ch.tail).1, (oddS l ch.tail).2)
def surv (l : List Wr) (ch : Bs) : List Wr × Bs := if hd ch % 2 = 0 then evenS l ch.tail else oddS l ch.tail

/-- all within a bound, none empty -/
def Within (N : Nat) (l : List Wr) : Prop := ∀ w ∈ l, 0 < w.b.length ∧ w.off + w.b.length ≤ N
theorem within_sizeOf {N : Nat} : ∀ (l : List Wr) (n : Nat), n ≤ N → Within N l → sizeOf' n l ≤ N
  | [], _, h, _ => h
  | w :: l, n, h, hw => within_sizeOf l (max n (w.off + w.b.length)) (by have := (hw w (by simp)).2; omega) (fun x hx => hw x (by simp [hx]))
theorem piecesF_within : ∀ (k a : Nat) (b : Bs) (N : Nat), a + b.length ≤ N → Within N (piecesF k a b)
  | 0, _, _, _, _, w, hw => by cases hw
  | k + 1, a, b, N, h, w, hw => by
    by_cases hb : b = []
    · subst hb; rw [piecesF_nil] at hw; cases hw
    · have hp : 0 < b.length := List.length_pos_iff.2 hb
      rw [piecesF_step k a b hb] at hw
      rcases List.mem_cons.1 hw with rfl | hw
      · simp only [List.length_take]
        omega
      · exact piecesF_within k _ _ N (by rw [List.length_drop]; omega) w hw
theorem evenS_within {N : Nat} {l : List Wr} (h : Within N l) (ch : Bs) : Within N (evenS l ch).1 := by
  intro w hw
  simp only [evenS, List.mem_append] at hw
  rcases hw with hw | hw
  · exact h w (List.mem_of_mem_take hw)
  · split at hw
    · rename_i v hv
      have := h v (List.mem_of_getElem? hv)
      split at hw
      · simp only [List.mem_singleton] at hw
        subst hw
        simp only [List.length_take]
        omega
      · cases hw
    · cases hw
theorem oddS_within {N : Nat} : ∀ (l : List Wr) (ch : Bs), Within N l → Within N (oddS l ch).1
  | [], _, _, w, hw => by cases hw
  | x :: l, ch, h, w, hw => by
    simp only [oddS, List.mem_append] at hw
    rcases hw with hw | hw
    · exact piecesF_within _ _ _ N (h x (by simp)).2 w (keepBits_mem _ _ _ w hw)
    · exact oddS_within l ch.tail (fun y hy => h y (by simp [hy])) w hw
theorem surv_within {N : Nat} {l : List Wr} (h : Within N l) (ch : Bs) : Within N (surv l ch).1 := by
  unfold surv
  split
  · exact evenS_within h _
  · exact oddS_within l _ h

def restartFs : List (Bs × Fl) → Bs → List (Bs × Fl) × Bs
  | [], ch => ([], ch)
  | (n, f) :: r, ch => if f.pend = [] then ((n, f) :: (restartFs r ch).1, (restartFs r ch).2)
    else ((n, ⟨contents f.dur (surv f.pend ch).1, []⟩) :: (restartFs r (surv f.pend ch).2).1, (restartFs r (surv f.pend ch).2).2)
def D.restart (d : D) (ch : Bs) : D × Int := if d.down then (⟨(restartFs d.fs ch).1, -1, false⟩, 0) else (d, 10)

end Go.Proofs.YtamencnachmhoaaGreatDoor.Dk
