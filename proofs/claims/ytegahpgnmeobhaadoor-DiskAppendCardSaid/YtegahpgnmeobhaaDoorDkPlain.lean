/-
  THE DISK, PLAIN: files as lists of bytes with pending writes; what each operation makes of them. No program in sight.
-/
import Derived.PlainAid
namespace Go.Proofs.YtegahpgnmeobhaaDoor.Dk

abbrev Bs := List UInt8

/-- a pending write -/
structure Wr where
  off : Nat
  b : Bs

/-- a file -/
structure Fl where
  dur : Bs
  pend : List Wr

/-- bytes laid over contents, zeros in a gap -/
def over (c : Bs) (off : Nat) (b : Bs) : Bs :=
  (c ++ List.replicate (off + b.length - c.length) 0).take off ++ b ++ (c ++ List.replicate (off + b.length - c.length) 0).drop (off + b.length)

def Wr.apply (w : Wr) (c : Bs) : Bs := over c w.off w.b
def contents (d : Bs) (l : List Wr) : Bs := l.foldl (fun c w => w.apply c) d
def Fl.contents (f : Fl) : Bs := Dk.contents f.dur f.pend

theorem over_length (c : Bs) (off : Nat) (b : Bs) : (over c off b).length = max c.length (off + b.length) := by
  unfold over
  simp only [List.length_append, List.length_take, List.length_drop, List.length_replicate]
  omega
theorem over_end (c b : Bs) : over c c.length b = c ++ b := by
  unfold over
  rw [List.take_append_of_le_length (Nat.le_refl _), List.take_length, List.drop_of_length_le (by simp)]
  simp
theorem contents_nil (d : Bs) : contents d [] = d := rfl
theorem contents_cons (d : Bs) (w : Wr) (l : List Wr) : contents d (w :: l) = contents (w.apply d) l := rfl
theorem contents_snoc (d : Bs) (l : List Wr) (w : Wr) : contents d (l ++ [w]) = w.apply (contents d l) := by
  unfold contents; rw [List.foldl_append]; rfl
theorem contents_append (d : Bs) (l m : List Wr) : contents d (l ++ m) = contents (contents d l) m := by
  unfold contents; rw [List.foldl_append]
theorem contents_take (d : Bs) (l : List Wr) (k : Nat) (h : k < l.length) : contents d (l.take (k + 1)) = (l[k]).apply (contents d (l.take k)) := by
  rw [List.take_succ_eq_append_getElem h, contents_snoc]

/-- the size, reckoned without the bytes -/
def sizeOf' (n : Nat) (l : List Wr) : Nat := l.foldl (fun n w => max n (w.off + w.b.length)) n
theorem sizeOf_contents (l : List Wr) : ∀ d : Bs, (contents d l).length = sizeOf' d.length l := by
  induction l with
  | nil => intro d; rfl
  | cons w l ih =>
    intro d
    rw [contents_cons, ih, Wr.apply, over_length]
    rfl
theorem sizeOf_take (n : Nat) (l : List Wr) (k : Nat) (h : k < l.length) : sizeOf' n (l.take (k + 1)) = max (sizeOf' n (l.take k)) ((l[k]).off + (l[k]).b.length) := by
  rw [List.take_succ_eq_append_getElem h, sizeOf', List.foldl_append]; rfl
theorem sizeOf_le (n : Nat) (l : List Wr) : ∀ k, sizeOf' n (l.take k) ≤ sizeOf' n l := by
  have mono : ∀ (l : List Wr) (a b : Nat), a ≤ b → sizeOf' a l ≤ sizeOf' b l := by
    intro l
    induction l with
    | nil => intro a b h; exact h
    | cons w l ih => intro a b h; exact ih (max a (w.off + w.b.length)) (max b (w.off + w.b.length)) (by omega)
  have ge : ∀ (l : List Wr) (a : Nat), a ≤ sizeOf' a l := by
    intro l
    induction l with
    | nil => intro a; exact Nat.le_refl _
    | cons w l ih => intro a; exact Nat.le_trans (Nat.le_max_left _ _) (ih _)
  intro k
  conv => rhs; rw [← List.take_append_drop k l]
  unfold sizeOf'
  rw [List.foldl_append]
  exact ge _ _

end Go.Proofs.YtegahpgnmeobhaaDoor.Dk
