/-
  THE DISK, PLAIN, MORE: the list of files by name.
-/
import Derived.Test.YtegahpgnmeobhaaDoorDkPlain
import Derived.Maps.Ext
namespace Go.Proofs.YtegahpgnmeobhaaDoor.Dk
open Go

/-- inserts by a key, ahead of the first greater one -/
def insBy {α : Type} (key : α → Bs) (x : α) : List α → List α
  | [] => [x]
  | y :: r => if bytesBefore (key x) (key y) then x :: y :: r else y :: insBy key x r

theorem insBy_perm {α : Type} (key : α → Bs) (x : α) : ∀ l : List α, (insBy key x l).Perm (x :: l)
  | [] => List.Perm.refl _
  | y :: r => by
    unfold insBy
    split
    · exact List.Perm.refl _
    · exact ((insBy_perm key x r).cons y).trans (List.Perm.swap x y r)
theorem insBy_map {α β : Type} (key : α → Bs) (key' : β → Bs) (f : α → β) (hk : ∀ a, key' (f a) = key a) (x : α) : ∀ l : List α, (insBy key x l).map f = insBy key' (f x) (l.map f)
  | [] => rfl
  | y :: r => by
    show (if bytesBefore (key x) (key y) then x :: y :: r else y :: insBy key x r).map f = if bytesBefore (key' (f x)) (key' (f y)) then f x :: f y :: r.map f else f y :: insBy key' (f x) (r.map f)
    rw [hk, hk]
    split
    · rfl
    · rw [List.map_cons, insBy_map key key' f hk x r]

structure D where
  fs : List (Bs × Fl)
  bud : Int
  down : Bool

def find (n : Bs) (fs : List (Bs × Fl)) : Option Fl := (fs.find? (fun p => p.1 == n)).map (·.2)
def del (n : Bs) (fs : List (Bs × Fl)) : List (Bs × Fl) := fs.filter (fun p => !(p.1 == n))
def ins (n : Bs) (f : Fl) (fs : List (Bs × Fl)) : List (Bs × Fl) := insBy Prod.fst (n, f) fs
def upd (n : Bs) (f : Fl) (fs : List (Bs × Fl)) : List (Bs × Fl) := fs.map fun p => if p.1 == n then (n, f) else p

end Go.Proofs.YtegahpgnmeobhaaDoor.Dk
