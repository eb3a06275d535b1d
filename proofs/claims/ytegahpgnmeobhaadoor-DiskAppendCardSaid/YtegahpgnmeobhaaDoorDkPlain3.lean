/-
  THE DISK, PLAIN: its operations.
-/
import Derived.Test.YtegahpgnmeobhaaDoorDkPlain2
import Derived.Lib.SlTrimSet
namespace Go.Proofs.YtegahpgnmeobhaaDoor.Dk
open Go

def nameBytes : List UInt8 := [97, 98, 99, 100, 101, 102, 103, 104, 105, 106, 107, 108, 109, 110, 111, 112, 113, 114, 115, 116, 117, 118, 119, 120, 121, 122, 48, 49, 50, 51, 52, 53, 54, 55, 56, 57, 46, 45, 95]
def valid (l : List UInt8) : Bool := !l.isEmpty && decide (l.length ≤ 64) && (Lib.trimS l nameBytes).isEmpty

/-- a modifying operation whose check is passed -/
def D.modify (d : D) (fs : List (Bs × Fl)) : D × Int :=
  if d.bud = 0 then ({ d with down := true }, 32) else ({ d with fs := fs, bud := if 0 < d.bud then d.bud - 1 else d.bud }, 0)

def createCheck (d : D) (n : Bs) : Int :=
  if valid n = false then 6 else if (find n d.fs).isSome then 7 else if 256 ≤ d.fs.length then 8 else 0
def D.create (d : D) (n : Bs) : D × Int :=
  if d.down then (d, 32) else if createCheck d n ≠ 0 then (d, createCheck d n) else d.modify (ins n ⟨[], []⟩ d.fs)

def D.sync (d : D) (n : Bs) : D × Int :=
  if d.down then (d, 32) else match find n d.fs with
    | none => (d, 9)
    | some f => d.modify (upd n ⟨f.contents, []⟩ d.fs)

/-- what a write's check says; pos: the offset out of the size -/
def writeCheck (d : D) (n : Bs) (pos : Nat → Int) (b : Bs) : Int := match find n d.fs with
  | none => 9
  | some f => if pos f.contents.length < 0 ∨ 16777216 - (b.length : Int) < pos f.contents.length then 2 else 0
def D.write (d : D) (n : Bs) (pos : Nat → Int) (b : Bs) : D × Int :=
  if d.down then (d, 32) else if writeCheck d n pos b ≠ 0 then (d, writeCheck d n pos b) else if b = [] then (d, 0) else match find n d.fs with
    | none => (d, 9)
    | some f => d.modify (upd n ⟨f.dur, f.pend ++ [⟨(pos f.contents.length).toNat, b⟩]⟩ d.fs)

def D.read (d : D) (n : Bs) : Bs × Int :=
  if d.down then ([], 32) else match find n d.fs with
    | none => ([], 9)
    | some f => (f.contents, 0)

end Go.Proofs.YtegahpgnmeobhaaDoor.Dk
