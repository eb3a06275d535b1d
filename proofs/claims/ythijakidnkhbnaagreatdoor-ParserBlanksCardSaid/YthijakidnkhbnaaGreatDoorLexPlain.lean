/-
  PLAIN DEFINITIONS FOR THE LEXER (layer 17): classes of bytes, runs, the forms of tokens, over lists of bytes. No program in sight.
-/
import Derived.WalkKit
import Derived.Lib.Hide
import Derived.Lib.Split
import Derived.Lib.SplitLaws
import Derived.Lib.IndexMore
import Derived.Lib.Strings
namespace Go.Proofs.YthijakidnkhbnaaGreatDoor.Lx

def digit (c : Int) : Bool := decide (48 ≤ c) && decide (c ≤ 57)
def lower (c : Int) : Bool := decide (97 ≤ c) && decide (c ≤ 122)
def upper (c : Int) : Bool := decide (65 ≤ c) && decide (c ≤ 90)
def blank (c : Int) : Bool := decide (c = 32) || decide (c = 9)
def named (c : Int) : Bool := upper c || digit c || decide (c = 45)

/-- the length of the longest prefix whose bytes are of a class -/
def run (p : Int → Bool) (l : List UInt8) : Nat := (l.takeWhile fun c => p (c.toNat : Int)).length
def all (p : Int → Bool) (l : List UInt8) : Bool := !l.isEmpty && l.all fun c => p (c.toNat : Int)
def whole (l : List UInt8) : Bool := all digit l && (l.length == 1 || !(l.head? == some 48))

theorem run_le (p : Int → Bool) (l : List UInt8) : run p l ≤ l.length := by
  unfold run; exact List.IsPrefix.length_le (List.takeWhile_prefix _)
theorem run_eq_length (p : Int → Bool) (l : List UInt8) : run p l = l.length ↔ l.all (fun c => p (c.toNat : Int)) = true := by
  unfold run
  induction l with
  | nil => simp
  | cons a l ih =>
    by_cases h : p (a.toNat : Int) = true
    · simp [h, ih]
    · simp [h]
theorem run_before (p : Int → Bool) (l : List UInt8) (k : Nat) (h : k < run p l) (hl : k < l.length) : p (l[k].toNat : Int) = true := by
  induction l generalizing k with
  | nil => simp at hl
  | cons a l ih =>
    by_cases hp : p (a.toNat : Int) = true
    · have e : run p (a :: l) = run p l + 1 := by simp [run, hp]
      cases k with
      | zero => exact hp
      | succ k => exact ih k (by omega) (by simpa using hl)
    · have e : run p (a :: l) = 0 := by simp [run, hp]
      omega
theorem run_at (p : Int → Bool) (l : List UInt8) (h : run p l < l.length) : p (l[run p l].toNat : Int) = false := by
  induction l with
  | nil => simp at h
  | cons a l ih =>
    by_cases hp : p (a.toNat : Int) = true
    · have e : run p (a :: l) = run p l + 1 := by simp [run, hp]
      simp only [e, List.getElem_cons_succ]
      exact ih (by rw [e] at h; simpa using h)
    · have e : run p (a :: l) = 0 := by simp [run, hp]
      simp only [e, List.getElem_cons_zero]
      simpa using hp


theorem all_eq (p : Int → Bool) (l : List UInt8) : all p l = (!l.isEmpty && decide (run p l = l.length)) := by
  unfold all
  rw [Bool.eq_iff_iff]
  simp only [Bool.and_eq_true, decide_eq_true_eq, run_eq_length]

/-- the text form of an amount of any size -/
def decimal (l : List UInt8) : Bool :=
  (Lib.cut (Lib.trimPrefix l [45]) [46]).2.2 && whole (Lib.cut (Lib.trimPrefix l [45]) [46]).1 &&
  decide ((Lib.cut (Lib.trimPrefix l [45]) [46]).2.1.length = 2) && all digit (Lib.cut (Lib.trimPrefix l [45]) [46]).2.1 && !(l == [45, 48, 46, 48, 48])

/-- the pieces of a text between hyphens -/
def pieces (s : ByteArray) : List ByteArray := Lib.splitB ⟨#[45]⟩ 0 (Lib.countB s ⟨#[45]⟩) s
/-- the form of a date -/
def date (s : ByteArray) : Bool :=
  decide (s.size = 10) && decide ((pieces s).length = 3) && decide (((pieces s)[0]?.map (·.size)).getD 0 = 4) && decide (((pieces s)[1]?.map (·.size)).getD 0 = 2) &&
  (pieces s).all fun p => all digit p.data.toList


/-- the kind of a token text, and the error -/
def classify (s : ByteArray) : Int × Int :=
  if 32 < s.size then (0, 5) else if date s then (4, 0) else if whole s.data.toList && decide (s.size ≤ 16) then (2, 0) else if decimal s.data.toList then (3, 0)
  else if all named s.data.toList then (1, 0) else if all lower s.data.toList then (0, 0) else (0, 30)


/-- does a comment begin at a place? -/
def isC (l : List UInt8) (i : Nat) : Bool := (l[i]? == some 35) && (i == 0 || ((l[i - 1]?).map fun c => blank (c.toNat : Int)).getD false)
/-- where the comment begins, or the end -/
def cutAt (l : List UInt8) : Nat := ((List.range l.length).find? (isC l)).getD l.length

theorem cutAt_hit (l : List UInt8) (k : Nat) (hk : k < l.length) (h : isC l k = true) (hb : ∀ j, j < k → isC l j = false) : cutAt l = k := by
  have : (List.range l.length).find? (isC l) = some k := by
    rw [List.find?_range_eq_some]
    exact ⟨h, by simpa using hk, fun j hj => by simpa using hb j hj⟩
  unfold cutAt; rw [this]; rfl
theorem cutAt_miss (l : List UInt8) (hb : ∀ j, j < l.length → isC l j = false) : cutAt l = l.length := by
  have : (List.range l.length).find? (isC l) = none := by
    rw [List.find?_eq_none]
    intro x hx; simpa using hb x (by simpa using hx)
  unfold cutAt; rw [this]; rfl
theorem cutAt_le (l : List UInt8) : cutAt l ≤ l.length := by
  unfold cutAt
  cases h : (List.range l.length).find? (isC l) with
  | none => exact Nat.le_refl _
  | some k => have := List.mem_of_find?_eq_some h; simp at this; simp; omega

/-- a line without its comment -/
def uncomment (s : ByteArray) : ByteArray := s.extract 0 (cutAt s.data.toList)

theorem extract_all (s : ByteArray) : s.extract 0 s.size = s := by
  obtain ⟨⟨l⟩⟩ := s
  rw [ByteArray.extract_mk]
  simp [ByteArray.size]


/-- a token: kind, text, offset -/
abbrev Tok := Int × ByteArray × Nat
def tokCells : List Tok → List Value
  | [] => []
  | (k, t, a) :: r => .int .i64 k :: .string t :: .int .i64 a :: tokCells r
theorem tokCells_append (a b : List Tok) : tokCells (a ++ b) = tokCells a ++ tokCells b := by
  induction a with
  | nil => rfl
  | cons x a ih => obtain ⟨k, t, o⟩ := x; simp [tokCells, ih]
theorem tokCells_length (a : List Tok) : (tokCells a).length = a.length * 3 := by
  induction a with
  | nil => rfl
  | cons x a ih => obtain ⟨k, t, o⟩ := x; simp [tokCells, ih]; omega

/-- the blanks at a place, and the token behind them -/
def skip (s : ByteArray) (a : Nat) : Nat := run blank (s.extract a s.size).data.toList
def size (s : ByteArray) (a : Nat) : Nat := run (fun c => !blank c) (s.extract a s.size).data.toList
theorem skip_le (s : ByteArray) (a : Nat) (h : a ≤ s.size) : a + skip s a ≤ s.size := by
  have := run_le blank (s.extract a s.size).data.toList
  rw [← Lib.size_eq, ByteArray.size_extract] at this
  unfold skip; omega
theorem size_le (s : ByteArray) (a : Nat) (h : a ≤ s.size) : a + size s a ≤ s.size := by
  have := run_le (fun c => !blank c) (s.extract a s.size).data.toList
  rw [← Lib.size_eq, ByteArray.size_extract] at this
  unfold size; omega

/-- the tokens of a line without comment from a place on, behind those that were read: tokens, offset of the error, error -/
def tokAcc : Nat → ByteArray → Nat → List Tok → List Tok × Int × Int
  | 0, _, _, acc => (acc, 0, 0)
  | f + 1, s, a, acc =>
    if size s (a + skip s a) = 0 then (acc, 0, 0)
    else if (classify (s.extract (a + skip s a) (a + skip s a + size s (a + skip s a)))).2 = 0 then
      tokAcc f s (a + skip s a + size s (a + skip s a)) (acc ++ [((classify (s.extract (a + skip s a) (a + skip s a + size s (a + skip s a)))).1, s.extract (a + skip s a) (a + skip s a + size s (a + skip s a)), a + skip s a)])
    else ([], ((a + skip s a : Nat) : Int), (classify (s.extract (a + skip s a) (a + skip s a + size s (a + skip s a)))).2)

/-- Tokenize -/
def tokenize (s : ByteArray) : List Tok × Int × Int :=
  if 1024 < s.size then ([], 1024, 5) else tokAcc ((uncomment s).size + 1) (uncomment s) 0 []

end Go.Proofs.YthijakidnkhbnaaGreatDoor.Lx
