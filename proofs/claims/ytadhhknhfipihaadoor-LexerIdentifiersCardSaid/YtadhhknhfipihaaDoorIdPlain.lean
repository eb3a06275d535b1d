/-
  PLAIN DEFINITIONS FOR IDENTIFIERS (layer 5): classes of characters, the digits of the check, the kinds.
-/
import Derived.Test.YtadhhknhfipihaaDoorLexPlain
import Derived.Lib.ItoaNum
import Derived.PlainAid
namespace Go.Proofs.YtadhhknhfipihaaDoor.Id

def letter (c : Int) : Bool := Lx.upper c
def digit (c : Int) : Bool := Lx.digit c
def alnum (c : Int) : Bool := Lx.upper c || Lx.digit c
def refc (c : Int) : Bool := alnum c || decide (c = 45)

/-- the decimal digits of the values of letters and digits -/
def expandC (c : UInt8) : List UInt8 := if digit (c.toNat : Int) then [c] else Lib.decDigits (c.toNat - 55)
def expand (l : List UInt8) : List UInt8 := l.flatMap expandC
theorem expand_append (a b : List UInt8) : expand (a ++ b) = expand a ++ expand b := by simp [expand]

theorem decDigits_small (n : Nat) (h : n < 100) : (Lib.decDigits n).length ≤ 2 ∧ ∀ c ∈ Lib.decDigits n, 48 ≤ c.toNat ∧ c.toNat ≤ 57 := by
  have key : ∀ n : Fin 100, (Lib.decDigits n.val).length ≤ 2 ∧ ∀ c ∈ Lib.decDigits n.val, 48 ≤ c.toNat ∧ c.toNat ≤ 57 := by decide +kernel
  exact key ⟨n, h⟩

theorem expandC_len (c : UInt8) (h : alnum (c.toNat : Int) = true) : (expandC c).length ≤ 2 := by
  unfold expandC
  split
  · simp
  · refine (decDigits_small _ ?_).1
    unfold alnum Lx.upper Lx.digit at h
    simp at h; omega
theorem expandC_digits (c : UInt8) (h : alnum (c.toNat : Int) = true) : ∀ x ∈ expandC c, 48 ≤ x.toNat ∧ x.toNat ≤ 57 := by
  unfold expandC
  split
  · rename_i hd
    intro x hx
    simp at hx; subst hx
    unfold digit Lx.digit at hd; simp at hd; omega
  · refine (decDigits_small _ ?_).2
    unfold alnum Lx.upper Lx.digit at h
    simp at h; omega
theorem expand_len (l : List UInt8) (h : ∀ c ∈ l, alnum (c.toNat : Int) = true) : (expand l).length ≤ 2 * l.length := by
  induction l with
  | nil => simp [expand]
  | cons a l ih =>
    have h1 := expandC_len a (h a (by simp))
    have h2 := ih (fun c hc => h c (by simp [hc]))
    simp [expand] at h2 ⊢
    omega
theorem expand_digits (l : List UInt8) (h : ∀ c ∈ l, alnum (c.toNat : Int) = true) : ∀ x ∈ expand l, 48 ≤ x.toNat ∧ x.toNat ≤ 57 := by
  intro x hx
  obtain ⟨c, hc, hx⟩ := List.mem_flatMap.1 hx
  exact expandC_digits c (h c hc) x hx
theorem expand_take (s : ByteArray) (k : Nat) (h : k < s.size) : expand (s.data.toList.take (k + 1)) = expand (s.data.toList.take k) ++ expandC s[k] := by
  rw [List.take_succ_eq_append_getElem (by rw [← Lib.size_eq]; exact h), expand_append]
  simp [expand]
  rfl

/-- the check digit of an ISIN: what the digit at a place from the end adds -/
def luhnT (b : ByteArray) (i : Nat) : Int :=
  if (i : Int) % 2 = 0 then (PlainAid.bt b (b.size - 1 - i) - 48) * 2 / 10 + (PlainAid.bt b (b.size - 1 - i) - 48) * 2 % 10 else (PlainAid.bt b (b.size - 1 - i) - 48) / 10 + (PlainAid.bt b (b.size - 1 - i) - 48) % 10
def luhnS (b : ByteArray) : Nat → Int
  | 0 => 0
  | k + 1 => luhnS b k + luhnT b k
/-- the check digit of the first characters of an ISIN -/
def luhn (l : List UInt8) : List UInt8 := Lib.decDigits ((10 - luhnS ⟨(expand l).toArray⟩ (expand l).length % 10) % 10).toNat

theorem luhnT_bd (b : ByteArray) (i : Nat) (h : 48 ≤ PlainAid.bt b (b.size - 1 - i) ∧ PlainAid.bt b (b.size - 1 - i) ≤ 57) : 0 ≤ luhnT b i ∧ luhnT b i ≤ 18 := by
  unfold luhnT
  split <;> omega
theorem luhnS_bd (b : ByteArray) (h : ∀ j, j < b.size → 48 ≤ PlainAid.bt b j ∧ PlainAid.bt b j ≤ 57) : ∀ k, k ≤ b.size → 0 ≤ luhnS b k ∧ luhnS b k ≤ 18 * k := by
  intro k
  induction k with
  | zero => intro _; simp [luhnS]
  | succ k ih =>
    intro hk
    have h1 := ih (by omega)
    have h2 := luhnT_bd b k (h _ (by omega))
    simp only [luhnS]
    omega

/-- the remainder of a number in decimal digits -/
def modS (b : ByteArray) : Nat → Int
  | 0 => 0
  | k + 1 => (10 * modS b k + (PlainAid.bt b k - 48)) % 97
theorem modS_bd (b : ByteArray) (h : ∀ j, j < b.size → 48 ≤ PlainAid.bt b j ∧ PlainAid.bt b j ≤ 57) : ∀ k, k ≤ b.size → 0 ≤ modS b k ∧ modS b k ≤ 96 := by
  intro k
  induction k with
  | zero => intro _; simp [modS]
  | succ k ih =>
    intro hk
    have h1 := ih (by omega)
    have h2 := h k (by omega)
    simp only [modS]
    omega
/-- the check digits of the first characters of an LEI -/
def mod97 (l : List UInt8) : List UInt8 :=
  if (Lib.decDigits (98 - modS ⟨(expand l ++ [48, 48]).toArray⟩ ((expand l).length + 2)).toNat).length < 2 then 48 :: Lib.decDigits (98 - modS ⟨(expand l ++ [48, 48]).toArray⟩ ((expand l).length + 2)).toNat
  else Lib.decDigits (98 - modS ⟨(expand l ++ [48, 48]).toArray⟩ ((expand l).length + 2)).toNat

theorem bt_digits (l : List UInt8) (h : ∀ x ∈ l, 48 ≤ x.toNat ∧ x.toNat ≤ 57) : ∀ j, j < (⟨l.toArray⟩ : ByteArray).size → 48 ≤ PlainAid.bt ⟨l.toArray⟩ j ∧ PlainAid.bt ⟨l.toArray⟩ j ≤ 57 := by
  intro j hj
  have hj' : j < l.length := by simpa [ByteArray.size] using hj
  have := h l[j] (List.getElem_mem hj')
  unfold PlainAid.bt
  rw [dif_pos hj]
  show 48 ≤ (l[j].toNat : Int) ∧ (l[j].toNat : Int) ≤ 57
  omega

end Go.Proofs.YtadhhknhfipihaaDoor.Id
