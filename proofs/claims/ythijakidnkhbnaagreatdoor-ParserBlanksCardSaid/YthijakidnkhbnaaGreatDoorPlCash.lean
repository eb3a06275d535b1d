/-
  Amounts and quantities, plain: what their texts denote.
-/
import Derived.Test.YthijakidnkhbnaaGreatDoorPlKind
import Derived.Lib.ParseIntB
import Derived.Lib.ParseIntBCases
namespace Go.Proofs.YthijakidnkhbnaaGreatDoor.Ps
open Go

abbrev Dg := List UInt8
def digs (l : Dg) : Prop := ∀ c ∈ l, 48 ≤ c.toNat ∧ c.toNat ≤ 57
def numA : Nat → Dg → Nat
  | acc, [] => acc
  | acc, c :: l => numA (acc * 10 + (c.toNat - 48)) l
theorem numA_le : ∀ (l : Dg) (acc : Nat), acc ≤ numA acc l
  | [], acc => Nat.le_refl _
  | c :: l, acc => by
    have := numA_le l (acc * 10 + (c.toNat - 48))
    unfold numA
    omega
theorem parse_digs : ∀ (l : Dg) (acc : Nat), digs l → (numA acc l ≤ 100000000000000000 → Lib.parseUintM (2 ^ 64 - 1) acc l = .ok (numA acc l)) ∧ (∀ u, Lib.parseUintM (2 ^ 64 - 1) acc l = .ok u → u = numA acc l)
  | [], acc, _ => ⟨fun _ => rfl, fun u h => by cases h; rfl⟩
  | c :: l, acc, hd => by
    have hc := hd c List.mem_cons_self
    have ih := parse_digs l (acc * 10 + (c.toNat - 48)) fun x hx => hd x (List.mem_cons_of_mem _ hx)
    have hle := numA_le l (acc * 10 + (c.toNat - 48))
    unfold Lib.parseUintM numA
    rw [if_pos hc]
    refine ⟨fun h => ?_, fun u h => ?_⟩
    · rw [if_neg (by omega), if_neg (by omega)]
      exact ih.1 h
    · split at h
      · cases h
      · split at h
        · cases h
        · exact ih.2 u h
/-- a number from 1 to the greatest -/
def canon (n : Nat) : Int × Int := if 1 ≤ n ∧ n ≤ 1000000000000000 then ((n : Int), 0) else (0, 2)
theorem pI (l : Dg) (h : digs l) (h0 : l ≠ []) : (numA 0 l ≤ 1000000000000000 → Lib.parseIntB 64 l = .ok (numA 0 l : Int)) ∧ (∀ v, Lib.parseIntB 64 l = .ok v → v = (numA 0 l : Int)) := by
  cases l with
  | nil => exact absurd rfl h0
  | cons c r =>
    have hc := h c List.mem_cons_self
    have e43 : ¬ c.toNat = 43 := by omega
    have e45 : ¬ c.toNat = 45 := by omega
    obtain ⟨p1, p2⟩ := parse_digs (c :: r) 0 h
    have hu : Lib.parseUintB 64 (c :: r) = Lib.parseUintM (2 ^ 64 - 1) 0 (c :: r) := by
      unfold Lib.parseUintB
      rw [if_neg (by simp)]
    have hI : ∀ x, Lib.parseUintM (2 ^ 64 - 1) 0 (c :: r) = x → Lib.parseIntB 64 (c :: r) = (match x with
      | .ok u => if 2 ^ 63 ≤ u then .range else .ok (u : Int)
      | .range => .range
      | _ => Lib.parseIntB 64 (c :: r)) := by
      intro x hx
      rcases x with u | _ | _
      · unfold Lib.parseIntB
        simp only [e43, e45, or_self, if_false, hu, hx]
        simp
      · rfl
      · unfold Lib.parseIntB
        simp only [e43, e45, or_self, if_false, hu, hx]
    constructor
    · intro hn
      rw [hI _ (p1 (by omega))]
      simp only
      rw [if_neg (by omega)]
    · intro v hv
      rcases hp : Lib.parseUintM (2 ^ 64 - 1) 0 (c :: r) with u | _ | _
      · rw [hI _ hp] at hv
        simp only at hv
        split at hv
        · cases hv
        · cases hv
          rw [p2 u hp]
      · exfalso
        unfold Lib.parseIntB at hv
        simp only [e43, e45, or_self, if_false, hu, hp] at hv
        cases hv
      · rw [hI _ hp] at hv
        cases hv

/-- saturating -/
def satA : Nat → Dg → Nat
  | x, [] => x
  | x, c :: l => satA (if x ≤ 1000000000000000 then 10 * x + (c.toNat - 48) else x) l
theorem satA_big : ∀ (l : Dg) (x : Nat), 1000000000000000 < x → satA x l = x
  | [], x, _ => rfl
  | c :: l, x, h => by
    unfold satA
    rw [if_neg (by omega)]
    exact satA_big l x h
theorem satA_eq : ∀ (l : Dg) (x : Nat), x ≤ 1000000000000000 → (numA x l ≤ 1000000000000000 → satA x l = numA x l) ∧ (1000000000000000 < numA x l → 1000000000000000 < satA x l)
  | [], x, hx => ⟨fun _ => rfl, fun h => h⟩
  | c :: l, x, hx => by
    have e : 10 * x + (c.toNat - 48) = x * 10 + (c.toNat - 48) := by omega
    unfold satA numA
    rw [if_pos hx, e]
    by_cases hb : x * 10 + (c.toNat - 48) ≤ 1000000000000000
    · exact satA_eq l _ hb
    · have hle := numA_le l (x * 10 + (c.toNat - 48))
      rw [satA_big l _ (by omega)]
      exact ⟨fun h => by omega, fun _ => by omega⟩
theorem canon_sat (l : Dg) : canon (satA 0 l) = canon (numA 0 l) := by
  obtain ⟨h1, h2⟩ := satA_eq l 0 (by omega)
  by_cases h : numA 0 l ≤ 1000000000000000
  · rw [h1 h]
  · have := h2 (by omega)
    unfold canon
    rw [if_neg (by omega), if_neg (by omega)]
theorem satA_le (M : Nat) (hM : 10000000000000009 ≤ M) (l : Dg) : ∀ (x : Nat), digs l → x ≤ M → satA x l ≤ M := by
  induction l with
  | nil => exact fun x _ hx => hx
  | cons c l ih =>
    intro x hd hx
    have hc := hd c List.mem_cons_self
    unfold satA
    refine ih _ (fun y hy => hd y (List.mem_cons_of_mem _ hy)) ?_
    by_cases hx2 : x ≤ 1000000000000000
    · rw [if_pos hx2]; omega
    · rw [if_neg hx2]; exact hx
theorem satA_snoc : ∀ (l : Dg) (x : Nat) (c : UInt8), satA x (l ++ [c]) = if satA x l ≤ 1000000000000000 then 10 * satA x l + (c.toNat - 48) else satA x l
  | [], x, c => by
    show satA x [c] = _
    unfold satA
    rfl
  | d :: l, x, c => by
    rw [List.cons_append]
    conv => lhs; unfold satA
    rw [satA_snoc l _ c]
    rfl
theorem numA_snoc : ∀ (l : Dg) (x : Nat) (c : UInt8), numA x (l ++ [c]) = numA x l * 10 + (c.toNat - 48)
  | [], x, c => rfl
  | d :: l, x, c => by
    rw [List.cons_append]
    conv => lhs; unfold numA
    rw [numA_snoc l _ c]
    rfl
theorem numA_lt (l : Dg) : ∀ (x : Nat), digs l → numA x l < (x + 1) * 10 ^ l.length := by
  induction l with
  | nil =>
    intro x _
    show x < (x + 1) * 1
    omega
  | cons c l ih =>
    intro x hd
    have hc := hd c List.mem_cons_self
    have ih := ih (x * 10 + (c.toNat - 48)) fun y hy => hd y (List.mem_cons_of_mem _ hy)
    show numA (x * 10 + (c.toNat - 48)) l < (x + 1) * 10 ^ (l.length + 1)
    obtain ⟨p, hp⟩ : ∃ p, p = 10 ^ l.length := ⟨_, rfl⟩
    rw [Nat.pow_succ, ← hp]
    rw [← hp] at ih
    have h2 : (x * 10 + (c.toNat - 48) + 1) ≤ (x + 1) * 10 := by omega
    have h3 := Nat.mul_le_mul_right p h2
    rw [Nat.mul_comm p 10, ← Nat.mul_assoc]
    omega
end Go.Proofs.YthijakidnkhbnaaGreatDoor.Ps
