/-
  THE CHECKSUM BIT BY BIT, PLAIN: it is the checksum by the table.
-/
import Derived.Test.YtamencnachmhoaaGreatDoorWlRecs
namespace Go.Proofs.YtamencnachmhoaaGreatDoor.Wl
open Go

theorem crcBit_xor (a b : Nat) : crcBit (a ^^^ b) = crcBit a ^^^ crcBit b := by
  have hm : (a ^^^ b) % 2 = (a % 2 + b % 2) % 2 := by
    have := Nat.xor_mod_two_eq_one (a := a) (b := b)
    have h1 := Nat.mod_two_eq_zero_or_one a
    have h2 := Nat.mod_two_eq_zero_or_one b
    have h3 := Nat.mod_two_eq_zero_or_one (a ^^^ b)
    omega
  have hd : (a ^^^ b) / 2 = a / 2 ^^^ b / 2 := by
    have := Nat.xor_div_two_pow (a := a) (b := b) (n := 1)
    simpa using this
  unfold crcBit
  rw [hm, hd]
  rcases Nat.mod_two_eq_zero_or_one a with h1 | h1 <;> rcases Nat.mod_two_eq_zero_or_one b with h2 | h2 <;> simp only [h1, h2] <;> simp
  · rw [Nat.xor_assoc]
  · rw [Nat.xor_assoc, Nat.xor_assoc, Nat.xor_comm (b / 2)]
  · rw [Nat.xor_assoc, ← Nat.xor_assoc 2197175160, Nat.xor_comm 2197175160 (b / 2), Nat.xor_assoc (b / 2), Nat.xor_self, Nat.xor_zero]
theorem crcBits_xor : ∀ (n a b : Nat), crcBits n (a ^^^ b) = crcBits n a ^^^ crcBits n b
  | 0, _, _ => rfl
  | n + 1, a, b => by rw [crcBits, crcBit_xor, crcBits_xor n]; rfl
theorem crcBit_even (m : Nat) : crcBit (2 * m) = m := by unfold crcBit; rw [if_neg (by omega)]; omega
theorem crcBits_high (h : Nat) : crcBits 8 (256 * h) = h := by
  show crcBit (crcBit (crcBit (crcBit (crcBit (crcBit (crcBit (crcBit (256 * h)))))))) = h
  rw [show 256 * h = 2 * (2 * (2 * (2 * (2 * (2 * (2 * (2 * h))))))) from by omega]
  simp only [crcBit_even]
theorem split_byte (x : Nat) : x = 256 * (x / 256) ^^^ x % 256 := by
  have h := Nat.two_pow_add_eq_or_of_lt (i := 8) (show x % 256 < 2 ^ 8 by omega) (x / 256)
  have h2 : 256 * (x / 256) ^^^ x % 256 = 256 * (x / 256) + x % 256 := by
    rw [show (256 : Nat) * (x / 256) + x % 256 = 2 ^ 8 * (x / 256) + x % 256 from rfl, h]
    apply Nat.eq_of_testBit_eq
    intro i
    rw [Nat.testBit_xor, Nat.testBit_or]
    show ((2 ^ 8 * (x / 256)).testBit i ^^ (x % 2 ^ 8).testBit i) = ((2 ^ 8 * (x / 256)).testBit i || (x % 2 ^ 8).testBit i)
    rw [Nat.testBit_two_pow_mul, Nat.testBit_mod_two_pow]
    by_cases hi : i < 8
    · simp [hi, show ¬ 8 ≤ i from by omega]
    · simp [hi]
  rw [h2]; omega
/-- eight shifts of the register with a byte laid over -/
def refStep (x : Nat) (c : UInt8) : Nat := crcBits 8 (x ^^^ c.toNat)
theorem refStep_eq (x : Nat) (c : UInt8) : refStep x c = crcStep x c := by
  unfold refStep crcStep crcTab
  have h : x ^^^ c.toNat = 256 * (x / 256) ^^^ (x % 256 ^^^ c.toNat) := by rw [← Nat.xor_assoc, ← split_byte x]
  rw [h, crcBits_xor, crcBits_high]
def refSum (b : Bs) : Nat := crcNot (b.foldl refStep 4294967295)
theorem foldl_refStep (x : Nat) (b : Bs) : b.foldl refStep x = crcRun x b := by
  unfold crcRun
  congr 1
  funext y c
  exact refStep_eq y c
theorem refSum_eq (h p : Bs) : refSum (h ++ p) = ext (ext 0 h) p := by
  unfold refSum ext
  rw [foldl_refStep, crcRun_append]
  have : crcNot (crcNot (crcRun (crcNot 0) h)) = crcRun 4294967295 h := by
    have hlt : crcRun 4294967295 h < 4294967296 := crcRun_lt h (by decide)
    show 4294967295 - (4294967295 - crcRun 4294967295 h) = _
    omega
  rw [this]

end Go.Proofs.YtamencnachmhoaaGreatDoor.Wl
