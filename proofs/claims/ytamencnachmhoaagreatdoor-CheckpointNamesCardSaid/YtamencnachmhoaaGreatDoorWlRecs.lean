/-
  RECORDS, PLAIN: the checksum, a record, what stands at the head of some bytes, and the entries of a log in the bytes of a segment.
  THE NAMES OF SEGMENTS, PLAIN: ten digits that stand for a number; which bytes come first.
-/
import Derived.Lib.ItoaMem
import Derived.Lib.Repeat
import Derived.Laws.BitsAllLaws
import Derived.WideAt
import Derived.WideShapes

namespace Go.Proofs.YtamencnachmhoaaGreatDoor.Wl
open Go

abbrev Bs := List UInt8

/-- one shift of the register -/
def crcBit (x : Nat) : Nat := if x % 2 = 1 then (x / 2) ^^^ 2197175160 else x / 2
def crcBits : Nat → Nat → Nat
  | 0, x => x
  | n + 1, x => crcBits n (crcBit x)
def crcTab (i : Nat) : Nat := crcBits 8 i
def crcStep (x : Nat) (c : UInt8) : Nat := (x / 256) ^^^ crcTab ((x % 256) ^^^ c.toNat)
def crcRun (x : Nat) (l : Bs) : Nat := l.foldl crcStep x
def crcNot (x : Nat) : Nat := 4294967295 - x
def ext (s : Nat) (b : Bs) : Nat := crcNot (crcRun (crcNot s) b)

theorem crcBit_lt {x : Nat} (h : x < 4294967296) : crcBit x < 4294967296 := by
  unfold crcBit
  split
  · exact Nat.xor_lt_two_pow (n := 32) (by omega) (by decide)
  · omega
theorem crcBits_lt : ∀ (n : Nat) {x : Nat}, x < 4294967296 → crcBits n x < 4294967296
  | 0, _, h => h
  | n + 1, _, h => crcBits_lt n (crcBit_lt h)
theorem crcTab_lt {i : Nat} (h : i < 4294967296) : crcTab i < 4294967296 := crcBits_lt 8 h
theorem crc_index_lt (x : Nat) (c : UInt8) : (x % 256) ^^^ c.toNat < 256 := Nat.xor_lt_two_pow (n := 8) (by omega) (UInt8.toNat_lt c)
theorem crcStep_lt {x : Nat} (h : x < 4294967296) (c : UInt8) : crcStep x c < 4294967296 := by
  have := crc_index_lt x c
  exact Nat.xor_lt_two_pow (n := 32) (by omega) (crcTab_lt (by omega))
theorem crcRun_lt : ∀ (l : Bs) {x : Nat}, x < 4294967296 → crcRun x l < 4294967296
  | [], _, h => h
  | c :: l, _, h => crcRun_lt l (crcStep_lt h c)
theorem crcNot_lt (x : Nat) : crcNot x < 4294967296 := by unfold crcNot; omega
theorem ext_lt (s : Nat) (b : Bs) : ext s b < 4294967296 := crcNot_lt _
theorem crcRun_append (x : Nat) (l m : Bs) : crcRun x (l ++ m) = crcRun (crcRun x l) m := by unfold crcRun; exact List.foldl_append

def word (n : Nat) : Bs := [UInt8.ofNat n, UInt8.ofNat (n / 256), UInt8.ofNat (n / 65536), UInt8.ofNat (n / 16777216)]
/-- the number of the first four bytes -/
def num : Bs → Nat
  | a :: b :: c :: d :: _ => a.toNat + 256 * b.toNat + 65536 * c.toNat + 16777216 * d.toNat
  | _ => 0
theorem word_length (n : Nat) : (word n).length = 4 := rfl
theorem num_word {n : Nat} (h : n < 4294967296) (r : Bs) : num (word n ++ r) = n := by
  show (UInt8.ofNat n).toNat + 256 * (UInt8.ofNat (n / 256)).toNat + 65536 * (UInt8.ofNat (n / 65536)).toNat + 16777216 * (UInt8.ofNat (n / 16777216)).toNat = n
  simp only [UInt8.toNat_ofNat']
  omega

/-- the record of a payload -/
def enc (p : Bs) : Bs := word p.length ++ (word (ext (ext 0 (word p.length)) p) ++ p)
theorem enc_length (p : Bs) : (enc p).length = 8 + p.length := by unfold enc; simp [word_length]; omega

/-- the first record of some bytes: its payload, its size, an error number -/
def nextR (b : Bs) : Bs × Nat × Int :=
  if b.length < 8 then ([], 0, 19)
  else if 1048576 < num b then ([], 0, 2)
  else if b.length < 8 + num b then ([], 0, 19)
  else if ext (ext 0 (b.take 4)) ((b.drop 8).take (num b)) ≠ num (b.drop 4) then ([], 0, 18)
  else ((b.drop 8).take (num b), 8 + num b, 0)

theorem nextR_enc {p : Bs} (h : p.length ≤ 1048576) (r : Bs) : nextR (enc p ++ r) = (p, 8 + p.length, 0) := by
  have hl : (enc p ++ r).length = 8 + p.length + r.length := by rw [List.length_append, enc_length]
  have hn : num (enc p ++ r) = p.length := by unfold enc; rw [List.append_assoc]; exact num_word (by omega) _
  have h4 : (enc p ++ r).take 4 = word p.length := by unfold enc; rw [List.append_assoc]; exact List.take_left' (word_length _)
  have hd4 : (enc p ++ r).drop 4 = word (ext (ext 0 (word p.length)) p) ++ (p ++ r) := by
    unfold enc; rw [List.append_assoc, List.drop_left' (word_length _), List.append_assoc]
  have hd8 : (enc p ++ r).drop 8 = p ++ r := by
    have : (enc p ++ r).drop 8 = ((enc p ++ r).drop 4).drop 4 := by rw [List.drop_drop]
    rw [this, hd4]; exact List.drop_left' (word_length _)
  unfold nextR
  rw [if_neg (by omega), hn, if_neg (by omega), if_neg (by omega), h4, hd8, List.take_left' rfl, hd4, num_word (ext_lt _ _), if_neg (by simp)]

/-- eight bytes, the most significant one first -/
def be8 (n : Nat) : Bs := [UInt8.ofNat (n / 72057594037927936), UInt8.ofNat (n / 281474976710656), UInt8.ofNat (n / 1099511627776), UInt8.ofNat (n / 4294967296), UInt8.ofNat (n / 16777216), UInt8.ofNat (n / 65536), UInt8.ofNat (n / 256), UInt8.ofNat n]
def beVal (l : Bs) : Nat := l.foldl (fun n c => n * 256 + c.toNat) 0
theorem be8_length (n : Nat) : (be8 n).length = 8 := rfl
theorem beVal_be8 {n : Nat} (h : n < 18446744073709551616) : beVal (be8 n) = n := by
  unfold beVal be8
  simp only [List.foldl_cons, List.foldl_nil, UInt8.toNat_ofNat']
  omega
theorem beVal_lt : ∀ (l : Bs), beVal l < 256 ^ l.length := by
  intro l
  unfold beVal
  suffices h : ∀ (l : Bs) (n k : Nat), n < 256 ^ k → l.foldl (fun n c => n * 256 + c.toNat) n < 256 ^ (k + l.length) from by simpa using h l 0 0 (by decide)
  intro l
  induction l with
  | nil => intro n k h; simpa using h
  | cons c l ih =>
    intro n k h
    have hc := UInt8.toNat_lt c
    have := ih (n * 256 + c.toNat) (k + 1) (by rw [Nat.pow_succ]; omega)
    simp only [List.foldl_cons, List.length_cons]
    rw [show k + (l.length + 1) = k + 1 + l.length from by omega]
    exact this

/-- the record of an entry -/
def pack (seq : Nat) (p : Bs) : Bs := enc (be8 seq ++ p)
theorem pack_length (seq : Nat) (p : Bs) : (pack seq p).length = 16 + p.length := by unfold pack; rw [enc_length, List.length_append, be8_length]; omega

/-- the entries at the head of some bytes that carry the numbers from seq on, and the bytes that they take -/
def intactF : Nat → Bs → Nat → List (Nat × Bs) × Nat
  | 0, _, _ => ([], 0)
  | k + 1, b, seq =>
    if b = [] then ([], 0)
    else if (nextR b).2.2 ≠ 0 ∨ (nextR b).1.length < 8 then ([], 0)
    else if beVal ((nextR b).1.take 8) ≠ seq then ([], 0)
    else ((seq, (nextR b).1.drop 8) :: (intactF k (b.drop (nextR b).2.1) (seq + 1)).1, (nextR b).2.1 + (intactF k (b.drop (nextR b).2.1) (seq + 1)).2)
def intact (b : Bs) (seq : Nat) : List (Nat × Bs) × Nat := intactF b.length b seq


theorem nextR_size {b : Bs} (h : (nextR b).2.2 = 0) : 8 ≤ (nextR b).2.1 ∧ (nextR b).2.1 ≤ b.length := by
  unfold nextR at h ⊢
  split at h
  · exact absurd h (by decide)
  · rename_i h1
    rw [if_neg h1]
    split at h
    · exact absurd h (by decide)
    · rename_i h2
      rw [if_neg h2]
      split at h
      · exact absurd h (by decide)
      · rename_i h3
        rw [if_neg h3]
        split at h
        · exact absurd h (by decide)
        · rename_i h4
          rw [if_neg h4]
          exact ⟨Nat.le_add_right 8 _, by show 8 + num b ≤ b.length; omega⟩

theorem intactF_any : ∀ (k j : Nat) (b : Bs) (s : Nat), b.length ≤ k → b.length ≤ j → intactF k b s = intactF j b s
  | 0, j, b, s, h, _ => by
    obtain rfl : b = [] := List.eq_nil_of_length_eq_zero (by omega)
    cases j with
    | zero => rfl
    | succ j => rw [intactF, intactF, if_pos rfl]
  | k + 1, 0, b, s, _, h => by
    obtain rfl : b = [] := List.eq_nil_of_length_eq_zero (by omega)
    rw [intactF, intactF, if_pos rfl]
  | k + 1, j + 1, b, s, h1, h2 => by
    rw [intactF, intactF]
    by_cases hb : b = []
    · rw [if_pos hb, if_pos hb]
    · rw [if_neg hb, if_neg hb]
      by_cases he : (nextR b).2.2 ≠ 0 ∨ (nextR b).1.length < 8
      · rw [if_pos he, if_pos he]
      · rw [if_neg he, if_neg he]
        have hz : (nextR b).2.2 = 0 := Decidable.not_not.1 (fun h => he (.inl h))
        have hs := nextR_size hz
        rw [intactF_any k j (b.drop (nextR b).2.1) (s + 1) (by rw [List.length_drop]; omega) (by rw [List.length_drop]; omega)]

theorem intact_nil (s : Nat) : intact [] s = ([], 0) := rfl
/-- one round of the scan -/
theorem intact_step (b : Bs) (s : Nat) : intact b s =
    if b = [] then ([], 0)
    else if (nextR b).2.2 ≠ 0 ∨ (nextR b).1.length < 8 then ([], 0)
    else if beVal ((nextR b).1.take 8) ≠ s then ([], 0)
    else ((s, (nextR b).1.drop 8) :: (intact (b.drop (nextR b).2.1) (s + 1)).1, (nextR b).2.1 + (intact (b.drop (nextR b).2.1) (s + 1)).2) := by
  by_cases hb : b = []
  · subst hb; rw [if_pos rfl]; rfl
  · unfold intact
    obtain ⟨k, hk⟩ : ∃ k, b.length = k + 1 := ⟨b.length - 1, by have := List.length_pos_iff.2 hb; omega⟩
    rw [hk, intactF]
    by_cases he : (nextR b).2.2 ≠ 0 ∨ (nextR b).1.length < 8
    · rw [if_neg hb, if_pos he, if_neg hb, if_pos he]
    · have hz : (nextR b).2.2 = 0 := Decidable.not_not.1 (fun h => he (.inl h))
      have hs := nextR_size hz
      rw [intactF_any k (b.drop (nextR b).2.1).length (b.drop (nextR b).2.1) (s + 1) (by rw [List.length_drop]; omega) (Nat.le_refl _)]
theorem intact_pack {p : Bs} {s : Nat} (hp : p.length ≤ 1048568) (hs : s < 18446744073709551616) (r : Bs) :
    intact (pack s p ++ r) s = ((s, p) :: (intact r (s + 1)).1, (pack s p).length + (intact r (s + 1)).2) := by
  have hn : nextR (pack s p ++ r) = (be8 s ++ p, 8 + (be8 s ++ p).length, 0) := nextR_enc (by rw [List.length_append, be8_length]; omega) r
  have hl : (pack s p).length = 8 + (be8 s ++ p).length := enc_length _
  rw [intact_step, if_neg (by intro h; have := congrArg List.length h; rw [List.length_append, hl] at this; simp at this), hn]
  rw [if_neg (by rintro (h | h); exact h rfl; simp [be8_length] at h; omega)]
  simp only []
  rw [List.take_left' (be8_length s), List.drop_left' (be8_length s), if_neg (by rw [beVal_be8 hs]; simp), ← hl, List.drop_left' rfl]
/-- a record that is cut holds nothing -/
theorem intact_cut {p b t : Bs} {s q : Nat} (hp : p.length ≤ 1048568) (h : b ++ t = pack q p) (ht : t ≠ []) : intact b s = ([], 0) := by
  have hl : b.length + t.length = 8 + (be8 q ++ p).length := by rw [← List.length_append, h]; exact enc_length _
  have ht' := List.length_pos_iff.2 ht
  rw [intact_step]
  by_cases hb : b = []
  · rw [if_pos hb]
  rw [if_neg hb, if_pos]
  left
  unfold nextR
  by_cases h8 : b.length < 8
  · rw [if_pos h8]; decide
  · rw [if_neg h8]
    have h4 : num b = (be8 q ++ p).length := by
      have e : num (b ++ t) = num b := by
        match b, h8 with
        | a0 :: a1 :: a2 :: a3 :: _, _ => rfl
        | [], h8 => exact absurd (by decide) h8
        | [_], h8 => exact absurd (by simp) h8
        | [_, _], h8 => exact absurd (by simp) h8
        | [_, _, _], h8 => exact absurd (by simp) h8
      rw [← e, h]
      unfold pack enc
      exact num_word (by rw [List.length_append, be8_length]; omega) _
    rw [if_neg (by rw [h4, List.length_append, be8_length]; omega), if_pos (by rw [h4]; omega)]
    decide

/-- the records of entries one behind the other -/
def packs : Nat → List Bs → Bs
  | _, [] => []
  | s, p :: ps => pack s p ++ packs (s + 1) ps
def ents : Nat → List Bs → List (Nat × Bs)
  | _, [] => []
  | s, p :: ps => (s, p) :: ents (s + 1) ps
theorem ents_length : ∀ (s : Nat) (ps : List Bs), (ents s ps).length = ps.length
  | _, [] => rfl
  | s, p :: ps => by simp [ents, ents_length (s + 1) ps]
theorem packs_append : ∀ (s : Nat) (ps qs : List Bs), packs s (ps ++ qs) = packs s ps ++ packs (s + ps.length) qs
  | s, [], qs => by simp [packs]
  | s, p :: ps, qs => by
    simp only [packs, List.cons_append, List.append_assoc, List.length_cons]
    rw [packs_append (s + 1) ps qs, show s + 1 + ps.length = s + (ps.length + 1) from by omega]
theorem ents_append : ∀ (s : Nat) (ps qs : List Bs), ents s (ps ++ qs) = ents s ps ++ ents (s + ps.length) qs
  | s, [], qs => by simp [ents]
  | s, p :: ps, qs => by
    simp only [ents, List.cons_append, List.length_cons]
    rw [ents_append (s + 1) ps qs, show s + 1 + ps.length = s + (ps.length + 1) from by omega]
theorem intact_packs : ∀ (ps : List Bs) (s : Nat) (r : Bs), (∀ p ∈ ps, p.length ≤ 1048568) → s + ps.length < 18446744073709551616 →
    intact (packs s ps ++ r) s = (ents s ps ++ (intact r (s + ps.length)).1, (packs s ps).length + (intact r (s + ps.length)).2)
  | [], s, r, _, _ => by simp [packs, ents]
  | p :: ps, s, r, hp, hs => by
    simp only [List.length_cons] at hs ⊢
    rw [packs, List.append_assoc, intact_pack (hp p (by simp)) (by omega), intact_packs ps (s + 1) r (fun q hq => hp q (List.mem_cons_of_mem _ hq)) (by omega)]
    rw [show s + 1 + ps.length = s + (ps.length + 1) from by omega]
    simp only [ents, List.cons_append, List.length_append, Nat.add_assoc]
/-- a head of the records: a head of the entries -/
theorem intact_head : ∀ (ps : List Bs) (s : Nat) (b t : Bs), (∀ p ∈ ps, p.length ≤ 1048568) → s + ps.length < 18446744073709551616 → b ++ t = packs s ps →
    ∃ k, k ≤ ps.length ∧ (intact b s).1 = ents s (ps.take k) ∧ (intact b s).2 = (packs s (ps.take k)).length
  | [], s, b, t, _, _, h => by
    obtain ⟨rfl, rfl⟩ : b = [] ∧ t = [] := by simpa [packs] using h
    exact ⟨0, Nat.le_refl _, rfl, rfl⟩
  | p :: ps, s, b, t, hp, hs, h => by
    simp only [List.length_cons] at hs
    rw [packs] at h
    rcases List.append_eq_append_iff.1 h with ⟨a, h1, h2⟩ | ⟨a, h1, h2⟩
    · by_cases ha : a = []
      · subst ha
        have hb : b = pack s p := by simpa using h1.symm
        refine ⟨1, by simp, ?_, ?_⟩
        · have := intact_pack (hp p (by simp)) (show s < 18446744073709551616 by omega) []
          rw [List.append_nil] at this
          rw [hb, this]; rfl
        · have := intact_pack (hp p (by simp)) (show s < 18446744073709551616 by omega) []
          rw [List.append_nil] at this
          rw [hb, this]; simp [packs, intact_nil]
      · refine ⟨0, Nat.zero_le _, ?_, ?_⟩ <;> rw [intact_cut (hp p (by simp)) h1.symm ha] <;> rfl
    · obtain ⟨k, hk, e1, e2⟩ := intact_head ps (s + 1) a t (fun q hq => hp q (List.mem_cons_of_mem _ hq)) (by omega) h2.symm
      refine ⟨k + 1, by simp; omega, ?_, ?_⟩
      · rw [h1, intact_pack (hp p (by simp)) (by omega), List.take_succ_cons, ents, e1]
      · rw [h1, intact_pack (hp p (by simp)) (by omega), List.take_succ_cons, packs, List.length_append, e2]
/-- what stands intact ahead stays -/
theorem intact_more (ps : List Bs) (s : Nat) (r : Bs) (hp : ∀ p ∈ ps, p.length ≤ 1048568) (hs : s + ps.length < 18446744073709551616) :
    ∃ m, (intact (packs s ps ++ r) s).1 = ents s ps ++ m := ⟨_, by rw [intact_packs ps s r hp hs]⟩

end Go.Proofs.YtamencnachmhoaaGreatDoor.Wl

namespace Go.Proofs.YtamencnachmhoaaGreatDoor.Wl
open Go

def isDig (c : UInt8) : Prop := 48 ≤ c.toNat ∧ c.toNat ≤ 57
theorem toNat_dig {d : Nat} (h : d < 10) : (UInt8.ofNat (48 + d)).toNat = 48 + d := by rw [UInt8.toNat_ofNat']; omega
def valD (s : List UInt8) : Nat := s.foldl (fun n c => 10 * n + (c.toNat - 48)) 0
theorem valD_append (s : List UInt8) (c : UInt8) : valD (s ++ [c]) = 10 * valD s + (c.toNat - 48) := by unfold valD; rw [List.foldl_append]; rfl
theorem dec_dig (n : Nat) : ∀ c ∈ Lib.decDigits n, isDig c := by
  induction n using Nat.strongRecOn with
  | _ n ih =>
    intro c hc
    rw [Lib.decDigits] at hc
    split at hc
    · rename_i h
      obtain rfl := List.mem_singleton.1 hc
      unfold isDig; rw [toNat_dig h]; omega
    · rename_i h
      rcases List.mem_append.1 hc with hc | hc
      · exact ih (n / 10) (by omega) c hc
      · obtain rfl := List.mem_singleton.1 hc
        unfold isDig; rw [toNat_dig (by omega)]; omega
theorem dec_val (n : Nat) : valD (Lib.decDigits n) = n := by
  induction n using Nat.strongRecOn with
  | _ n ih =>
    rw [Lib.decDigits]
    split
    · rename_i h
      show 10 * 0 + ((UInt8.ofNat (48 + n)).toNat - 48) = n
      rw [toNat_dig h]; omega
    · rename_i h
      rw [valD_append, ih (n / 10) (by omega), toNat_dig (by omega)]; omega
theorem dec_len : ∀ (k n : Nat), n < 10 ^ (k + 1) → (Lib.decDigits n).length ≤ k + 1
  | 0, n, h => by rw [Lib.decDigits_one (by omega)]; simp
  | k + 1, n, h => by
    rw [Lib.decDigits]
    split
    · simp
    · rw [List.length_append]
      have := dec_len k (n / 10) (by rw [Nat.pow_succ] at h; omega)
      simp only [List.length_singleton]; omega
theorem dec_pos (n : Nat) : 1 ≤ (Lib.decDigits n).length := by
  rw [Lib.decDigits]; split <;> simp

/-- ten digits -/
def pad (n : Nat) : List UInt8 := List.replicate (10 - (Lib.decDigits n).length) 48 ++ Lib.decDigits n
theorem pad_length {n : Nat} (h : n < 10000000000) : (pad n).length = 10 := by
  have := dec_len 9 n (by omega)
  unfold pad; rw [List.length_append, List.length_replicate]; omega
theorem pad_dig (n : Nat) : ∀ c ∈ pad n, isDig c := by
  intro c hc
  rcases List.mem_append.1 hc with hc | hc
  · obtain rfl := List.eq_of_mem_replicate hc; exact ⟨by decide, by decide⟩
  · exact dec_dig n c hc
theorem valD_zeros (k : Nat) (s : List UInt8) : valD (List.replicate k 48 ++ s) = valD s := by
  induction k with
  | zero => simp
  | succ k ih => rw [List.replicate_succ, List.cons_append]; exact ih
theorem pad_val (n : Nat) : valD (pad n) = n := by unfold pad; rw [valD_zeros, dec_val]
theorem pad_inj {m n : Nat} (h : pad m = pad n) : m = n := by rw [← pad_val m, h, pad_val]

theorem foldD_lt : ∀ (s : List UInt8) (a : Nat), (∀ c ∈ s, isDig c) → a * 10 ^ s.length ≤ s.foldl (fun n c => 10 * n + (c.toNat - 48)) a ∧ s.foldl (fun n c => 10 * n + (c.toNat - 48)) a < (a + 1) * 10 ^ s.length
  | [], a, _ => by simp
  | c :: s, a, h => by
    have hc := h c (by simp)
    unfold isDig at hc
    obtain ⟨h1, h2⟩ := foldD_lt s (10 * a + (c.toNat - 48)) (fun x hx => h x (List.mem_cons_of_mem _ hx))
    rw [List.foldl_cons, List.length_cons, Nat.pow_succ]
    constructor
    · refine Nat.le_trans ?_ h1
      rw [Nat.mul_comm (10 ^ s.length) 10, ← Nat.mul_assoc]
      exact Nat.mul_le_mul_right _ (by omega)
    · refine Nat.lt_of_lt_of_le h2 ?_
      rw [Nat.mul_comm (10 ^ s.length) 10, ← Nat.mul_assoc]
      exact Nat.mul_le_mul_right _ (by omega)
/-- among digits the smaller number comes first -/
theorem before_of_lt : ∀ (s t : List UInt8) (a : Nat), s.length = t.length → (∀ c ∈ s, isDig c) → (∀ c ∈ t, isDig c) →
    s.foldl (fun n c => 10 * n + (c.toNat - 48)) a < t.foldl (fun n c => 10 * n + (c.toNat - 48)) a → bytesBefore s t = true
  | [], [], _, _, _, _, h => absurd h (Nat.lt_irrefl _)
  | [], _ :: _, _, hl, _, _, _ => by simp at hl
  | _ :: _, [], _, hl, _, _, _ => by simp at hl
  | c :: s, d :: t, a, hl, hs, ht, h => by
    have hc := hs c (by simp)
    have hd := ht d (by simp)
    unfold isDig at hc hd
    rw [List.foldl_cons, List.foldl_cons] at h
    simp only [List.length_cons, Nat.add_right_cancel_iff] at hl
    have hs' := fun x hx => hs x (List.mem_cons_of_mem _ hx)
    have ht' := fun x hx => ht x (List.mem_cons_of_mem _ hx)
    unfold bytesBefore
    by_cases hcd : c = d
    · subst hcd
      have := before_of_lt s t _ hl hs' ht' h
      simp [this]
    · have : c.toNat < d.toNat := by
        rcases Nat.lt_or_ge c.toNat d.toNat with h1 | h1
        · exact h1
        · exfalso
          have hne : c.toNat ≠ d.toNat := fun e => hcd (UInt8.toNat_inj.1 e)
          have g1 := (foldD_lt s (10 * a + (c.toNat - 48)) hs').1
          have g2 := (foldD_lt t (10 * a + (d.toNat - 48)) ht').2
          rw [hl] at g1
          have : (10 * a + (d.toNat - 48) + 1) * 10 ^ t.length ≤ (10 * a + (c.toNat - 48)) * 10 ^ t.length := Nat.mul_le_mul_right _ (by omega)
          omega
      simp [UInt8.lt_iff_toNat_lt, this]
theorem before_append (p s t : List UInt8) (h : bytesBefore s t = true) : bytesBefore (p ++ s) (p ++ t) = true := by
  induction p with
  | nil => exact h
  | cons c p ih => rw [List.cons_append, List.cons_append, bytesBefore, ih]; simp

/-- the name of a segment -/
def name (p : List UInt8) (n : Nat) : List UInt8 := p ++ ([45] ++ pad n)
theorem name_inj {p : List UInt8} {m n : Nat} (h : name p m = name p n) : m = n := by
  have := List.append_cancel_left h
  exact pad_inj (List.append_cancel_left this)
theorem name_length {p : List UInt8} {n : Nat} (h : n < 10000000000) : (name p n).length = p.length + 11 := by
  unfold name; rw [List.length_append, List.length_append, pad_length h]; simp
theorem name_before {p : List UInt8} {m n : Nat} (hn : n < 10000000000) (h : m < n) : bytesBefore (name p m) (name p n) = true := by
  refine before_append _ _ _ (before_append _ _ _ (before_of_lt _ _ 0 ?_ (pad_dig m) (pad_dig n) ?_))
  · rw [pad_length hn, pad_length (by omega)]
  · have e1 := pad_val m
    have e2 := pad_val n
    unfold valD at e1 e2
    rw [e1, e2]; exact h

/-- the prefix of a log -/
def prefixBytes : List UInt8 := [97, 98, 99, 100, 101, 102, 103, 104, 105, 106, 107, 108, 109, 110, 111, 112, 113, 114, 115, 116, 117, 118, 119, 120, 121, 122, 48, 49, 50, 51, 52, 53, 54, 55, 56, 57]
def okP (c : UInt8) : Bool := decide (97 ≤ c.toNat ∧ c.toNat ≤ 122) || decide (48 ≤ c.toNat ∧ c.toNat ≤ 57)
def validP (s : List UInt8) : Bool := s.all okP && decide (1 ≤ s.length) && decide (s.length ≤ 16)

/-- the number in the name of a segment -/
def firstOf (p s : List UInt8) : Option Nat :=
  if (p ++ [45]).isPrefixOf s && decide ((s.drop (p.length + 1)).length = 10) && (s.drop (p.length + 1)).all (fun c => decide (48 ≤ c.toNat ∧ c.toNat ≤ 57)) then some (valD (s.drop (p.length + 1))) else none
theorem firstOf_name {p : List UInt8} {n : Nat} (h : n < 10000000000) : firstOf p (name p n) = some n := by
  have hd : (name p n).drop (p.length + 1) = pad n := by
    unfold name; rw [← List.append_assoc]; exact List.drop_left' (by simp)
  have hp : (p ++ [45]).isPrefixOf (name p n) = true := by
    rw [List.isPrefixOf_iff_prefix]; exact ⟨pad n, by unfold name; rw [List.append_assoc]⟩
  unfold firstOf
  rw [hd, hp, pad_length h, pad_val, if_pos]
  simp only [decide_true, Bool.and_self, Bool.true_and, List.all_eq_true, decide_eq_true_eq]
  exact fun c hc => pad_dig n c hc

end Go.Proofs.YtamencnachmhoaaGreatDoor.Wl
