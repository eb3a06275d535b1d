/-
  Checkpoints, plain: numbers of seven bits a byte, the contents of a snapshot's file, its name.
-/
import Derived.Test.YtamencnachmhoaaGreatDoorWlRecs
namespace Go.Proofs.YtamencnachmhoaaGreatDoor.Ck
open Go
abbrev Bs := List UInt8

/-- an unsigned number, seven bits a byte, the lowest first -/
def uintF : Nat → Nat → Bs
  | 0, n => [UInt8.ofNat n]
  | k + 1, n => if n < 128 then [UInt8.ofNat n] else UInt8.ofNat (n % 128 + 128) :: uintF k (n / 128)
def uint (n : Nat) : Bs := uintF 9 n
/-- the number at the start of some bytes, its size, an error number -/
def readF : Nat → Nat → Bs → Nat × Nat × Int
  | _, _, [] => (0, 0, 19)
  | i, x, c :: r => if i = 9 ∧ 1 < c.toNat then (0, 0, 2) else if 128 ≤ c.toNat then readF (i + 1) (x + (c.toNat - 128) * 128 ^ i) r
    else if c.toNat = 0 ∧ 0 < i then (0, 0, 3) else (x + c.toNat * 128 ^ i, i + 1, 0)
def readU (b : Bs) : Nat × Nat × Int := readF 0 0 b

theorem toNat_of {n : Nat} (h : n < 256) : (UInt8.ofNat n).toNat = n := by rw [UInt8.toNat_ofNat']; omega
theorem readF_uintF : ∀ (k n i x : Nat) (r : Bs), i + k = 9 → n < 128 ^ k * 2 → (0 < n ∨ i = 0) → readF i x (uintF k n ++ r) = (x + n * 128 ^ i, i + (uintF k n).length, 0)
  | 0, n, i, x, r, hi, hn, h0 => by
    have hn2 : n < 2 := by simpa using hn
    have hn1 : n = 1 := by omega
    subst hn1
    have hi9 : i = 9 := by omega
    subst hi9
    rw [uintF, List.cons_append, readF, toNat_of (by decide), if_neg (by decide), if_neg (by decide), if_neg (by decide)]
    rfl
  | k + 1, n, i, x, r, hi, hn, h0 => by
    rw [uintF]
    split
    · rename_i hlt
      rw [List.cons_append, readF, toNat_of (by omega), if_neg (by omega), if_neg (by omega), if_neg (by omega)]
      rfl
    · rename_i hge
      have hd : n / 128 < 128 ^ k * 2 := by
        rw [Nat.pow_succ] at hn
        have e : 128 ^ k * 128 * 2 = (128 ^ k * 2) * 128 := by rw [Nat.mul_assoc, Nat.mul_assoc, Nat.mul_comm 128 2]
        rw [e] at hn
        exact Nat.div_lt_of_lt_mul (by rw [Nat.mul_comm]; exact hn)
      have ih := readF_uintF k (n / 128) (i + 1) (x + n % 128 * 128 ^ i) r (by omega) hd (.inl (by omega))
      rw [List.cons_append, readF, toNat_of (by omega), if_neg (by omega), if_pos (by omega), Nat.add_sub_cancel, ih]
      refine Prod.ext ?_ (Prod.ext ?_ rfl)
      · show x + n % 128 * 128 ^ i + n / 128 * 128 ^ (i + 1) = x + n * 128 ^ i
        have e : n / 128 * 128 ^ (i + 1) = n / 128 * 128 * 128 ^ i := by rw [Nat.pow_succ, Nat.mul_assoc, Nat.mul_comm (128 ^ i)]
        rw [e, Nat.add_assoc, ← Nat.add_mul]
        congr 2
        omega
      · show i + 1 + (uintF k (n / 128)).length = i + (_ :: uintF k (n / 128)).length
        rw [List.length_cons]; omega
theorem readU_uint {n : Nat} (h : n < 18446744073709551616) (r : Bs) : readU (uint n ++ r) = (n, (uint n).length, 0) := by
  have := readF_uintF 9 n 0 0 r rfl (by have : (128 : Nat) ^ 9 * 2 = 18446744073709551616 := by decide
                                        omega) (.inr rfl)
  unfold readU uint
  rw [this]
  simp
theorem readF_sound : ∀ (b : Bs) (i x v m : Nat), i ≤ 9 → readF i x b = (v, m, 0) → ∃ n, b.take (m - i) = uintF (9 - i) n ∧ v = x + n * 128 ^ i ∧ i < m ∧ m - i ≤ b.length ∧ (0 < n ∨ i = 0) ∧ n < 128 ^ (9 - i) * 2
  | [], i, x, v, m, _, h => by simp [readF] at h
  | c :: r, i, x, v, m, hi, h => by
    rw [readF] at h
    have hc := c.toNat_lt
    split at h
    · simp at h
    · rename_i h9
      split at h
      · rename_i h128
        have hi8 : i ≤ 8 := by omega
        obtain ⟨n', h1, h2, h3, h4, h5, h6⟩ := readF_sound r (i + 1) _ v m (by omega) h
        have hn' : 0 < n' := by omega
        obtain ⟨k, hk⟩ : ∃ k, 9 - i = k + 1 := ⟨8 - i, by omega⟩
        have hk2 : 9 - (i + 1) = k := by omega
        rw [hk2] at h1 h6
        obtain ⟨j, hj⟩ : ∃ j, m - i = j + 1 := ⟨m - i - 1, by omega⟩
        have hj2 : m - (i + 1) = j := by omega
        rw [hj2] at h1 h4
        refine ⟨(c.toNat - 128) + 128 * n', ?_, ?_, by omega, by rw [hj, List.length_cons]; omega, .inl (by omega), ?_⟩
        · rw [hk, hj, uintF, if_neg (by omega), List.take_succ_cons, h1]
          have e1 : (c.toNat - 128 + 128 * n') % 128 + 128 = c.toNat := by omega
          have e2 : (c.toNat - 128 + 128 * n') / 128 = n' := by omega
          rw [e1, e2, UInt8.ofNat_toNat]
        · rw [h2, Nat.pow_succ, Nat.add_mul, Nat.add_assoc]
          congr 2
          rw [Nat.mul_comm (128 ^ i) 128, ← Nat.mul_assoc, Nat.mul_comm n' 128]
        · rw [hk, Nat.pow_succ]
          have : 128 ^ k * 128 * 2 = 128 * (128 ^ k * 2) := by rw [Nat.mul_comm (128 ^ k) 128, Nat.mul_assoc]
          rw [this]
          generalize 128 ^ k * 2 = z at *
          omega
      · rename_i h128
        split at h
        · simp at h
        · rename_i h0
          simp only [Prod.mk.injEq, and_true] at h
          obtain ⟨rfl, rfl⟩ := h
          refine ⟨c.toNat, ?_, rfl, by omega, by rw [List.length_cons]; omega, by omega, ?_⟩
          · rw [Nat.add_sub_cancel_left, List.take_succ_cons, List.take_zero]
            cases hk : 9 - i with
            | zero => rw [uintF, UInt8.ofNat_toNat]
            | succ k => rw [uintF, if_pos (by omega), UInt8.ofNat_toNat]
          · cases hk : 9 - i with
            | zero => have : ¬ (1 < c.toNat) := fun h => h9 ⟨by omega, h⟩
                      simp; omega
            | succ k =>
              rw [Nat.pow_succ]
              have : 0 < 128 ^ k := Nat.pow_pos (by decide)
              generalize 128 ^ k = z at *
              omega
theorem readU_sound {b : Bs} {v m : Nat} (h : readU b = (v, m, 0)) : b.take m = uint v ∧ 0 < m ∧ m ≤ b.length ∧ v < 18446744073709551616 := by
  obtain ⟨n, h1, h2, h3, h4, _, h6⟩ := readF_sound b 0 0 v m (by decide) h
  have e : v = n := by rw [h2]; simp
  subst e
  refine ⟨h1, h3, h4, ?_⟩
  have : (128 : Nat) ^ 9 * 2 = 18446744073709551616 := by decide
  simp only [Nat.sub_zero] at h6
  omega
theorem uint_length_pos (n : Nat) : 0 < (uint n).length := by
  unfold uint
  rw [uintF]
  split <;> simp
theorem uintF_length : ∀ (k n : Nat), (uintF k n).length ≤ k + 1
  | 0, _ => by simp [uintF]
  | k + 1, n => by
    rw [uintF]
    split
    · simp
    · have := uintF_length k (n / 128)
      rw [List.length_cons]; omega
theorem uint_length (n : Nat) : (uint n).length ≤ 10 := uintF_length 9 n

/-- a byte slice with its length ahead: what it is, its size, an error number -/
def readB (b : Bs) : Bs × Nat × Int :=
  if (readU b).2.2 ≠ 0 then ([], 0, (readU b).2.2) else if 1048576 < (readU b).1 then ([], 0, 5) else if b.length - (readU b).2.1 < (readU b).1 then ([], 0, 19)
  else ((b.drop (readU b).2.1).take (readU b).1, (readU b).2.1 + (readU b).1, 0)
/-- the contents of the file with a snapshot -/
def body (n : Nat) (data : Bs) : Bs := uint n ++ (uint data.length ++ data)
def encode (n : Nat) (data : Bs) : Bs := Wl.enc (body n data)
/-- the snapshot in the payload of a record -/
def decodeP (p : Bs) : Nat × Bs × Int :=
  if (readU p).2.2 ≠ 0 then (0, [], (readU p).2.2)
  else if (readB (p.drop (readU p).2.1)).2.2 ≠ 0 then (0, [], (readB (p.drop (readU p).2.1)).2.2)
  else if (readU p).2.1 + (readB (p.drop (readU p).2.1)).2.1 < p.length then (0, [], 5)
  else if 1000000000 < (readU p).1 then (0, [], 2)
  else if 1000000 < (readB (p.drop (readU p).2.1)).1.length then (0, [], 5)
  else ((readU p).1, (readB (p.drop (readU p).2.1)).1, 0)
def decode (b : Bs) : Nat × Bs × Int :=
  if (Wl.nextR b).2.2 ≠ 0 then (0, [], (Wl.nextR b).2.2) else if (Wl.nextR b).2.1 < b.length then (0, [], 5) else decodeP (Wl.nextR b).1

theorem body_length (n : Nat) (data : Bs) : (body n data).length ≤ data.length + 20 := by
  unfold body
  rw [List.length_append, List.length_append]
  have := uint_length n
  have := uint_length data.length
  omega
theorem decodeP_body {n : Nat} {data : Bs} (hn : n ≤ 1000000000) (hd : data.length ≤ 1000000) : decodeP (body n data) = (n, data, 0) := by
  have h1 : readU (body n data) = (n, (uint n).length, 0) := readU_uint (by omega) _
  have h2 : readU (uint data.length ++ data) = (data.length, (uint data.length).length, 0) := readU_uint (by omega) _
  have h3 : (body n data).drop (uint n).length = uint data.length ++ data := List.drop_left' rfl
  have h4 : readB (uint data.length ++ data) = (data, (uint data.length).length + data.length, 0) := by
    unfold readB
    rw [h2]
    simp only [List.length_append]
    rw [if_neg (by simp), if_neg (by omega), if_neg (by omega), List.drop_left' rfl, List.take_of_length_le (Nat.le_refl _)]
  unfold decodeP
  rw [h1]
  simp only []
  rw [h3, h4]
  simp only []
  have h5 : (body n data).length = (uint n).length + ((uint data.length).length + data.length) := by unfold body; simp [List.length_append]
  rw [if_neg (by simp), if_neg (by simp), if_neg (by omega), if_neg (by omega), if_neg (by omega)]
theorem decode_encode {n : Nat} {data : Bs} (hn : n ≤ 1000000000) (hd : data.length ≤ 1000000) : decode (encode n data) = (n, data, 0) := by
  have hb := body_length n data
  have h1 : Wl.nextR (encode n data) = (body n data, 8 + (body n data).length, 0) := by
    have := Wl.nextR_enc (p := body n data) (by omega) []
    rwa [List.append_nil] at this
  have h2 : (encode n data).length = 8 + (body n data).length := Wl.enc_length _
  unfold decode
  rw [h1]
  simp only []
  rw [if_neg (by simp), if_neg (by omega), decodeP_body hn hd]
theorem decodeP_err {p : Bs} : (decodeP p).2.2 ≠ 0 → (decodeP p).1 = 0 ∧ (decodeP p).2.1 = [] := by
  unfold decodeP
  repeat' split
  all_goals first | exact fun _ => ⟨rfl, rfl⟩ | exact fun h => absurd rfl h
theorem decode_err {b : Bs} : (decode b).2.2 ≠ 0 → (decode b).1 = 0 ∧ (decode b).2.1 = [] := by
  unfold decode
  split
  · exact fun _ => ⟨rfl, rfl⟩
  · split
    · exact fun _ => ⟨rfl, rfl⟩
    · exact decodeP_err
theorem readB_sound {b d : Bs} {m : Nat} (h : readB b = (d, m, 0)) : b.take m = uint d.length ++ d ∧ m ≤ b.length := by
  unfold readB at h
  split at h
  · rename_i h1; simp only [Prod.mk.injEq] at h; exact absurd h.2.2 h1
  · rename_i h1
    split at h
    · simp at h
    · split at h
      · simp at h
      · rename_i h2 h3
        obtain ⟨v, k, e, hr⟩ : ∃ v k e, readU b = (v, k, e) := ⟨_, _, _, rfl⟩
        rw [hr] at h h1 h2 h3
        simp only [Prod.mk.injEq, and_true] at h h1 h2 h3
        simp only [ne_eq, Decidable.not_not] at h1
        subst h1
        obtain ⟨hs1, hs2, hs3, hs4⟩ := readU_sound hr
        obtain ⟨h4, rfl⟩ := h
        have hdl : d.length = v := by rw [← h4, List.length_take, List.length_drop]; omega
        refine ⟨?_, by omega⟩
        rw [List.take_add, hs1, hdl, h4]
theorem decodeP_sound {p data : Bs} {n : Nat} (h : decodeP p = (n, data, 0)) : p = body n data ∧ n ≤ 1000000000 ∧ data.length ≤ 1000000 := by
  unfold decodeP at h
  obtain ⟨v, k, e, hr⟩ : ∃ v k e, readU p = (v, k, e) := ⟨_, _, _, rfl⟩
  rw [hr] at h
  simp only [] at h
  split at h
  · rename_i h1; simp only [Prod.mk.injEq] at h; exact absurd h.2.2 h1
  · rename_i h1
    simp only [ne_eq, Decidable.not_not] at h1
    subst h1
    obtain ⟨d, m, e2, hr2⟩ : ∃ d m e, readB (p.drop k) = (d, m, e) := ⟨_, _, _, rfl⟩
    rw [hr2] at h
    simp only [] at h
    split at h
    · rename_i h1; simp only [Prod.mk.injEq] at h; exact absurd h.2.2 h1
    · rename_i h1
      simp only [ne_eq, Decidable.not_not] at h1
      subst h1
      split at h
      · simp at h
      · split at h
        · simp at h
        · split at h
          · simp at h
          · rename_i h3 h4 h5
            simp only [Prod.mk.injEq, and_true] at h
            obtain ⟨rfl, rfl⟩ := h
            obtain ⟨a1, a2, a3, a4⟩ := readU_sound hr
            obtain ⟨b1, b2⟩ := readB_sound hr2
            rw [List.length_drop] at b2
            refine ⟨?_, by omega, by omega⟩
            unfold body
            have hkm : k + m = p.length := by omega
            rw [← a1, ← b1, ← List.take_add, hkm, List.take_length]
theorem nextR_sound {b p : Bs} {m : Nat} (h : Wl.nextR b = (p, m, 0)) : b.take m = Wl.enc p ∧ p.length ≤ 1048576 := by
  unfold Wl.nextR at h
  split at h
  · simp at h
  · split at h
    · simp at h
    · split at h
      · simp at h
      · split at h
        · simp at h
        · rename_i h1 h2 h3 h4
          simp only [Prod.mk.injEq, and_true] at h
          obtain ⟨hp, rfl⟩ := h
          simp only [ne_eq, Decidable.not_not] at h4
          rw [hp] at h4
          have hpl : p.length = Wl.num b := by rw [← hp, List.length_take, List.length_drop]; omega
          have hw : ∀ l : Bs, 4 ≤ l.length → l.take 4 = Wl.word (Wl.num l) := by
            intro l hl
            match l, hl with
            | a :: b :: c :: d :: r, _ =>
              show [a, b, c, d] = [_, _, _, _]
              have ha := a.toNat_lt
              have hb := b.toNat_lt
              have hc := c.toNat_lt
              have hd := d.toNat_lt
              have e1 : UInt8.ofNat (Wl.num (a :: b :: c :: d :: r)) = a := by apply UInt8.toNat_inj.1; rw [UInt8.toNat_ofNat']; show (a.toNat + 256 * b.toNat + 65536 * c.toNat + 16777216 * d.toNat) % 2 ^ 8 = _; omega
              have e2 : UInt8.ofNat (Wl.num (a :: b :: c :: d :: r) / 256) = b := by apply UInt8.toNat_inj.1; rw [UInt8.toNat_ofNat']; show (a.toNat + 256 * b.toNat + 65536 * c.toNat + 16777216 * d.toNat) / 256 % 2 ^ 8 = _; omega
              have e3 : UInt8.ofNat (Wl.num (a :: b :: c :: d :: r) / 65536) = c := by apply UInt8.toNat_inj.1; rw [UInt8.toNat_ofNat']; show (a.toNat + 256 * b.toNat + 65536 * c.toNat + 16777216 * d.toNat) / 65536 % 2 ^ 8 = _; omega
              have e4 : UInt8.ofNat (Wl.num (a :: b :: c :: d :: r) / 16777216) = d := by apply UInt8.toNat_inj.1; rw [UInt8.toNat_ofNat']; show (a.toNat + 256 * b.toNat + 65536 * c.toNat + 16777216 * d.toNat) / 16777216 % 2 ^ 8 = _; omega
              rw [e1, e2, e3, e4]
          have t1 := hw b (by omega)
          have t2 := hw (b.drop 4) (by rw [List.length_drop]; omega)
          refine ⟨?_, by omega⟩
          unfold Wl.enc
          rw [hpl, ← t1, ← hpl, h4, ← t2]
          have e1 : b.take (8 + Wl.num b) = b.take 4 ++ ((b.drop 4).take 4 ++ ((b.drop 4).drop 4).take (Wl.num b)) := by
            rw [← List.take_add, ← List.take_add, ← Nat.add_assoc]
          rw [List.drop_drop, hp, ← hpl] at e1
          exact e1
theorem decode_sound {b data : Bs} {n : Nat} (h : decode b = (n, data, 0)) : b = encode n data ∧ n ≤ 1000000000 ∧ data.length ≤ 1000000 := by
  unfold decode at h
  split at h
  · rename_i h1; simp only [Prod.mk.injEq] at h; exact absurd h.2.2 h1
  · rename_i h1
    simp only [ne_eq, Decidable.not_not] at h1
    split at h
    · simp at h
    · rename_i h2
      obtain ⟨p, m, e, hr⟩ : ∃ p m e, Wl.nextR b = (p, m, e) := ⟨_, _, _, rfl⟩
      have hsz := Wl.nextR_size h1
      rw [hr] at h h1 h2 hsz
      simp only [] at h h1 h2 hsz
      subst h1
      obtain ⟨e1, e2⟩ := nextR_sound hr
      obtain ⟨f1, f2, f3⟩ := decodeP_sound h
      refine ⟨?_, f2, f3⟩
      have hm : m = b.length := by omega
      rw [hm, List.take_length] at e1
      rw [e1, f1]
      rfl

/-! ### the names of files -/
def ckpt : Bs := [46, 99, 107, 112, 116]
def tmpExt : Bs := [46, 116, 109, 112]
def tmpName (nm : Bs) : Bs := nm ++ tmpExt
def fileName (nm : Bs) (n : Nat) : Bs := Wl.name nm n ++ ckpt
/-- the number in the name of a snapshot's file -/
def numOf (nm s : Bs) : Option Nat :=
  if ckpt.isSuffixOf s then match Wl.firstOf nm (s.take (s.length - 5)) with
    | some n => if n ≤ 1000000000 then some n else none
    | none => none
  else none
theorem fileName_length {nm : Bs} {n : Nat} (h : n < 10000000000) : (fileName nm n).length = nm.length + 16 := by
  unfold fileName
  rw [List.length_append, Wl.name_length h]; rfl
theorem numOf_fileName {nm : Bs} {n : Nat} (h : n ≤ 1000000000) : numOf nm (fileName nm n) = some n := by
  have hs : ckpt.isSuffixOf (fileName nm n) = true := by
    rw [List.isSuffixOf_iff_suffix]; exact ⟨Wl.name nm n, rfl⟩
  have ht : (fileName nm n).take ((fileName nm n).length - 5) = Wl.name nm n := by
    unfold fileName
    rw [List.length_append]
    exact List.take_left' (by show _ = _ + 5 - 5; omega)
  unfold numOf
  rw [hs, if_pos rfl, ht, Wl.firstOf_name (by omega)]
  show (if n ≤ 1000000000 then some n else none) = _
  rw [if_pos h]
theorem fileName_inj {nm : Bs} {m n : Nat} (h : fileName nm m = fileName nm n) : m = n := Wl.name_inj (List.append_cancel_right h)

end Go.Proofs.YtamencnachmhoaaGreatDoor.Ck
