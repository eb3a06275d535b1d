/-
  The line of a valid request, plain: its tokens are read to this request; no program in sight.
-/
import Derived.Test.YthijakidnkhbnaaGreatDoorPlDec
import Derived.Test.YthijakidnkhbnaaGreatDoorPlForm
namespace Go.Proofs.YthijakidnkhbnaaGreatDoor.Ps
open Go

theorem ite_zero {c : Prop} [Decidable c] {n x : Int} (h : (if c then n else x) = 0) (hn : n ≠ 0) : ¬ c ∧ x = 0 := by
  by_cases hc : c
  · rw [if_pos hc] at h; exact absurd h hn
  · rw [if_neg hc] at h; exact ⟨hc, h⟩
/-! ### what a valid request is -/
structure InsOk (V : Nat → ByteArray → Bool) (i : Ins) : Prop where
  kind : i.kind = 0 ∨ i.kind = 1 ∨ i.kind = 2 ∨ i.kind = 3 ∨ i.kind = 4
  ref : V 2 i.ref = true
  sender : V 1 i.sender = true
  cpN : (i.kind = 3 ∨ i.kind = 4) → i.counterparty = ⟨#[]⟩
  cpY : ¬ (i.kind = 3 ∨ i.kind = 4) → V 1 i.counterparty = true
  side : i.side = 0 ∨ i.side = 1
  sideN : ¬ (i.kind = 1 ∨ i.kind = 2) → i.side = 0
  asset0 : i.kind = 0 → i.asset = sCash
  asset : i.kind ≠ 0 → V 0 i.asset = true
  qty : i.kind ≠ 0 → 1 ≤ i.quantity ∧ i.quantity ≤ maxAm
  qty0 : i.kind = 0 → i.quantity = 0
  am : (i.kind = 0 ∨ i.kind = 1) → 1 ≤ i.amount ∧ i.amount ≤ maxAm
  am0 : ¬ (i.kind = 0 ∨ i.kind = 1) → i.amount = 0
  settle : 0 ≤ i.settleDay ∧ i.settleDay ≤ maxDay
  trade : (i.kind = 1 ∨ i.kind = 2) → 0 ≤ i.tradeDay ∧ i.tradeDay ≤ i.settleDay
  trade0 : ¬ (i.kind = 1 ∨ i.kind = 2) → i.tradeDay = 0
  prio : 0 ≤ i.priority ∧ i.priority ≤ 2
  prio0 : (i.kind = 3 ∨ i.kind = 4) → i.priority = 0
  part : i.partial_ = true → i.kind = 1 ∨ i.kind = 2
  lot : i.partial_ = true → 1 ≤ i.minLot ∧ i.minLot ≤ i.quantity
  lot0 : i.partial_ = false → i.minLot = 0
  hold : (i.kind = 3 ∨ i.kind = 4) → i.hold = false
  res : i.reserve = true → i.kind = 0 ∧ i.priority = 2
  links0 : (i.kind = 3 ∨ i.kind = 4) → i.links = []
  links : i.links.length ≤ 8
  link : ∀ x ∈ i.links, (x.type = 0 ∨ x.type = 1) ∧ V 2 x.ref = true
theorem linksE_ok (V : Nat → ByteArray → Bool) (i : Ins) : ∀ (r seen : List Link), linksE V i seen r = 0 → ∀ x ∈ r, (x.type = 0 ∨ x.type = 1) ∧ V 2 x.ref = true
  | [], _, _, x, hx => by cases hx
  | y :: r, seen, h, x, hx => by
    unfold linksE at h
    split at h
    · cases h
    rename_i h1
    split at h
    · cases h
    rename_i h2
    split at h
    · cases h
    split at h
    · cases h
    rcases List.mem_cons.1 hx with rfl | hx
    · exact ⟨by omega, by simpa using h2⟩
    · exact linksE_ok V i r _ h x hx
theorem insE_ok (V : Nat → ByteArray → Bool) (i : Ins) (h : insE V i = 0) : InsOk V i := by
  unfold insE at h
  obtain ⟨r1, h⟩ := ite_zero h (by decide)
  obtain ⟨r2, h⟩ := ite_zero h (by decide)
  obtain ⟨r3, h⟩ := ite_zero h (by decide)
  obtain ⟨r4, h⟩ := ite_zero h (by decide)
  obtain ⟨r5, h⟩ := ite_zero h (by decide)
  obtain ⟨r6, h⟩ := ite_zero h (by decide)
  obtain ⟨r7, h⟩ := ite_zero h (by decide)
  obtain ⟨r8, h⟩ := ite_zero h (by decide)
  obtain ⟨r9, h⟩ := ite_zero h (by decide)
  obtain ⟨r10, h⟩ := ite_zero h (by decide)
  obtain ⟨r11, h⟩ := ite_zero h (by decide)
  obtain ⟨r12, h⟩ := ite_zero h (by decide)
  obtain ⟨r13, h⟩ := ite_zero h (by decide)
  obtain ⟨r14, h⟩ := ite_zero h (by decide)
  obtain ⟨r15, h⟩ := ite_zero h (by decide)
  obtain ⟨r16, h⟩ := ite_zero h (by decide)
  obtain ⟨r17, h⟩ := ite_zero h (by decide)
  obtain ⟨r18, h⟩ := ite_zero h (by decide)
  obtain ⟨r19, h⟩ := ite_zero h (by decide)
  obtain ⟨r20, h⟩ := ite_zero h (by decide)
  have k1 : i.kind = 0 ∨ i.kind = 1 ∨ i.kind = 2 ∨ i.kind = 3 ∨ i.kind = 4 := by omega
  exact {
    kind := k1
    ref := by simpa using r2
    sender := by simpa using r3
    cpN := fun hk => Classical.byContradiction fun hc => r4 ⟨hk, hc⟩
    cpY := fun hk => by
      cases hv : V 1 i.counterparty with
      | true => rfl
      | false => exact absurd ⟨hk, hv⟩ r5
    side := by omega
    sideN := fun hk => Classical.byContradiction fun hc => r8 ⟨hk, hc⟩
    asset0 := fun hk => by
      rw [if_pos hk] at r9
      exact Classical.byContradiction r9
    asset := fun hk => by
      rw [if_neg hk] at r9
      exact Classical.byContradiction r9
    qty := fun hk => by
      rw [if_pos hk] at r10
      exact Classical.byContradiction r10
    qty0 := fun hk => by
      rw [if_neg (by omega)] at r10
      exact Classical.byContradiction r10
    am := fun hk => by
      rw [if_pos hk] at r11
      exact Classical.byContradiction r11
    am0 := fun hk => by
      rw [if_neg hk] at r11
      exact Classical.byContradiction r11
    settle := Classical.byContradiction r12
    trade := fun hk => Classical.byContradiction fun hc => r13 (.inl ⟨hk, hc⟩)
    trade0 := fun hk => Classical.byContradiction fun hc => r13 (.inr ⟨hk, hc⟩)
    prio := by omega
    prio0 := fun hk => by omega
    part := fun hp => Classical.byContradiction fun hc => r15 ⟨hp, hc⟩
    lot := fun hp => by
      rw [hp] at r16
      simp only [if_true, true_and] at r16
      omega
    lot0 := fun hp => by
      rw [hp] at r16
      simp only [Bool.false_eq_true, if_false, false_and, false_or] at r16
      omega
    hold := fun hk => by
      cases hv : i.hold with
      | false => rfl
      | true => exact absurd ⟨hv, hk⟩ r17
    res := fun hp => by
      have hn : ¬ (i.kind ≠ 0 ∨ i.priority ≠ 2) := fun hc => r18 ⟨hp, hc⟩
      omega
    links0 := fun hk => List.eq_nil_of_length_eq_zero (by omega)
    links := by omega
    link := linksE_ok V i _ _ h }

theorem Ins.none_eq {i : Ins} (h : i.none) : i = {} := by
  obtain ⟨h1, h2, h3, h4, h5, h6, h7, h8, h9, h10, h11, h12, h13, h14, h15, h16⟩ := h
  cases i
  simp only at h1 h2 h3 h4 h5 h6 h7 h8 h9 h10 h11 h12 h13 h14 h15 h16
  have h16 := List.eq_nil_of_length_eq_zero h16
  subst h1 h2 h3 h4 h5 h6 h7 h8 h9 h10 h11 h12 h13 h14 h15 h16
  rfl
theorem Amd.none_eq {a : Amd} (h : a.none) : a = {} := by
  obtain ⟨h1, h2, h3, h4, h5, h6, h7, h8, h9⟩ := h
  cases a
  simp only at h1 h2 h3 h4 h5 h6 h7 h8 h9
  subst h1 h2 h3 h4 h5 h6 h7 h8 h9
  rfl

structure AmdOk (a : Amd) : Prop where
  some : a.hasAmount = true ∨ a.hasSettleDay = true ∨ a.hasPriority = true ∨ a.hasPartial = true
  am0 : a.hasAmount = false → a.amount = 0
  am : a.hasAmount = true → 1 ≤ a.amount ∧ a.amount ≤ maxAm
  day0 : a.hasSettleDay = false → a.settleDay = 0
  day : 0 ≤ a.settleDay ∧ a.settleDay ≤ maxDay
  prio0 : a.hasPriority = false → a.priority = 0
  prio : 0 ≤ a.priority ∧ a.priority ≤ 2
  part0 : a.hasPartial = false → a.partial_ = false
  lot : a.partial_ = true → 1 ≤ a.minLot ∧ a.minLot ≤ maxAm
  lot0 : a.partial_ = false → a.minLot = 0
theorem amdE_ok (a : Amd) (h : amdE a = 0) : AmdOk a := by
  unfold amdE at h
  obtain ⟨r1, h⟩ := ite_zero h (by decide)
  obtain ⟨r2, h⟩ := ite_zero h (by decide)
  obtain ⟨r3, h⟩ := ite_zero h (by decide)
  obtain ⟨r4, h⟩ := ite_zero h (by decide)
  obtain ⟨r5, h⟩ := ite_zero h (by decide)
  obtain ⟨r6, _⟩ := ite_zero h (by decide)
  exact {
    some := by
      cases h1 : a.hasAmount <;> cases h2 : a.hasSettleDay <;> cases h3 : a.hasPriority <;> cases h4 : a.hasPartial <;> simp_all
    am0 := fun hk => Classical.byContradiction fun hc => r2 (.inl ⟨hk, hc⟩)
    am := fun hk => by
      rw [if_pos hk] at r3
      exact Classical.byContradiction r3
    day0 := fun hk => Classical.byContradiction fun hc => r2 (.inr (.inl ⟨hk, hc⟩))
    day := Classical.byContradiction r4
    prio0 := fun hk => Classical.byContradiction fun hc => r2 (.inr (.inr (.inl ⟨hk, hc⟩)))
    prio := Classical.byContradiction r5
    part0 := fun hk => by
      cases hv : a.partial_ with
      | false => rfl
      | true => exact absurd (.inr (.inr (.inr ⟨hk, .inl hv⟩))) r2
    lot := fun hk => by
      rw [if_pos hk] at r6
      exact Classical.byContradiction r6
    lot0 := fun hk => by
      rw [if_neg (by simp [hk])] at r6
      exact Classical.byContradiction r6 }

/-- a valid request: an instruction's, an amendment, or neither -/
theorem reqE_ok (V : Nat → ByteArray → Bool) (q : Req) (h : reqE V q = 0) : V 1 q.sender = true ∧ V 2 q.ref = true ∧
    ((q.op = 0 ∧ InsOk V q.ins ∧ q = { op := 0, sender := q.ins.sender, ref := q.ins.ref, ins := q.ins }) ∨ (q.op = 1 ∧ AmdOk q.amd ∧ q = { op := 1, sender := q.sender, ref := q.ref, amd := q.amd }) ∨ ((q.op = 2 ∨ q.op = 3 ∨ q.op = 4) ∧ q = { op := q.op, sender := q.sender, ref := q.ref })) := by
  unfold reqE at h
  split at h
  · cases h
  rename_i r1
  split at h
  · cases h
  rename_i r2
  split at h
  · cases h
  rename_i r3
  refine ⟨by simpa using r2, by simpa using r3, ?_⟩
  split at h
  · rename_i h0
    left
    split at h
    · rename_i hz; exact absurd h hz
    rename_i r4
    split at h
    · cases h
    rename_i r5
    split at h
    · cases h
    rename_i r6
    have r4 : insE V q.ins = 0 := Classical.byContradiction r4
    have r6 : q.amd.none := Classical.byContradiction r6
    refine ⟨h0, insE_ok V _ r4, ?_⟩
    have e1 : q.ins.ref = q.ref := Classical.byContradiction fun hc => r5 (.inl hc)
    have e2 : q.ins.sender = q.sender := Classical.byContradiction fun hc => r5 (.inr hc)
    have e3 := Amd.none_eq r6
    cases q
    simp only at h0 e1 e2 e3
    subst h0 e3
    simp only [e1, e2]
  · rename_i h0
    right
    split at h
    · cases h
    rename_i r4
    have e3 := Ins.none_eq (Classical.byContradiction r4)
    split at h
    · rename_i h1
      left
      refine ⟨h1, amdE_ok _ h, ?_⟩
      cases q
      simp only at h1 e3
      subst h1 e3
      rfl
    · rename_i h1
      right
      split at h
      · cases h
      rename_i r6
      have e4 := Amd.none_eq (Classical.byContradiction r6)
      refine ⟨by omega, ?_⟩
      cases q
      simp only at e3 e4
      subst e3 e4
      rfl

/-! ### tokens -/
/-- texts as tokens from a place on -/
def Toks (l : List Tok) (a : Nat) (ts : List ByteArray) : Prop := ∀ (j : Nat) (t : ByteArray), ts[j]? = some t → TokAt l (a + j) (Lx.classify t).1 t
theorem Toks.head {l : List Tok} {a : Nat} {t : ByteArray} {ts : List ByteArray} (h : Toks l a (t :: ts)) : TokAt l a (Lx.classify t).1 t := h 0 t rfl
theorem Toks.tail {l : List Tok} {a : Nat} {t : ByteArray} {ts : List ByteArray} (h : Toks l a (t :: ts)) : Toks l (a + 1) ts := fun j x hx => by
  have := h (j + 1) x (by simpa using hx)
  rwa [show a + (j + 1) = a + 1 + j from by omega] at this
theorem Toks.left {l : List Tok} {a : Nat} {ts us : List ByteArray} (h : Toks l a (ts ++ us)) : Toks l a ts := fun j x hx =>
  h j x (by rw [List.getElem?_append_left (List.getElem?_eq_some_iff.1 hx).1]; exact hx)
theorem Toks.right {l : List Tok} {a : Nat} {ts us : List ByteArray} (h : Toks l a (ts ++ us)) : Toks l (a + ts.length) us := fun j x hx => by
  have := h (ts.length + j) x (by rw [List.getElem?_append_right (by omega)]; simpa using hx)
  rwa [show a + (ts.length + j) = a + ts.length + j from by omega] at this
theorem TokAt.of {l : List Tok} {a : Nat} {t : ByteArray} {k : Int} (h : TokAt l a (Lx.classify t).1 t) (hk : Lx.classify t = (k, 0)) : TokAt l a k t := by rw [hk] at h; exact h

def bw (w : Bs) : ByteArray := ⟨w.toArray⟩
def decT (n : Int) : ByteArray := ⟨(dec n.toNat).toArray⟩
def cashT (n : Int) : ByteArray := ⟨(cents n.toNat).toArray⟩
/-- what the reader says of the texts of a line -/
structure LineE (E : Env) (D : Int → ByteArray) : Prop where
  named : ∀ k s, k < 3 → E.valid k s = true → Lx.all Lx.named s.data.toList = true ∧ s.size ≤ 32
  upper : ∀ k s, k < 2 → E.valid k s = true → Lx.classify s = (1, 0)
  number : ∀ n : Int, 1 ≤ n → n ≤ maxAm → E.number (decT n) = (n, 0)
  cash : ∀ n : Int, 1 ≤ n → n ≤ maxAm → E.cash (cashT n) = (n, 0)
  date : ∀ n : Int, 0 ≤ n → n ≤ maxDay → E.date (D n) = (n, 0)
  day : ∀ n : Int, 0 ≤ n → n ≤ maxDay → Lx.classify (D n) = (4, 0)
  daySolid : ∀ n : Int, 0 ≤ n → n ≤ maxDay → Lx.solid (D n).data.toList = true ∧ (D n).data.toList ≠ []
/-- a text is a token -/
def TokG (t : ByteArray) : Prop := Lx.solid t.data.toList = true ∧ t.data.toList ≠ [] ∧ (Lx.classify t).2 = 0
section
variable {E : Env} {D : Int → ByteArray}
theorem LineE.refK (hE : LineE E D) {s : ByteArray} (h : E.valid 2 s = true) : (Lx.classify s).1 ∈ ([1, 2, 4] : List Int) ∧ TokG s := by
  obtain ⟨h1, h2⟩ := hE.named 2 s (by omega) h
  obtain ⟨k, hk, hc⟩ := named_classify s h1 h2
  obtain ⟨h3, h4⟩ := named_solid h1
  exact ⟨by rw [hc]; exact hk, h3, h4, by rw [hc]⟩
theorem LineE.upG (hE : LineE E D) {k : Nat} {s : ByteArray} (hk : k < 2) (h : E.valid k s = true) : TokG s := by
  obtain ⟨h1, h2⟩ := hE.named k s (by omega) h
  obtain ⟨h3, h4⟩ := named_solid h1
  exact ⟨h3, h4, by rw [hE.upper k s hk h]⟩
theorem decT_ok {n : Int} (h1 : 1 ≤ n) (h2 : n ≤ maxAm) : Lx.classify (decT n) = (2, 0) ∧ TokG (decT n) := by
  unfold maxAm at h2
  have hc := dec_classify n.toNat (by omega) (by omega)
  obtain ⟨d1, d2, _⟩ := dec_facts n.toNat
  exact ⟨hc, digs_solid d1, d2, by show (Lx.classify ⟨(dec n.toNat).toArray⟩).2 = 0; rw [hc]⟩
theorem cashT_ok {n : Int} (h2 : n ≤ maxAm) : Lx.classify (cashT n) = (3, 0) ∧ TokG (cashT n) := by
  unfold maxAm at h2
  have hc := cents_classify n.toNat (by omega)
  refine ⟨hc, cents_solid _, ?_, by show (Lx.classify ⟨(cents n.toNat).toArray⟩).2 = 0; rw [hc]⟩
  show cents n.toNat ≠ []
  unfold cents
  simp
theorem LineE.dayG (hE : LineE E D) {n : Int} (h1 : 0 ≤ n) (h2 : n ≤ maxDay) : TokG (D n) := ⟨(hE.daySolid n h1 h2).1, (hE.daySolid n h1 h2).2, by rw [hE.day n h1 h2]⟩
end
/-- a word of a line, by evaluation -/
def wordB (w : Bs) : Bool := decide (Lx.classify (bw w) = (0, 0)) && Lx.solid w && !w.isEmpty
theorem wordB_ok {w : Bs} (h : wordB w = true) : Lx.classify (bw w) = (0, 0) ∧ TokG (bw w) := by
  unfold wordB at h
  simp only [Bool.and_eq_true, decide_eq_true_eq, Bool.not_eq_true', List.isEmpty_eq_false_iff] at h
  exact ⟨h.1.1, h.1.2, h.2, by rw [h.1.1]⟩
theorem Toks.word {l : List Tok} {a : Nat} {w : Bs} (h : TokAt l a (Lx.classify (bw w)).1 (bw w)) (hw : wordB w = true) : TokAt l a 0 (bw w) := h.of (wordB_ok hw).1

/-! ### options -/
def prioW (p : Int) : Bs := if p = 0 then sNormal else if p = 1 then sHigh else sUrgent
def lnkT (x : Link) : List ByteArray := [bw (if x.type = 0 then sWith else sAfter), x.ref]
def partT (i : Ins) : List ByteArray := if i.partial_ = true then [bw sPartial, decT i.minLot] else []
def holdT (i : Ins) : List ByteArray := if i.hold = true then [bw sHold] else []
def resT (i : Ins) : List ByteArray := if i.reserve = true then [bw sReserve] else []
def optsT (i : Ins) : List ByteArray := bw (prioW i.priority) :: (partT i ++ (holdT i ++ (resT i ++ i.links.flatMap lnkT)))
theorem prioW_ok {p : Int} (h : 0 ≤ p ∧ p ≤ 2) : wordB (prioW p) = true ∧ Ps.prio (prioW p) = some p := by
  rcases (show p = 0 ∨ p = 1 ∨ p = 2 by omega) with rfl | rfl | rfl <;> exact ⟨by decide +kernel, by decide⟩

theorem links_read {E : Env} {D : Int → ByteArray} (hE : LineE E D) (l : List Tok) : ∀ (ls : List Link) (f : Nat) (s : Seen) (j : Ins) (a : Nat), Toks l a (ls.flatMap lnkT) → l.length = a + (ls.flatMap lnkT).length → ls.length < f → (∀ x ∈ ls, (x.type = 0 ∨ x.type = 1) ∧ E.valid 2 x.ref = true) →
    options E l f s j a = .ok ({ j with links := j.links ++ ls }, l.length)
  | [], 0, s, j, a, _, _, hf, _ => by simp at hf
  | [], f + 1, s, j, a, _, hl, _, _ => by
    have hl' : l.length = a := by simpa using hl
    rw [opt_end E l f s j a (by omega), hl', List.append_nil]
  | x :: ls, 0, s, j, a, _, _, hf, _ => by simp at hf
  | x :: ls, f + 1, s, j, a, h, hl, hf, hok => by
    rw [List.flatMap_cons] at h hl
    obtain ⟨ht, hv⟩ := hok x List.mem_cons_self
    obtain ⟨hk, _⟩ := hE.refK hv
    have h0 := h.left.head
    have h1 := h.left.tail.head
    have h2 : Toks l (a + 2) (ls.flatMap lnkT) := h.right
    rw [List.length_append] at hl
    have hl2 : l.length = a + 2 + (ls.flatMap lnkT).length := by
      have : (lnkT x).length = 2 := rfl
      omega
    have ih := fun j' => links_read hE l ls f s j' (a + 2) h2 hl2 (by simpa using hf) fun y hy => hok y (List.mem_cons_of_mem _ hy)
    obtain ⟨ty, rf⟩ := x
    rcases ht with rfl | rfl
    · have h0 : TokAt l a (Lx.classify (bw sWith)).1 (bw sWith) := h0
      have h0 := Toks.word h0 (by decide +kernel)
      rw [opt_with E l f s j a h0.lt (by rw [peek_at h0]; rfl), bind_ok (ref_at h1 hk hv), ih]
      simp
    · have h0 : TokAt l a (Lx.classify (bw sAfter)).1 (bw sAfter) := h0
      have h0 := Toks.word h0 (by decide +kernel)
      rw [opt_after E l f s j a h0.lt (by rw [peek_at h0]; rfl), bind_ok (ref_at h1 hk hv), ih]
      simp
theorem res_read {E : Env} {D : Int → ByteArray} (hE : LineE E D) (l : List Tok) (i : Ins) (f : Nat) (s : Seen) (j : Ins) (a : Nat) (h : Toks l a (resT i ++ i.links.flatMap lnkT)) (hl : l.length = a + (resT i ++ i.links.flatMap lnkT).length) (hf : (resT i).length + i.links.length < f) (hs : s.res = false) (hj : j.reserve = false)
    (hok : ∀ x ∈ i.links, (x.type = 0 ∨ x.type = 1) ∧ E.valid 2 x.ref = true) : options E l f s j a = .ok ({ j with reserve := i.reserve, links := j.links ++ i.links }, l.length) := by
  unfold resT at h hl hf
  by_cases hr : i.reserve = true
  · simp only [if_pos hr, List.length_append, List.length_singleton] at h hl hf
    cases f with
    | zero => omega
    | succ f =>
      have h0 := Toks.word h.left.head (by decide +kernel)
      rw [opt_res E l f s j a h0.lt (by rw [peek_at h0]; rfl), if_neg (by simp [hs])]
      refine Eq.trans (links_read hE l i.links f _ _ (a + 1) h.right (by omega) (by omega) hok) ?_
      rw [hr]
  · simp only [if_neg hr, List.nil_append, List.length_nil, Nat.zero_add] at h hl hf
    rw [links_read hE l i.links f _ _ a h hl hf hok]
    have hr' : i.reserve = false := by simpa using hr
    simp [hr', hj]
theorem hold_read {E : Env} {D : Int → ByteArray} (hE : LineE E D) (l : List Tok) (i : Ins) (f : Nat) (s : Seen) (j : Ins) (a : Nat) (h : Toks l a (holdT i ++ (resT i ++ i.links.flatMap lnkT))) (hl : l.length = a + (holdT i ++ (resT i ++ i.links.flatMap lnkT)).length) (hf : (holdT i).length + ((resT i).length + i.links.length) < f)
    (hs : s.res = false) (hs2 : s.hold = false) (hj : j.reserve = false) (hj2 : j.hold = false)
    (hok : ∀ x ∈ i.links, (x.type = 0 ∨ x.type = 1) ∧ E.valid 2 x.ref = true) : options E l f s j a = .ok ({ j with hold := i.hold, reserve := i.reserve, links := j.links ++ i.links }, l.length) := by
  unfold holdT at h hl hf
  by_cases hr : i.hold = true
  · simp only [if_pos hr] at h hl hf
    rw [List.length_append, List.length_singleton] at hl
    rw [List.length_singleton] at hf
    cases f with
    | zero => omega
    | succ f =>
      have h0 := Toks.word h.left.head (by decide +kernel)
      rw [opt_hold E l f s j a h0.lt (by rw [peek_at h0]; rfl), if_neg (by simp [hs2])]
      refine Eq.trans (res_read hE l i f _ _ (a + 1) h.right (by omega) (by omega) (by exact hs) (by exact hj) hok) ?_
      rw [hr]
  · simp only [if_neg hr, List.nil_append, List.length_nil, Nat.zero_add] at h hl hf
    rw [res_read hE l i f _ _ a h hl hf hs hj hok]
    have hr' : i.hold = false := by simpa using hr
    simp [hr', hj2]
theorem part_read {E : Env} {D : Int → ByteArray} (hE : LineE E D) (l : List Tok) (i : Ins) (f : Nat) (s : Seen) (j : Ins) (a : Nat) (h : Toks l a (partT i ++ (holdT i ++ (resT i ++ i.links.flatMap lnkT)))) (hl : l.length = a + (partT i ++ (holdT i ++ (resT i ++ i.links.flatMap lnkT))).length) (hf : (partT i).length + ((holdT i).length + ((resT i).length + i.links.length)) < f)
    (hs : s.res = false) (hs2 : s.hold = false) (hs3 : s.part = false) (hj : j.reserve = false) (hj2 : j.hold = false) (hj3 : j.partial_ = false) (hj4 : j.minLot = 0) (hlot : i.partial_ = true → 1 ≤ i.minLot ∧ i.minLot ≤ maxAm) (hlot0 : i.partial_ = false → i.minLot = 0)
    (hok : ∀ x ∈ i.links, (x.type = 0 ∨ x.type = 1) ∧ E.valid 2 x.ref = true) : options E l f s j a = .ok ({ j with partial_ := i.partial_, minLot := i.minLot, hold := i.hold, reserve := i.reserve, links := j.links ++ i.links }, l.length) := by
  unfold partT at h hl hf
  by_cases hr : i.partial_ = true
  · simp only [if_pos hr] at h hl hf
    rw [List.length_append] at hl
    have h2 : ([bw sPartial, decT i.minLot] : List ByteArray).length = 2 := rfl
    rw [h2] at hl hf
    obtain ⟨m1, m2⟩ := hlot hr
    cases f with
    | zero => omega
    | succ f =>
      have h0 := Toks.word h.left.head (by decide +kernel)
      have h1 := h.left.tail.head.of (decT_ok m1 m2).1
      rw [opt_part E l f s j a h0.lt (by rw [peek_at h0]; rfl), if_neg (by simp [hs3]), bind_ok (quantity_at h1 _ (hE.number _ m1 m2))]
      refine Eq.trans (hold_read hE l i f _ _ (a + 1 + 1) h.right (by omega) (by omega) (by exact hs) (by exact hs2) (by exact hj) (by exact hj2) hok) ?_
      rw [hr]
  · simp only [if_neg hr, List.nil_append, List.length_nil, Nat.zero_add] at h hl hf
    rw [hold_read hE l i f _ _ a h hl hf hs hs2 hj hj2 hok]
    have hr' : i.partial_ = false := by simpa using hr
    simp [hr', hj3, hj4, hlot0 hr']
theorem opts_read {E : Env} {D : Int → ByteArray} (hE : LineE E D) (l : List Tok) (i : Ins) (j : Ins) (a : Nat) (h : Toks l a (optsT i)) (hl : l.length = a + (optsT i).length)
    (hj : j.reserve = false) (hj2 : j.hold = false) (hj3 : j.partial_ = false) (hj4 : j.minLot = 0) (hj5 : j.links = []) (hp : 0 ≤ i.priority ∧ i.priority ≤ 2) (hlot : i.partial_ = true → 1 ≤ i.minLot ∧ i.minLot ≤ maxAm) (hlot0 : i.partial_ = false → i.minLot = 0)
    (hok : ∀ x ∈ i.links, (x.type = 0 ∨ x.type = 1) ∧ E.valid 2 x.ref = true) : options E l (l.length + 1) {} j a = .ok ({ j with priority := i.priority, partial_ := i.partial_, minLot := i.minLot, hold := i.hold, reserve := i.reserve, links := i.links }, l.length) := by
  unfold optsT at h hl
  obtain ⟨w1, w2⟩ := prioW_ok hp
  have h0 := Toks.word h.head w1
  have hlen : i.links.length ≤ (i.links.flatMap lnkT).length := by
    clear hok h hl
    induction i.links with
    | nil => exact Nat.zero_le _
    | cons x ls ih =>
      rw [List.flatMap_cons, List.length_append, List.length_cons]
      have : (lnkT x).length = 2 := rfl
      omega
  have hl' := hl
  rw [List.length_cons] at hl
  simp only [List.length_append] at hl
  rw [opt_prio E l l.length {} j a h0.lt i.priority (by rw [peek_at h0]; exact w2), if_neg (by simp)]
  refine Eq.trans (part_read hE l i l.length _ _ (a + 1) h.tail (by simp only [List.length_append]; omega) (by omega) (by rfl) (by rfl) (by rfl) (by exact hj) (by exact hj2) (by exact hj3) (by exact hj4) hlot hlot0 hok) ?_
  simp [hj5]

/-! ### changes -/
section
variable (E : Env) (l : List Tok) (f : Nat) (s : Seen) (i : Amd) (a : Nat)
theorem chg_prio (hlt : a < l.length) (p : Int) (hp : prio (peek l a).data.toList = some p) : changes E l (f + 1) s i a = if s.prio = true then .error (offAt l a, 7) else changes E l f { s with prio := true } { i with hasPriority := true, priority := p } (a + 1) := by
  conv => lhs; unfold changes
  rw [if_neg (by omega), hp]
  simp only []
  by_cases h : s.prio = true
  · rw [if_pos h, if_pos h]; rfl
  · rw [if_neg h, if_neg h]
theorem chg_part (hlt : a < l.length) (hw : (peek l a).data.toList = sPartial) : changes E l (f + 1) s i a = if s.part = true then .error (offAt l a, 7) else bind' (quantity E l) (fun n => changes E l f { s with part := true } { i with hasPartial := true, partial_ := true, minLot := n }) (a + 1) := by
  conv => lhs; unfold changes
  rw [if_neg (by omega), hw, show prio sPartial = none from by decide]
  simp only [if_true]
  by_cases h : s.part = true
  · rw [if_pos h, if_pos h]; rfl
  · rw [if_neg h, if_neg h]
theorem chg_whole (hlt : a < l.length) (hw : (peek l a).data.toList = sWhole) : changes E l (f + 1) s i a = if s.part = true then .error (offAt l a, 7) else changes E l f { s with part := true } { i with hasPartial := true } (a + 1) := by
  conv => lhs; unfold changes
  rw [if_neg (by omega), hw, show prio sWhole = none from by decide]
  simp only []
  rw [if_neg (by decide), if_pos trivial]
  by_cases h : s.part = true
  · rw [if_pos h, if_pos h]; rfl
  · rw [if_neg h, if_neg h]
theorem chg_amount (hlt : a < l.length) (hw : (peek l a).data.toList = sAmount) : changes E l (f + 1) s i a = if s.amount = true then .error (offAt l a, 7) else bind' (cash E l) (fun n => changes E l f { s with amount := true } { i with hasAmount := true, amount := n }) (a + 1) := by
  conv => lhs; unfold changes
  rw [if_neg (by omega), hw, show prio sAmount = none from by decide]
  simp only []
  rw [if_neg (by decide), if_neg (by decide), if_pos trivial]
  by_cases h : s.amount = true
  · rw [if_pos h, if_pos h]; rfl
  · rw [if_neg h, if_neg h]
theorem chg_day (hlt : a < l.length) (hw : (peek l a).data.toList = sDay) : changes E l (f + 1) s i a = if s.day = true then .error (offAt l a, 7) else bind' (day E l) (fun n => changes E l f { s with day := true } { i with hasSettleDay := true, settleDay := n }) (a + 1) := by
  conv => lhs; unfold changes
  rw [if_neg (by omega), hw, show prio sDay = none from by decide]
  simp only []
  rw [if_neg (by decide), if_neg (by decide), if_neg (by decide), if_pos trivial]
  by_cases h : s.day = true
  · rw [if_pos h, if_pos h]; rfl
  · rw [if_neg h, if_neg h]
end
theorem chg_end (E : Env) (l : List Tok) (f : Nat) (s : Seen) (i : Amd) (a : Nat) (h : l.length ≤ a) : changes E l (f + 1) s i a = .ok (i, a) := by
  conv => lhs; unfold changes
  rw [if_pos h]
def cAmT (a : Amd) : List ByteArray := if a.hasAmount = true then [bw sAmount, cashT a.amount] else []
def cDayT (D : Int → ByteArray) (a : Amd) : List ByteArray := if a.hasSettleDay = true then [bw sDay, D a.settleDay] else []
def cPrT (a : Amd) : List ByteArray := if a.hasPriority = true then [bw (prioW a.priority)] else []
def cPaT (a : Amd) : List ByteArray := if a.hasPartial = true then (if a.partial_ = true then [bw sPartial, decT a.minLot] else [bw sWhole]) else []
def chgT (D : Int → ByteArray) (a : Amd) : List ByteArray := cAmT a ++ (cDayT D a ++ (cPrT a ++ cPaT a))
theorem cPa_read {E : Env} {D : Int → ByteArray} (hE : LineE E D) (l : List Tok) (m : Amd) (f : Nat) (s : Seen) (j : Amd) (a : Nat) (h : Toks l a (cPaT m)) (hl : l.length = a + (cPaT m).length) (hf : (cPaT m).length < f) (hs : s.part = false) (hm : AmdOk m) (hj1 : j.hasPartial = false) (hj2 : j.partial_ = false) (hj3 : j.minLot = 0) :
    changes E l f s j a = .ok ({ j with hasPartial := m.hasPartial, partial_ := m.partial_, minLot := m.minLot }, l.length) := by
  unfold cPaT at h hl hf
  cases f with
  | zero => omega
  | succ f =>
    by_cases hr : m.hasPartial = true
    · simp only [if_pos hr] at h hl hf
      by_cases hp : m.partial_ = true
      · simp only [if_pos hp] at h hl hf
        have h2 : ([bw sPartial, decT m.minLot] : List ByteArray).length = 2 := rfl
        rw [h2] at hl hf
        obtain ⟨m1, m2⟩ := hm.lot hp
        have h0 := Toks.word h.head (by decide +kernel)
        have h1 := h.tail.head.of (decT_ok m1 m2).1
        cases f with
        | zero => omega
        | succ f =>
          rw [chg_part E l _ s j a h0.lt (by rw [peek_at h0]; rfl), if_neg (by simp [hs]), bind_ok (quantity_at h1 _ (hE.number _ m1 m2)), chg_end E l f _ _ _ (by omega), hr, hp, show a + 1 + 1 = l.length from by omega]
      · simp only [if_neg hp] at h hl hf
        rw [List.length_singleton] at hl hf
        have hp' : m.partial_ = false := by simpa using hp
        have h0 := Toks.word h.head (by decide +kernel)
        cases f with
        | zero => omega
        | succ f =>
          rw [chg_whole E l _ s j a h0.lt (by rw [peek_at h0]; rfl), if_neg (by simp [hs]), chg_end E l f _ _ _ (by omega), hr, hp', hm.lot0 hp', show a + 1 = l.length from by omega, hj2, hj3]
    · simp only [if_neg hr, List.length_nil, Nat.add_zero] at h hl hf
      have hr' : m.hasPartial = false := by simpa using hr
      rw [chg_end E l f _ _ _ (by omega), hr', hm.part0 hr', hm.lot0 (hm.part0 hr'), hl]
      cases j
      simp only at hj1 hj2 hj3
      subst hj1 hj2 hj3
      rfl
theorem cPr_read {E : Env} {D : Int → ByteArray} (hE : LineE E D) (l : List Tok) (m : Amd) (f : Nat) (s : Seen) (j : Amd) (a : Nat) (h : Toks l a (cPrT m ++ cPaT m)) (hl : l.length = a + (cPrT m ++ cPaT m).length) (hf : (cPrT m).length + (cPaT m).length < f) (hs : s.part = false) (hs2 : s.prio = false) (hm : AmdOk m) (hj1 : j.hasPartial = false) (hj2 : j.partial_ = false) (hj3 : j.minLot = 0)
    (hj4 : j.hasPriority = false) (hj5 : j.priority = 0) : changes E l f s j a = .ok ({ j with hasPriority := m.hasPriority, priority := m.priority, hasPartial := m.hasPartial, partial_ := m.partial_, minLot := m.minLot }, l.length) := by
  unfold cPrT at h hl hf
  by_cases hr : m.hasPriority = true
  · simp only [if_pos hr, List.length_append, List.length_singleton] at h hl hf
    cases f with
    | zero => omega
    | succ f =>
      obtain ⟨w1, w2⟩ := prioW_ok hm.prio
      have h0 := Toks.word h.left.head w1
      rw [chg_prio E l f s j a h0.lt m.priority (by rw [peek_at h0]; exact w2), if_neg (by simp [hs2])]
      refine Eq.trans (cPa_read hE l m f _ _ (a + 1) h.right (by omega) (by omega) (by exact hs) hm (by exact hj1) (by exact hj2) (by exact hj3)) ?_
      rw [hr]
  · simp only [if_neg hr, List.nil_append, List.length_nil, Nat.zero_add] at h hl hf
    have hr' : m.hasPriority = false := by simpa using hr
    rw [cPa_read hE l m f _ _ a h hl hf hs hm hj1 hj2 hj3, hr', hm.prio0 hr']
    cases j
    simp only at hj4 hj5
    subst hj4 hj5
    rfl
theorem cDay_read {E : Env} {D : Int → ByteArray} (hE : LineE E D) (l : List Tok) (m : Amd) (f : Nat) (s : Seen) (j : Amd) (a : Nat) (h : Toks l a (cDayT D m ++ (cPrT m ++ cPaT m))) (hl : l.length = a + (cDayT D m ++ (cPrT m ++ cPaT m)).length) (hf : (cDayT D m).length + ((cPrT m).length + (cPaT m).length) < f)
    (hs : s.part = false) (hs2 : s.prio = false) (hs3 : s.day = false) (hm : AmdOk m) (hj1 : j.hasPartial = false) (hj2 : j.partial_ = false) (hj3 : j.minLot = 0)
    (hj4 : j.hasPriority = false) (hj5 : j.priority = 0) (hj6 : j.hasSettleDay = false) (hj7 : j.settleDay = 0) : changes E l f s j a = .ok ({ j with hasSettleDay := m.hasSettleDay, settleDay := m.settleDay, hasPriority := m.hasPriority, priority := m.priority, hasPartial := m.hasPartial, partial_ := m.partial_, minLot := m.minLot }, l.length) := by
  unfold cDayT at h hl hf
  by_cases hr : m.hasSettleDay = true
  · simp only [if_pos hr] at h hl hf
    rw [List.length_append] at hl
    have h2 : ([bw sDay, D m.settleDay] : List ByteArray).length = 2 := rfl
    rw [h2] at hl hf
    rw [List.length_append] at hl
    cases f with
    | zero => omega
    | succ f =>
      have h0 := Toks.word h.left.head (by decide +kernel)
      have h1 := h.left.tail.head.of (hE.day _ hm.day.1 hm.day.2)
      rw [chg_day E l f s j a h0.lt (by rw [peek_at h0]; rfl), if_neg (by simp [hs3]), bind_ok (day_at h1 _ (hE.date _ hm.day.1 hm.day.2))]
      refine Eq.trans (cPr_read hE l m f _ _ (a + 1 + 1) h.right (by rw [List.length_append]; omega) (by omega) (by exact hs) (by exact hs2) hm (by exact hj1) (by exact hj2) (by exact hj3) (by exact hj4) (by exact hj5)) ?_
      rw [hr]
  · simp only [if_neg hr, List.nil_append, List.length_nil, Nat.zero_add] at h hl hf
    have hr' : m.hasSettleDay = false := by simpa using hr
    rw [cPr_read hE l m f _ _ a h hl hf hs hs2 hm hj1 hj2 hj3 hj4 hj5, hr', hm.day0 hr']
    cases j
    simp only at hj6 hj7
    subst hj6 hj7
    rfl
theorem chg_read {E : Env} {D : Int → ByteArray} (hE : LineE E D) (l : List Tok) (m : Amd) (a : Nat) (h : Toks l a (chgT D m)) (hl : l.length = a + (chgT D m).length) (hm : AmdOk m) : changes E l (l.length + 1) {} {} a = .ok (m, l.length) := by
  unfold chgT at h hl
  have e : m = { hasAmount := m.hasAmount, hasSettleDay := m.hasSettleDay, hasPriority := m.hasPriority, hasPartial := m.hasPartial, amount := m.amount, settleDay := m.settleDay, priority := m.priority, partial_ := m.partial_, minLot := m.minLot } := rfl
  simp only [List.length_append] at hl
  unfold cAmT at h hl
  by_cases hr : m.hasAmount = true
  · simp only [if_pos hr] at h hl
    have h2 : ([bw sAmount, cashT m.amount] : List ByteArray).length = 2 := rfl
    rw [h2] at hl
    obtain ⟨m1, m2⟩ := hm.am hr
    have h0 := Toks.word h.left.head (by decide +kernel)
    have h1 := h.left.tail.head.of (cashT_ok m2).1
    rw [chg_amount E l _ {} {} a h0.lt (by rw [peek_at h0]; rfl), if_neg (by simp), bind_ok (cash_at h1 _ (hE.cash _ m1 m2))]
    refine Eq.trans (cDay_read hE l m _ _ _ (a + 1 + 1) h.right (by simp only [List.length_append]; omega) (by omega) (by rfl) (by rfl) (by rfl) hm (by rfl) (by rfl) (by rfl) (by rfl) (by rfl) (by rfl) (by rfl)) ?_
    cases m
    simp only at hr
    subst hr
    rfl
  · simp only [if_neg hr, List.nil_append, List.length_nil, Nat.zero_add] at h hl
    have hr' : m.hasAmount = false := by simpa using hr
    refine Eq.trans (cDay_read hE l m _ _ _ a h (by simp only [List.length_append]; omega) (by omega) (by rfl) (by rfl) (by rfl) hm (by rfl) (by rfl) (by rfl) (by rfl) (by rfl) (by rfl) (by rfl)) ?_
    have h0 := hm.am0 hr'
    cases m
    simp only at hr' h0
    subst hr' h0
    rfl

/-! ### requests -/
/-- the tokens of an instruction's line -/
def fromT (i : Ins) : ByteArray := if i.side = 1 then i.counterparty else i.sender
def toT (i : Ins) : ByteArray := if i.side = 1 then i.sender else i.counterparty
def insT (D : Int → ByteArray) (i : Ins) : List ByteArray :=
  if i.kind = 3 ∨ i.kind = 4 then [bw (if i.kind = 3 then sPledge else sRelease), i.ref, bw sBy, i.sender, bw sIsin, i.asset, bw sQuantity, decT i.quantity, bw sDay, D i.settleDay]
  else if i.kind = 0 then [bw sPay, i.ref, bw sFrom, i.sender, bw sTo, i.counterparty, bw sAmount, cashT i.amount, bw sDay, D i.settleDay] ++ optsT i
  else if i.kind = 1 then [bw (if i.side = 1 then sReceive else sDeliver), i.ref, bw sFrom, fromT i, bw sTo, toT i, bw sIsin, i.asset, bw sQuantity, decT i.quantity, bw sAgainst, cashT i.amount, bw sTrade, D i.tradeDay, bw sDay, D i.settleDay] ++ optsT i
  else [bw (if i.side = 1 then sReceive else sDeliver), i.ref, bw sFrom, fromT i, bw sTo, toT i, bw sIsin, i.asset, bw sQuantity, decT i.quantity, bw sFree, bw sTrade, D i.tradeDay, bw sDay, D i.settleDay] ++ optsT i
def reqT (D : Int → ByteArray) (q : Req) : List ByteArray :=
  if q.op = 0 then insT D q.ins
  else if q.op = 1 then [bw sAmend, q.ref, bw sBy, q.sender] ++ chgT D q.amd
  else [bw (if q.op = 2 then sCancel else if q.op = 3 then sHold else sResume), q.ref, bw sBy, q.sender]

end Go.Proofs.YthijakidnkhbnaaGreatDoor.Ps
