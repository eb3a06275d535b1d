/-
  The plain reader on whole forms whose tokens are known; no program in sight.
-/
import Derived.Test.YthijakidnkhbnaaGreatDoorPlRd
namespace Go.Proofs.YthijakidnkhbnaaGreatDoor.Ps
open Go

theorem toksOf_at : ∀ (ps : List (Bs × Bs)) (a j : Nat) (g t : Bs), ps[j]? = some (g, t) → TokAt (Lx.toksOf ps a) j (Lx.classify ⟨t.toArray⟩).1 ⟨t.toArray⟩
  | [], a, j, g, t, h => by simp at h
  | (g', t') :: ps, a, 0, g, t, h => by
    simp at h
    obtain ⟨rfl, rfl⟩ := h
    exact ⟨_, rfl⟩
  | (g', t') :: ps, a, j + 1, g, t, h => by
    obtain ⟨o, ho⟩ := toksOf_at ps (a + g'.length + t'.length) j g t (by simpa using h)
    exact ⟨o, by rw [Lx.toksOf]; simpa using ho⟩
theorem toksOf_length : ∀ (ps : List (Bs × Bs)) (a : Nat), (Lx.toksOf ps a).length = ps.length
  | [], _ => rfl
  | (g, t) :: ps, a => by rw [Lx.toksOf, List.length_cons, toksOf_length ps, List.length_cons]

section
variable {E : Env} {l : List Tok} {a : Nat}
theorem member_at {t : ByteArray} (h : TokAt l a 1 t) (hf : E.valid 1 t = true) : member E l a = .ok (t, a + 1) := ident_at h (by simp) hf
theorem isin_at {t : ByteArray} (h : TokAt l a 1 t) (hf : E.valid 0 t = true) : isin E l a = .ok (t, a + 1) := ident_at h (by simp) hf
theorem ref_at {k : Int} {t : ByteArray} (h : TokAt l a k t) (hk : k ∈ ([1, 2, 4] : List Int)) (hf : E.valid 2 t = true) : ref E l a = .ok (t, a + 1) := ident_at h hk hf
theorem parties_at {f A t B : ByteArray} (h0 : TokAt l a 0 f) (hf : f.data.toList = sFrom) (h1 : TokAt l (a + 1) 1 A) (v1 : E.valid 1 A = true) (h2 : TokAt l (a + 2) 0 t) (ht : t.data.toList = sTo) (h3 : TokAt l (a + 3) 1 B) (v3 : E.valid 1 B = true) :
    parties E l a = .ok ((A, B), a + 4) := by
  unfold parties
  rw [bind_ok (word_at h0 hf), bind_ok (member_at h1 v1), bind_ok (word_at h2 ht), bind_ok (member_at h3 v3)]
  rfl
theorem by_at {b A : ByteArray} (h0 : TokAt l a 0 b) (hb : b.data.toList = sBy) (h1 : TokAt l (a + 1) 1 A) (v1 : E.valid 1 A = true) : by_ E l a = .ok (A, a + 2) := by
  unfold by_
  rw [bind_ok (word_at h0 hb)]
  exact ident_at h1 (by simp) v1
theorem security_at {w1 X w2 N : ByteArray} (i : Ins) {n : Int} (h0 : TokAt l a 0 w1) (hw1 : w1.data.toList = sIsin) (h1 : TokAt l (a + 1) 1 X) (v1 : E.valid 0 X = true) (h2 : TokAt l (a + 2) 0 w2) (hw2 : w2.data.toList = sQuantity) (h3 : TokAt l (a + 3) 2 N) (v3 : E.number N = (n, 0)) :
    security E l i a = .ok ({ i with asset := X, quantity := n }, a + 4) := by
  unfold security
  rw [bind_ok (word_at h0 hw1), bind_ok (isin_at h1 v1), bind_ok (word_at h2 hw2), bind_ok (quantity_at h3 n v3)]
  rfl
theorem payment_at (i : Ins) {A B w1 C w2 D : ByteArray} {n d : Int} (hp : parties E l a = .ok ((A, B), a + 4)) (h4 : TokAt l (a + 4) 0 w1) (hw1 : w1.data.toList = sAmount) (h5 : TokAt l (a + 5) 3 C) (v5 : E.cash C = (n, 0))
    (h6 : TokAt l (a + 6) 0 w2) (hw2 : w2.data.toList = sDay) (h7 : TokAt l (a + 7) 4 D) (v7 : E.date D = (d, 0)) :
    payment E l i a = options E l (l.length + 1) {} { i with kind := 0, asset := sCash, sender := A, counterparty := B, amount := n, settleDay := d } (a + 8) := by
  unfold payment
  rw [bind_ok hp, bind_ok (word_at h4 hw1), bind_ok (cash_at h5 n v5), bind_ok (word_at h6 hw2), bind_ok (day_at h7 d v7)]
/-- a trade against payment -/
theorem against_at (i : Ins) {A B X w1 C w2 T w3 D : ByteArray} {q n t d : Int} (hp : parties E l a = .ok ((A, B), a + 4)) (hs : ∀ j, security E l j (a + 4) = .ok ({ j with asset := X, quantity := q }, a + 8))
    (h8 : TokAt l (a + 8) 0 w1) (hw1 : w1.data.toList = sAgainst) (h9 : TokAt l (a + 9) 3 C) (v9 : E.cash C = (n, 0)) (h10 : TokAt l (a + 10) 0 w2) (hw2 : w2.data.toList = sTrade) (h11 : TokAt l (a + 11) 4 T) (v11 : E.date T = (t, 0))
    (h12 : TokAt l (a + 12) 0 w3) (hw3 : w3.data.toList = sDay) (h13 : TokAt l (a + 13) 4 D) (v13 : E.date D = (d, 0)) :
    trade E l i a = options E l (l.length + 1) {} { i with kind := 1, sender := A, counterparty := B, asset := X, quantity := q, amount := n, tradeDay := t, settleDay := d } (a + 14) := by
  unfold trade
  rw [bind_ok hp, bind_ok (hs _)]
  have e1 : (fun a => if (peek l a).data.toList = sFree then (.ok (({ i with kind := 2, sender := A, counterparty := B, asset := X, quantity := q } : Ins), a + 1) : Except Er (Ins × Nat)) else bind' (word l sAgainst) (fun _ => bind' (cash E l) fun n => pure' ({ i with kind := 1, sender := A, counterparty := B, asset := X, quantity := q, amount := n } : Ins)) a) (a + 8) = .ok ({ i with kind := 1, sender := A, counterparty := B, asset := X, quantity := q, amount := n }, a + 10) := by
    show (if _ then _ else _) = _
    rw [if_neg (by rw [peek_at h8, hw1]; decide), bind_ok (word_at h8 hw1), bind_ok (cash_at h9 n v9)]
    rfl
  refine (bind_ok e1).trans ?_
  rw [bind_ok (word_at h10 hw2), bind_ok (day_at h11 t v11), bind_ok (word_at h12 hw3), bind_ok (day_at h13 d v13)]
/-- a trade free of payment -/
theorem free_at (i : Ins) {A B X w1 w2 T w3 D : ByteArray} {q t d : Int} (hp : parties E l a = .ok ((A, B), a + 4)) (hs : ∀ j, security E l j (a + 4) = .ok ({ j with asset := X, quantity := q }, a + 8))
    (h8 : TokAt l (a + 8) 0 w1) (hw1 : w1.data.toList = sFree) (h9 : TokAt l (a + 9) 0 w2) (hw2 : w2.data.toList = sTrade) (h10 : TokAt l (a + 10) 4 T) (v10 : E.date T = (t, 0))
    (h11 : TokAt l (a + 11) 0 w3) (hw3 : w3.data.toList = sDay) (h12 : TokAt l (a + 12) 4 D) (v12 : E.date D = (d, 0)) :
    trade E l i a = options E l (l.length + 1) {} { i with kind := 2, sender := A, counterparty := B, asset := X, quantity := q, tradeDay := t, settleDay := d } (a + 13) := by
  unfold trade
  rw [bind_ok hp, bind_ok (hs _)]
  have e1 : (fun a => if (peek l a).data.toList = sFree then (.ok (({ i with kind := 2, sender := A, counterparty := B, asset := X, quantity := q } : Ins), a + 1) : Except Er (Ins × Nat)) else bind' (word l sAgainst) (fun _ => bind' (cash E l) fun n => pure' ({ i with kind := 1, sender := A, counterparty := B, asset := X, quantity := q, amount := n } : Ins)) a) (a + 8) = .ok ({ i with kind := 2, sender := A, counterparty := B, asset := X, quantity := q }, a + 9) := by
    show (if _ then _ else _) = _
    rw [if_pos (by rw [peek_at h8, hw1])]
  refine (bind_ok e1).trans ?_
  rw [bind_ok (word_at h9 hw2), bind_ok (day_at h10 t v10), bind_ok (word_at h11 hw3), bind_ok (day_at h12 d v12)]
theorem collateral_at (k : Int) (i : Ins) {A X w1 D : ByteArray} {q d : Int} (hb : by_ E l a = .ok (A, a + 2)) (hs : ∀ j, security E l j (a + 2) = .ok ({ j with asset := X, quantity := q }, a + 6)) (h6 : TokAt l (a + 6) 0 w1) (hw1 : w1.data.toList = sDay) (h7 : TokAt l (a + 7) 4 D) (v7 : E.date D = (d, 0)) :
    collateral E l k i a = .ok ({ i with kind := k, sender := A, asset := X, quantity := q, settleDay := d }, a + 8) := by
  unfold collateral
  rw [bind_ok hb, bind_ok (hs _), bind_ok (word_at h6 hw1), bind_ok (day_at h7 d v7)]
  rfl
end

/-- a line whose verb, reference and rest are read to the end -/
theorem line_at {E : Env} {l : List Tok} {v R : ByteArray} {k : Int} (h0 : TokAt l 0 0 v) (hv : v.data.toList ∈ verbs) (h1 : TokAt l 1 k R) (hk : k ∈ ([1, 2, 4] : List Int)) (vr : E.valid 2 R = true) (q : Req) (hr : rest E l v.data.toList { ref := R } 2 = .ok (q, l.length)) : line E l 0 = .ok (q, l.length) := by
  unfold line
  rw [if_neg (by have := h0.lt; omega), peek_at h0, if_pos hv, bind_ok (ref_at h1 hk vr)]
  show bind' _ _ 2 = _
  rw [bind_ok hr, if_neg (by omega)]
theorem line_er {E : Env} {l : List Tok} {v R : ByteArray} {k : Int} (h0 : TokAt l 0 0 v) (hv : v.data.toList ∈ verbs) (h1 : TokAt l 1 k R) (hk : k ∈ ([1, 2, 4] : List Int)) (vr : E.valid 2 R = true) (e : Er) (hr : rest E l v.data.toList { ref := R } 2 = .error e) : line E l 0 = .error e := by
  unfold line
  rw [if_neg (by have := h0.lt; omega), peek_at h0, if_pos hv, bind_ok (ref_at h1 hk vr)]
  show bind' _ _ 2 = _
  rw [bind_error hr]

/-! ### lines appended -/
theorem lineOf_append : ∀ (ps qs : List (Bs × Bs)) (e : Bs), Lx.lineOf (ps ++ qs) e = Lx.lineOf ps [] ++ Lx.lineOf qs e
  | [], qs, e => rfl
  | (g, t) :: ps, qs, e => by
    show g ++ (t ++ Lx.lineOf (ps ++ qs) e) = g ++ (t ++ Lx.lineOf ps []) ++ Lx.lineOf qs e
    rw [lineOf_append ps qs e, List.append_assoc, List.append_assoc]
theorem lineOk_append : ∀ (ps qs : List (Bs × Bs)) (b : Bool), Lx.lineOk ps b → Lx.lineOk qs (b && ps.isEmpty) → Lx.lineOk (ps ++ qs) b
  | [], qs, b, _, h => by simpa using h
  | (g, t) :: ps, qs, b, ⟨h1, h2, h3, h4, h5, h6, h7⟩, h => ⟨h1, h2, h3, h4, h5, h6, lineOk_append ps qs false h7 (by simpa using h)⟩

end Go.Proofs.YthijakidnkhbnaaGreatDoor.Ps
