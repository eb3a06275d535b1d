/-
  The plain reader on two lists of the same tokens at other places; no program in sight.
-/
import Derived.Test.YthijakidnkhbnaaGreatDoorPlForm
namespace Go.Proofs.YthijakidnkhbnaaGreatDoor.Ps
open Go

/-- the same kinds and texts -/
def Twin (l l' : List Tok) : Prop := l.map (fun t => (t.1, t.2.1)) = l'.map (fun t => (t.1, t.2.1))
/-- the same error, at the same token or at the end -/
def ErP (l l' : List Tok) (e e' : Er) : Prop := e.2 = e'.2 ∧ e.2 ≠ 0 ∧ ((∃ a, a < l.length ∧ e.1 = offAt l a ∧ e'.1 = offAt l' a) ∨ e.2 = 4)
def SimA (l l' : List Tok) {α : Type} (x x' : Except Er (α × Nat)) : Prop := (∃ y, x = .ok y ∧ x' = .ok y) ∨ ∃ e e', x = .error e ∧ x' = .error e' ∧ ErP l l' e e'
def SimP (l l' : List Tok) {α : Type} (p p' : P α) : Prop := ∀ a, SimA l l' (p a) (p' a)
section
variable {l l' : List Tok}
theorem Twin.length (tw : Twin l l') : l.length = l'.length := by
  have := congrArg List.length tw
  simpa using this
theorem Twin.at (tw : Twin l l') (a : Nat) : (l[a]?).map (fun t => (t.1, t.2.1)) = (l'[a]?).map (fun t => (t.1, t.2.1)) := by
  have := congrArg (fun x => x[a]?) tw
  simpa using this
theorem Twin.peek (tw : Twin l l') (a : Nat) : Ps.peek l' a = Ps.peek l a := by
  have h := Twin.at tw a
  unfold Ps.peek
  cases h1 : l[a]? with
  | none =>
    rw [h1] at h
    cases h2 : l'[a]? with
    | none => rfl
    | some t => rw [h2] at h; cases h
  | some t =>
    rw [h1] at h
    cases h2 : l'[a]? with
    | none => rw [h2] at h; cases h
    | some t' =>
      rw [h2] at h
      simp only [Option.map_some, Option.some.injEq, Prod.mk.injEq] at h
      simp only [h.1, h.2]
end
section
variable {l l' : List Tok} {α β : Type}
theorem SimA.ok (y : α × Nat) : SimA l l' (.ok y) (.ok y) := .inl ⟨y, rfl, rfl⟩
theorem SimA.at {a : Nat} {n : Int} (h : a < l.length) (hn : n ≠ 0) : SimA l l' (.error (offAt l a, n) : Except Er (α × Nat)) (.error (offAt l' a, n)) := .inr ⟨_, _, rfl, rfl, rfl, hn, .inl ⟨a, h, rfl, rfl⟩⟩
theorem SimA.short : SimA l l' (.error (Ps.short l) : Except Er (α × Nat)) (.error (Ps.short l')) := .inr ⟨_, _, rfl, rfl, rfl, by show (4 : Int) ≠ 0; decide, .inr rfl⟩
theorem SimA.ite {c : Prop} [Decidable c] {x x' y y' : Except Er (α × Nat)} (h : c → SimA l l' x x') (h' : ¬ c → SimA l l' y y') : SimA l l' (if c then x else y) (if c then x' else y') := by
  by_cases hc : c
  · rw [if_pos hc, if_pos hc]; exact h hc
  · rw [if_neg hc, if_neg hc]; exact h' hc
theorem SimP.pure (x : α) : SimP l l' (pure' x) (pure' x) := fun _a => .ok _
theorem SimA.bind {m m' : P α} {f f' : α → P β} (hm : SimP l l' m m') (hf : ∀ x, SimP l l' (f x) (f' x)) (a : Nat) : SimA l l' (bind' m f a) (bind' m' f' a) := by
  rcases hm a with ⟨⟨x, b⟩, h1, h2⟩ | ⟨e, e', h1, h2, h3⟩
  · rw [bind_ok h1, bind_ok h2]; exact hf x b
  · rw [bind_error h1, bind_error h2]; exact .inr ⟨e, e', rfl, rfl, h3⟩
theorem SimP.bind {m m' : P α} {f f' : α → P β} (hm : SimP l l' m m') (hf : ∀ x, SimP l l' (f x) (f' x)) : SimP l l' (bind' m f) (bind' m' f') := fun a => SimA.bind hm hf a
theorem SimP.word (tw : Twin l l') (w : Bs) : SimP l l' (word l w) (word l' w) := fun a => by
  unfold Ps.word
  rw [tw.peek, ← tw.length]
  exact .ite (fun _ => .short) fun h => .ite (fun _ => .ok _) fun _ => .at (by omega) (by decide)
theorem SimP.take (tw : Twin l l') (f : ByteArray → α × Int) (ks : List Int) : SimP l l' (take l f ks) (take l' f ks) := fun a => by
  have h := tw.at a
  unfold Ps.take
  cases h1 : l[a]? with
  | none =>
    rw [h1] at h
    cases h2 : l'[a]? with
    | none => exact .short
    | some t => rw [h2] at h; cases h
  | some t =>
    rw [h1] at h
    have ha := (List.getElem?_eq_some_iff.1 h1).1
    cases h2 : l'[a]? with
    | none => rw [h2] at h; cases h
    | some t' =>
      rw [h2] at h
      simp only [Option.map_some, Option.some.injEq, Prod.mk.injEq] at h
      simp only [← h.1, ← h.2]
      exact .ite (fun _ => .ite (fun _ => .ok _) fun hz => .at ha hz) fun _ => .at ha (by decide)
theorem SimP.ref (tw : Twin l l') (E : Env) : SimP l l' (Ps.ref E l) (Ps.ref E l') := by unfold Ps.ref Ps.ident; exact SimP.take tw _ _
theorem SimP.member (tw : Twin l l') (E : Env) : SimP l l' (Ps.member E l) (Ps.member E l') := by unfold Ps.member Ps.ident; exact SimP.take tw _ _
theorem SimP.isin (tw : Twin l l') (E : Env) : SimP l l' (Ps.isin E l) (Ps.isin E l') := by unfold Ps.isin Ps.ident; exact SimP.take tw _ _
theorem SimP.cash (tw : Twin l l') (E : Env) : SimP l l' (Ps.cash E l) (Ps.cash E l') := SimP.take tw _ _
theorem SimP.quantity (tw : Twin l l') (E : Env) : SimP l l' (Ps.quantity E l) (Ps.quantity E l') := SimP.take tw _ _
theorem SimP.day (tw : Twin l l') (E : Env) : SimP l l' (Ps.day E l) (Ps.day E l') := SimP.take tw _ _
theorem SimP.options (tw : Twin l l') (E : Env) : ∀ (f : Nat) (s : Seen) (i : Ins), SimP l l' (options E l f s i) (options E l' f s i)
  | 0, s, i => .pure i
  | f + 1, s, i => fun a => by
    have ih := SimP.options tw E f
    unfold Ps.options
    rw [tw.peek, ← tw.length]
    refine .ite (fun _ => .ok _) fun h => ?_
    have h : a < l.length := by omega
    cases prio (peek l a).data.toList with
    | some p => exact .ite (fun _ => .at h (by decide)) fun _ => ih _ _ _
    | none =>
      refine .ite (fun _ => .ite (fun _ => .at h (by decide)) fun _ => .bind (.quantity tw E) (fun _ => ih _ _) _) fun _ => ?_
      refine .ite (fun _ => .ite (fun _ => .at h (by decide)) fun _ => ih _ _ _) fun _ => ?_
      refine .ite (fun _ => .ite (fun _ => .at h (by decide)) fun _ => ih _ _ _) fun _ => ?_
      refine .ite (fun _ => .bind (.ref tw E) (fun _ => ih _ _) _) fun _ => ?_
      refine .ite (fun _ => .bind (.ref tw E) (fun _ => ih _ _) _) fun _ => ?_
      exact .at h (by decide)
theorem SimP.changes (tw : Twin l l') (E : Env) : ∀ (f : Nat) (s : Seen) (i : Amd), SimP l l' (changes E l f s i) (changes E l' f s i)
  | 0, s, i => .pure i
  | f + 1, s, i => fun a => by
    have ih := SimP.changes tw E f
    unfold Ps.changes
    rw [tw.peek, ← tw.length]
    refine .ite (fun _ => .ok _) fun h => ?_
    have h : a < l.length := by omega
    cases prio (peek l a).data.toList with
    | some p => exact .ite (fun _ => .at h (by decide)) fun _ => ih _ _ _
    | none =>
      refine .ite (fun _ => .ite (fun _ => .at h (by decide)) fun _ => .bind (.quantity tw E) (fun _ => ih _ _) _) fun _ => ?_
      refine .ite (fun _ => .ite (fun _ => .at h (by decide)) fun _ => ih _ _ _) fun _ => ?_
      refine .ite (fun _ => .ite (fun _ => .at h (by decide)) fun _ => .bind (.cash tw E) (fun _ => ih _ _) _) fun _ => ?_
      refine .ite (fun _ => .ite (fun _ => .at h (by decide)) fun _ => .bind (.day tw E) (fun _ => ih _ _) _) fun _ => ?_
      exact .at h (by decide)
theorem SimP.parties (tw : Twin l l') (E : Env) : SimP l l' (Ps.parties E l) (Ps.parties E l') := .bind (.word tw _) fun _ => .bind (.member tw E) fun _ => .bind (.word tw _) fun _ => .bind (.member tw E) fun _ => .pure _
theorem SimP.by_ (tw : Twin l l') (E : Env) : SimP l l' (Ps.by_ E l) (Ps.by_ E l') := .bind (.word tw _) fun _ => .member tw E
theorem SimP.security (tw : Twin l l') (E : Env) (i : Ins) : SimP l l' (Ps.security E l i) (Ps.security E l' i) := .bind (.word tw _) fun _ => .bind (.isin tw E) fun _ => .bind (.word tw _) fun _ => .bind (.quantity tw E) fun _ => .pure _
theorem SimP.payment (tw : Twin l l') (E : Env) (i : Ins) : SimP l l' (Ps.payment E l i) (Ps.payment E l' i) := by
  unfold Ps.payment
  rw [← tw.length]
  exact .bind (.parties tw E) fun _ => .bind (.word tw _) fun _ => .bind (.cash tw E) fun _ => .bind (.word tw _) fun _ => .bind (.day tw E) fun _ => .options tw E _ _ _
theorem SimP.trade (tw : Twin l l') (E : Env) (i : Ins) : SimP l l' (Ps.trade E l i) (Ps.trade E l' i) := by
  unfold Ps.trade
  rw [← tw.length]
  refine .bind (.parties tw E) fun _ => .bind (.security tw E _) fun _ => .bind (fun a => ?_) fun _ => .bind (.word tw _) fun _ => .bind (.day tw E) fun _ => .bind (.word tw _) fun _ => .bind (.day tw E) fun _ => .options tw E _ _ _
  show SimA l l' (if _ then _ else _) (if _ then _ else _)
  rw [tw.peek]
  exact .ite (fun _ => .ok _) fun _ => .bind (.word tw _) (fun _ => .bind (.cash tw E) fun _ => .pure _) _
theorem SimP.collateral (tw : Twin l l') (E : Env) (k : Int) (i : Ins) : SimP l l' (Ps.collateral E l k i) (Ps.collateral E l' k i) := .bind (.by_ tw E) fun _ => .bind (.security tw E _) fun _ => .bind (.word tw _) fun _ => .bind (.day tw E) fun _ => .pure _
theorem SimP.rest (tw : Twin l l') (E : Env) (v : Bs) (q : Req) : SimP l l' (Ps.rest E l v q) (Ps.rest E l' v q) := fun a => by
  unfold Ps.rest
  by_cases h1 : v = sPay
  · simp only [if_pos h1]; exact .bind (.payment tw E _) (fun _ => .pure _) a
  simp only [if_neg h1]
  by_cases h2 : v = sDeliver
  · simp only [if_pos h2]; exact .bind (.trade tw E _) (fun _ => .pure _) a
  simp only [if_neg h2]
  by_cases h3 : v = sReceive
  · simp only [if_pos h3]; exact .bind (.trade tw E _) (fun _ => .pure _) a
  simp only [if_neg h3]
  by_cases h4 : v = sPledge
  · simp only [if_pos h4]; exact .bind (.collateral tw E _ _) (fun _ => .pure _) a
  simp only [if_neg h4]
  by_cases h5 : v = sRelease
  · simp only [if_pos h5]; exact .bind (.collateral tw E _ _) (fun _ => .pure _) a
  simp only [if_neg h5]
  by_cases h6 : v = sAmend
  · simp only [if_pos h6]
    refine .bind (.by_ tw E) (fun s b => ?_) a
    show SimA l l' (if _ then _ else _) (if _ then _ else _)
    rw [← tw.length]
    exact .ite (fun _ => .short) fun _ => .bind (.changes tw E _ _ _) (fun _ => .pure _) b
  simp only [if_neg h6]
  by_cases h7 : v = sCancel
  · simp only [if_pos h7]; exact .bind (.by_ tw E) (fun _ => .pure _) a
  simp only [if_neg h7]
  by_cases h8 : v = sHold
  · simp only [if_pos h8]; exact .bind (.by_ tw E) (fun _ => .pure _) a
  simp only [if_neg h8]
  exact .bind (.by_ tw E) (fun _ => .pure _) a
theorem SimP.line (tw : Twin l l') (E : Env) : SimP l l' (Ps.line E l) (Ps.line E l') := fun a => by
  unfold Ps.line
  rw [tw.peek, ← tw.length]
  refine .ite (fun _ => .short) fun h => .ite (fun _ => ?_) fun _ => .at (by omega) (by decide)
  refine .bind (.ref tw E) (fun r => .bind (.rest tw E _ _) fun q b => ?_) _
  exact SimA.ite (fun h => .at h (by decide)) fun _ => .ok _
end

/-- Parse, when its line is read already -/
def parseL (E : Env) (check : Req → Int) (l : List Tok) : Req × Int × Int := match line E l 0 with
    | .error e => ({}, e.1, e.2)
    | .ok (q, _) =>
      let q := if q.op = 0 then { q with sender := q.ins.sender, ins := { q.ins with ref := q.ref } } else q
      if check q ≠ 0 then ({}, offAt l 0, check q) else (q, 0, 0)
theorem parse_tok (E : Env) (check : Req → Int) (s : ByteArray) (l : List Tok) (h : Lx.tokenize s = (l, 0, 0)) : parse E check s = parseL E check l := by
  unfold parse parseL
  rw [h]
  exact if_neg (fun h => h rfl)
/-- twins are read alike -/
theorem parse_twin (E : Env) (check : Req → Int) {l l' : List Tok} (tw : Twin l l') (h0 : 0 < l.length) :
    (parseL E check l).1 = (parseL E check l').1 ∧ (parseL E check l).2.2 = (parseL E check l').2.2 ∧
    ((parseL E check l).2.2 = 0 ∨ (parseL E check l).2.2 = 4 ∨ ∃ a, a < l.length ∧ (parseL E check l).2.1 = offAt l a ∧ (parseL E check l').2.1 = offAt l' a) := by
  unfold parseL
  rcases SimP.line tw E 0 with ⟨⟨q, b⟩, h1, h2⟩ | ⟨e, e', h1, h2, h3, h4, h5⟩
  · rw [h1, h2]
    simp only []
    obtain ⟨q', hq'⟩ : ∃ q', q' = if q.op = 0 then ({ q with sender := q.ins.sender, ins := { q.ins with ref := q.ref } } : Req) else q := ⟨_, rfl⟩
    rw [← hq']
    by_cases hc : check q' ≠ 0
    · rw [if_pos hc, if_pos hc]
      exact ⟨rfl, rfl, .inr (.inr ⟨0, h0, rfl, rfl⟩)⟩
    · rw [if_neg hc, if_neg hc]
      exact ⟨rfl, rfl, .inl rfl⟩
  · rw [h1, h2]
    simp only []
    refine ⟨trivial, h3, ?_⟩
    rcases h5 with ⟨a, k1, k2, k3⟩ | h5
    · exact .inr (.inr ⟨a, k1, k2, k3⟩)
    · exact .inr (.inl h5)

end Go.Proofs.YthijakidnkhbnaaGreatDoor.Ps
