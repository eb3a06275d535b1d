/-
  A region that draws its order, every operation of which gives one value in every world that meets a condition and leads to such a world again (calls that make memory among them, guards of any kind): ONE walk, in the order of the text. One operation (number k0) may lead from worlds of the condition S false to worlds of S true (a store); all others keep either condition.
  A region that draws its order, whose first n operations give known values in every world that meets a condition (guards of any kind), and whose last ones come up in their order: the values are given as a list, each operation is shown by itself.
  A region that keeps its order, the values of its first operations given.
-/
import Derived.OrdersHeld
import Derived.WalkKit
import Derived.Laws.Tables

namespace Go.Proofs.YthijakidnkhbnaaGreatDoor.Ord
open Go

section
variable {P : Program} {ops : Array Oper} {Q : Exit → Act → World → Prop} {S : Bool → World → Prop} {k0 : Nat}

/-- what an operation's run comes to: the value v, and a world that meets S -/
def Gives (P : Program) (S : World → Prop) (v : Value) : Result Next → Prop
  | .ok (.value u) w => u = v ∧ S w
  | .ok .skip w => v = undef ∧ S w
  | .ok (.enter f args) w => Calls P f args w fun e w' => e = .returned v ∧ S w'
  | _ => False

/-- in state a, in every world that meets S, the operation leaves v, and S holds behind it -/
def YieldsTo (P : Program) (ops : Array Oper) (S T : World → Prop) (o : Oper) (v : Value) (a : Act) : Prop :=
  (Region.wanted o (yielded ops a.tmps) = true ∧ ∀ w, S w → Gives P T v ((execOp a.eval o).run P w)) ∨
  (Region.wanted o (yielded ops a.tmps) = false ∧ v = undef ∧ ∀ w, S w → T w)

theorem YieldsTo.wpOp {S T : World → Prop} {i : Nat} {o : Oper} {v : Value} {a : Act} (hi : ops[i]? = some o) (hy : YieldsTo P ops S T o v a)
    {K : Act → World → Prop} {w : World} (hS : S w) (h : ∀ w', T w' → K (a.put o.dst v) w') : wpOp P ops Q i K a w := by
  unfold Go.wpOp
  simp only [hi]
  rcases hy with ⟨hw, hv⟩ | ⟨hw, rfl, ht⟩
  · simp only [hw, if_true]
    refine .inl ?_
    have hg := hv w hS
    unfold Oper.wp
    generalize (execOp a.eval o).run P w = r at hg
    unfold Gives at hg
    split at hg
    · obtain ⟨rfl, hs⟩ := hg
      exact h _ hs
    · obtain ⟨rfl, hs⟩ := hg
      exact h _ hs
    · refine Calls.mono hg ?_
      rintro e w' ⟨rfl, hs⟩
      exact h _ hs
    · exact hg.elim
  · simp only [hw, Bool.false_eq_true, if_false]; exact h w (ht w hS)

/-- the walk in the order of the text -/
def wpText (P : Program) (ops : Array Oper) (Q : Exit → Act → World → Prop) (S : Bool → World → Prop) (k0 : Nat) : Nat → List Oper → Act → Prop
  | k, [], a => ∀ w, S (decide (k0 < k)) w → Q .normal a w
  | k, o :: rest, a => ∃ v, (∀ b, (k = k0 → b = false) → YieldsTo P ops (S b) (S (b || decide (k = k0))) o v a) ∧ wpText P ops Q S k0 (k + 1) rest (a.put o.dst v)

/-- operations wait for what they look at; nothing is written twice -/
def depOk (ops : Array Oper) : Bool := (List.range ops.size).all fun i => match ops[i]? with
  | none => true
  | some oi => (oi.after.all fun e => !Region.binds .any e || decide (e.on < i)) && (List.range ops.size).all fun j => j == i || match ops[j]? with
    | none => true
    | some oj => match oj.dst with
      | none => true
      | some d => !(oi.dst == some d) && (!(oi.looksAt ops).contains d || oi.after.any fun e => Region.binds .any e && e.on == j)

theorem depOk_after (h : depOk ops = true) {i : Nat} {oi : Oper} (hi : ops[i]? = some oi) {e : Edge} (he : e ∈ oi.after) (hb : Region.binds .any e = true) : e.on < i := by
  have hlt : i < ops.size := (Array.getElem?_eq_some_iff.1 hi).1
  have h1 := List.all_eq_true.1 h i (List.mem_range.2 hlt)
  rw [hi] at h1
  simp only [Bool.and_eq_true] at h1
  have h2 := Array.all_eq_true_iff_forall_mem.1 h1.1 e he
  simpa [hb] using h2
theorem depOk_dst (h : depOk ops = true) {i j : Nat} {oi oj : Oper} (hi : ops[i]? = some oi) (hj : ops[j]? = some oj) (hne : j ≠ i) {d : Tmp} (hd : oj.dst = some d) :
    oi.dst ≠ some d ∧ (d ∈ oi.looksAt ops → ∃ e ∈ oi.after, Region.binds .any e = true ∧ e.on = j) := by
  have hlt : i < ops.size := (Array.getElem?_eq_some_iff.1 hi).1
  have hlt2 : j < ops.size := (Array.getElem?_eq_some_iff.1 hj).1
  have h1 := List.all_eq_true.1 h i (List.mem_range.2 hlt)
  rw [hi] at h1
  simp only [Bool.and_eq_true] at h1
  have h2 := List.all_eq_true.1 h1.2 j (List.mem_range.2 hlt2)
  rw [hj] at h2
  simp only [hd, Bool.or_eq_true, beq_iff_eq, hne, false_or, Bool.and_eq_true, Bool.not_eq_true', beq_eq_false_iff_ne] at h2
  refine ⟨h2.1, fun hm => ?_⟩
  rcases h2.2 with h3 | h3
  · have : (oi.looksAt ops).contains d = true := by simpa using hm
    rw [this] at h3; cases h3
  · obtain ⟨e, he, hb⟩ := Array.any_eq_true'.1 h3
    simp only [Bool.and_eq_true, beq_iff_eq] at hb
    exact ⟨e, he, hb.1, hb.2⟩

/-- the state behind the operations L, each with its value -/
structure At (ops : Array Oper) (a0 : Act) (vs : Nat → Value) (L : Nat → Prop) (a : Act) : Prop where
  defers : a.defers = a0.defers
  size : a.tmps.size = a0.tmps.size
  done : ∀ i o d, ops[i]? = some o → L i → o.dst = some d → d < a0.tmps.size → a.tmps[d]? = some (vs i)
  rest : ∀ d : Nat, (∀ i o, ops[i]? = some o → L i → o.dst ≠ some d) → a.tmps[d]? = a0.tmps[d]?

theorem At.start (a0 : Act) (vs : Nat → Value) : At ops a0 vs (fun _ => False) a0 := ⟨rfl, rfl, fun _ _ _ _ h => h.elim, fun _ _ => rfl⟩
theorem At.put {a0 a : Act} {vs : Nat → Value} {L L' : Nat → Prop} (hd : depOk ops = true) (h : At ops a0 vs L a) {i : Nat} {o : Oper} (hi : ops[i]? = some o) (hn : ¬ L i) (hL : ∀ j, L' j ↔ (L j ∨ j = i)) : At ops a0 vs L' (a.put o.dst (vs i)) := by
  cases hdst : o.dst with
  | none =>
    refine ⟨h.defers, h.size, fun k ok d hk hLk hkd hlt => ?_, fun d hall => h.rest d fun k ok hk hLk => hall k ok hk ((hL k).2 (.inl hLk))⟩
    rcases (hL k).1 hLk with h1 | rfl
    · exact h.done k ok d hk h1 hkd hlt
    · rw [hi] at hk; cases hk; rw [hdst] at hkd; cases hkd
  | some e =>
    refine ⟨h.defers, by simpa [Act.put] using h.size, fun k ok d hk hLk hkd hlt => ?_, fun d hall => ?_⟩
    · rcases (hL k).1 hLk with h1 | rfl
      · have hki : i ≠ k := fun e => hn (e ▸ h1)
        have hne : e ≠ d := fun hed => by
          subst hed
          exact (depOk_dst hd hk hi hki hdst).1 hkd
        show (a.tmps.setIfInBounds e (vs i))[d]? = _
        rw [Array.getElem?_setIfInBounds_ne hne]
        exact h.done k ok d hk h1 hkd hlt
      · rw [hi] at hk; cases hk
        rw [hdst] at hkd; cases hkd
        show (a.tmps.setIfInBounds e (vs k))[e]? = _
        rw [Array.getElem?_setIfInBounds_self, if_pos (by rw [h.size]; exact hlt)]
    · have hne : e ≠ d := fun hed => hall i o hi ((hL i).2 (.inr rfl)) (by rw [hdst, hed])
      show (a.tmps.setIfInBounds e (vs i))[d]? = _
      rw [Array.getElem?_setIfInBounds_ne hne]
      exact h.rest d fun k ok hk hLk => hall k ok hk ((hL k).2 (.inl hLk))
theorem At.unique {a0 a b : Act} {vs : Nat → Value} {L : Nat → Prop} (h : At ops a0 vs L a) (k : At ops a0 vs L b) : a = b := by
  have ht : a.tmps = b.tmps := by
    apply Array.ext_getElem?
    intro d
    by_cases hd : ∃ i o, ops[i]? = some o ∧ L i ∧ o.dst = some d
    · obtain ⟨i, o, ho, hL, hod⟩ := hd
      by_cases hlt : d < a0.tmps.size
      · rw [h.done i o d ho hL hod hlt, k.done i o d ho hL hod hlt]
      · rw [Array.getElem?_eq_none (by rw [h.size]; omega), Array.getElem?_eq_none (by rw [k.size]; omega)]
    · have hall : ∀ i o, ops[i]? = some o → L i → o.dst ≠ some d := fun i o ho hL he => hd ⟨i, o, ho, hL, he⟩
      rw [h.rest d hall, k.rest d hall]
  obtain ⟨t, f⟩ := a
  obtain ⟨t', f'⟩ := b
  have e1 := h.defers
  have e2 := k.defers
  simp only at e1 e2 ht
  rw [ht, e1, e2]
/-- two states agree on what an operation looks at -/
theorem At.same {a0 a b : Act} {vs : Nat → Value} {L M : Nat → Prop} (hd : depOk ops = true) (h : At ops a0 vs L a) (k : At ops a0 vs M b) {i : Nat} {o : Oper} (hi : ops[i]? = some o) (hL : ¬ L i) (hM : ¬ M i)
    (h1 : ∀ e ∈ o.after, Region.binds .any e = true → L e.on ∧ M e.on) {d : Tmp} (hlook : d ∈ o.looksAt ops) : a.tmps[d]? = b.tmps[d]? := by
  by_cases hx : ∃ j oj, ops[j]? = some oj ∧ oj.dst = some d ∧ j ≠ i
  · obtain ⟨j, oj, hj, hjd, hji⟩ := hx
    obtain ⟨e, he, hb, rfl⟩ := (depOk_dst hd hi hj hji hjd).2 hlook
    obtain ⟨hl, hm⟩ := h1 e he hb
    by_cases hlt : d < a0.tmps.size
    · rw [h.done _ oj d hj hl hjd hlt, k.done _ oj d hj hm hjd hlt]
    · rw [Array.getElem?_eq_none (by rw [h.size]; exact Nat.le_of_not_lt hlt), Array.getElem?_eq_none (by rw [k.size]; exact Nat.le_of_not_lt hlt)]
  · have h2 : ∀ j oj, ops[j]? = some oj → L j → oj.dst ≠ some d := fun j oj hj hLj he => hx ⟨j, oj, hj, he, fun e => hL (e ▸ hLj)⟩
    have h3 : ∀ j oj, ops[j]? = some oj → M j → oj.dst ≠ some d := fun j oj hj hMj he => hx ⟨j, oj, hj, he, fun e => hM (e ▸ hMj)⟩
    rw [h.rest d h2, k.rest d h3]

theorem YieldsTo.of_looks {S T : World → Prop} {o : Oper} {v : Value} {a b : Act} (hs : ∀ cs b, o.op ≠ .select cs b) (hy : YieldsTo P ops S T o v a) (h : ∀ d ∈ o.looksAt ops, a.tmps[d]? = b.tmps[d]?) : YieldsTo P ops S T o v b := by
  have e1 : execOp b.eval o = execOp a.eval o := execOp_congr o hs fun x hx => by
    cases x with
    | tmp t =>
      have := h t (List.mem_append_left _ (List.mem_filterMap.2 ⟨.tmp t, by simpa using hx, rfl⟩))
      simp only [Act.eval, Array.getD_eq_getD_getElem?, this]
    | const v => rfl
    | global g => rfl
    | func f => rfl
  have e2 : Region.wanted o (yielded ops b.tmps) = Region.wanted o (yielded ops a.tmps) := by
    unfold Region.wanted
    cases hg : o.guard with
    | none => rfl
    | some gw =>
      obtain ⟨g, want⟩ := gw
      have hyd : yielded ops b.tmps g = yielded ops a.tmps g := by
        unfold yielded
        cases ht : (ops[g]?).bind (·.dst) with
        | none => rfl
        | some t =>
          have := h t (by simp [Oper.looksAt, hg, ht])
          show (match b.tmps[t]? with | some (.bool x) => some x | _ => none) = (match a.tmps[t]? with | some (.bool x) => some x | _ => none)
          rw [this]
      simp only [hyd]
  unfold YieldsTo at *
  rw [e1, e2]
  exact hy

/-- the values and the states of the walk -/
theorem wpText_values : ∀ (l : List Oper) (k : Nat) (a : Act), ops.toList.drop k = l → k ≤ ops.size → wpText P ops Q S k0 k l a →
    ∃ (vs : Nat → Value) (acts : Nat → Act), acts k = a ∧ (∀ i o, k ≤ i → ops[i]? = some o → (∀ b, (i = k0 → b = false) → YieldsTo P ops (S b) (S (b || decide (i = k0))) o (vs i) (acts i)) ∧ acts (i + 1) = (acts i).put o.dst (vs i)) ∧ ∀ w, S (decide (k0 < ops.size)) w → Q .normal (acts ops.size) w
  | [], k, a, hk, hks, h => by
    have hle := List.drop_eq_nil_iff.1 hk
    simp at hle
    have he : k = ops.size := by omega
    refine ⟨fun _ => undef, fun _ => a, rfl, fun i o hi ho => ?_, ?_⟩
    · exfalso
      have hlt : i < ops.size := (Array.getElem?_eq_some_iff.1 ho).1
      omega
    · rw [← he]; exact h
  | o :: rest, k, a, hk, hks, ⟨v, hy, h⟩ => by
    have hko : ops[k]? = some o := by
      have h2 : (ops.toList.drop k)[0]? = some o := by rw [hk]; rfl
      rw [List.getElem?_drop] at h2
      simpa using h2
    have hklt : k < ops.size := (Array.getElem?_eq_some_iff.1 hko).1
    have hkr : ops.toList.drop (k + 1) = rest := by
      rw [← List.drop_drop, hk]; rfl
    obtain ⟨vs, acts, h1, h2, h3⟩ := wpText_values rest (k + 1) _ hkr hklt h
    refine ⟨fun i => if i = k then v else vs i, fun i => if i = k then a else acts i, by simp, fun i oi hi hoi => ?_, fun w hw => ?_⟩
    · by_cases hik : i = k
      · subst hik
        rw [hko] at hoi; cases hoi
        simp only [if_true, if_neg (Nat.succ_ne_self i)]
        exact ⟨hy, h1⟩
      · have := h2 i oi (by omega) hoi
        simp only [if_neg hik, if_neg (show ¬ i + 1 = k from by omega)]
        exact this
    · have := h3 w hw
      simp only [if_neg (show ¬ ops.size = k from by omega)]
      exact this

theorem countP_lt {p q : Nat → Bool} (hle : ∀ i, q i = true → p i = true) : ∀ (l : List Nat) (i : Nat), i ∈ l → p i = true → q i = false → l.countP q < l.countP p
  | [], _, h, _, _ => by cases h
  | x :: l, i, h, hp, hq => by
    have hmono : l.countP q ≤ l.countP p := List.countP_mono_left fun x _ hx => hle x hx
    rcases List.mem_cons.1 h with rfl | h
    · rw [List.countP_cons_of_neg (by simp [hq]), List.countP_cons_of_pos hp]; omega
    · have ih := countP_lt hle l i h hp hq
      rw [List.countP_cons, List.countP_cons]
      cases hqx : q x with
      | false => cases p x <;> simp <;> omega
      | true => rw [hle x hqx]; simp; omega

theorem wpAny_text {a0 : Act} {vs : Nat → Value} {acts : Nat → Act} (hd : depOk ops = true) (hs : Region.noSelect ops = true) (h0 : acts 0 = a0)
    (hv : ∀ i o, ops[i]? = some o → (∀ b, (i = k0 → b = false) → YieldsTo P ops (S b) (S (b || decide (i = k0))) o (vs i) (acts i)) ∧ acts (i + 1) = (acts i).put o.dst (vs i)) (hQ : ∀ w, S (decide (k0 < ops.size)) w → Q .normal (acts ops.size) w) :
    ∀ (fuel : Nat) (listed : Array Bool) (a : Act) (w : World), listed.size = ops.size → At ops a0 vs (fun i => listed.getD i false = true) a → S (listed.getD k0 false) w → (List.range ops.size).countP (fun i => !listed.getD i true) ≤ fuel →
      wpAny P .any ops Q fuel listed a w := by
  have hat : ∀ k, k ≤ ops.size → At ops a0 vs (fun i => i < k) (acts k) := by
    intro k
    induction k with
    | zero =>
      intro _
      rw [h0]
      exact ⟨rfl, rfl, fun _ _ _ _ h => absurd h (Nat.not_lt_zero _), fun _ _ => rfl⟩
    | succ k ih =>
      intro hk
      obtain ⟨o, ho⟩ : ∃ o, ops[k]? = some o := ⟨_, Array.getElem?_eq_getElem (by omega)⟩
      rw [(hv k o ho).2]
      exact (ih (by omega)).put hd ho (Nat.lt_irrefl k) (fun j => by omega)
  have hall : ∀ (listed : Array Bool), listed.size = ops.size → Region.ready .any ops listed = [] → ∀ i, i < ops.size → listed.getD i false = true := by
    intro listed hsz hr i
    induction i using Nat.strongRecOn with
    | ind i ih =>
      intro hi
      obtain ⟨o, ho⟩ : ∃ o, ops[i]? = some o := ⟨_, Array.getElem?_eq_getElem hi⟩
      cases hb : listed.getD i false with
      | true => rfl
      | false =>
        exfalso
        have hmem : i ∈ Region.ready .any ops listed := by
          rw [mem_ready]
          refine ⟨?_, o, ho, fun e he hbd => ?_⟩
          · have : i < listed.size := by omega
            simp [this] at hb ⊢
            exact hb
          · have hlt := depOk_after hd ho he hbd
            exact ih e.on hlt (by omega)
        rw [hr] at hmem
        cases hmem
  have hend : ∀ (listed : Array Bool) (a : Act) (w : World), listed.size = ops.size → At ops a0 vs (fun i => listed.getD i false = true) a → S (listed.getD k0 false) w → Region.ready .any ops listed = [] → Q .normal a w := by
    intro listed a w hsz hA hS hr
    have h1 := hall listed hsz hr
    have hA2 : At ops a0 vs (fun i => i < ops.size) a := by
      refine ⟨hA.defers, hA.size, fun i o d ho hi => hA.done i o d ho (h1 i hi), fun d hn => hA.rest d fun i o ho _ => hn i o ho (Array.getElem?_eq_some_iff.1 ho).1⟩
    rw [hA2.unique (hat ops.size (Nat.le_refl _))]
    refine hQ w ?_
    have e1 : decide (k0 < ops.size) = listed.getD k0 false := by
      by_cases hk : k0 < ops.size
      · rw [h1 k0 hk, decide_eq_true hk]
      · have : ¬ k0 < listed.size := by omega
        rw [decide_eq_false hk]
        simp [this]
    rw [e1]
    exact hS
  intro fuel
  induction fuel with
  | zero =>
    intro listed a w hsz hA hS hc
    have hr : Region.ready .any ops listed = [] := by
      cases hr : Region.ready .any ops listed with
      | nil => rfl
      | cons x xs =>
        exfalso
        have hx : x ∈ Region.ready .any ops listed := by rw [hr]; exact List.mem_cons_self
        obtain ⟨h1, o, ho, _⟩ := mem_ready.1 hx
        have hlt : x < ops.size := (Array.getElem?_eq_some_iff.1 ho).1
        have : 0 < (List.range ops.size).countP (fun i => !listed.getD i true) := List.countP_pos_iff.2 ⟨x, List.mem_range.2 hlt, by rw [h1]; rfl⟩
        omega
    exact ⟨hr, hend listed a w hsz hA hS hr⟩
  | succ fuel ih =>
    intro listed a w hsz hA hS hc
    refine ⟨hend listed a w hsz hA hS, fun i hi => ?_⟩
    obtain ⟨hun, o, ho, hafter⟩ := mem_ready.1 hi
    have hlt : i < ops.size := (Array.getElem?_eq_some_iff.1 ho).1
    have hsel := fun cs b => Region.noSelect_spec hs i o cs b ho
    have hnl : ¬ listed.getD i false = true := by
      have : i < listed.size := by omega
      simp [this] at hun ⊢
      exact hun
    have hph : i = k0 → listed.getD k0 false = false := fun e => by
      subst e
      cases hb : listed.getD i false with
      | false => rfl
      | true => exact absurd hb hnl
    have hy : YieldsTo P ops (S (listed.getD k0 false)) (S (listed.getD k0 false || decide (i = k0))) o (vs i) a := ((hv i o ho).1 _ hph).of_looks hsel fun d hdl =>
      (hat i (by omega)).same hd hA ho (Nat.lt_irrefl i) hnl (fun e he hb => ⟨depOk_after hd ho he hb, hafter e he hb⟩) hdl
    have hph2 : (listed.setIfInBounds i true).getD k0 false = (listed.getD k0 false || decide (i = k0)) := by
      by_cases hik : i = k0
      · subst hik
        have : i < listed.size := by omega
        simp [this]
      · rw [getD_set_ne false hik, decide_eq_false hik, Bool.or_false]
    refine hy.wpOp ho hS fun w' hS' => ih (listed.setIfInBounds i true) _ w' (by simpa using hsz) ?_ (by rw [hph2]; exact hS') ?_
    · refine hA.put hd ho hnl fun j => ?_
      by_cases hij : i = j
      · subst hij
        have : i < listed.size := by omega
        simp [this]
      · rw [getD_set_ne false hij]
        constructor
        · exact .inl
        · rintro (h | rfl)
          · exact h
          · exact absurd rfl hij
    · have := countP_lt (p := fun i => !listed.getD i true) (q := fun j => !(listed.setIfInBounds i true).getD j true) (fun j hj => by
        by_cases hij : i = j
        · subst hij; simp only [hun]; rfl
        · rw [getD_set_ne true hij] at hj; exact hj) (List.range ops.size) i (List.mem_range.2 hlt) (by simp only [hun]; rfl) (by
          have : i < listed.size := by omega
          simp [this])
      omega

/-- **one walk in the order of the text serves every order** -/
theorem wp_region_text2 {id : Nat} {a : Act} {w : World} (S : Bool → World → Prop) (k0 : Nat) (hm : P.follows .mixedOrders = true) (hd : depOk ops = true) (hs : Region.noSelect ops = true) (hS : S false w.drew) (h : wpText P ops Q S k0 0 ops.toList a) : (Code.region id ops true).wp P Q a w := by
  obtain ⟨vs, acts, h1, h2, h3⟩ := wpText_values (ops := ops) ops.toList 0 a rfl (Nat.zero_le _) h
  refine wp_region_any hm (wpAny_text hd hs h1 (fun i o ho => h2 i o (Nat.zero_le _) ho) h3 ops.size _ a _ (by simp) ?_ ?_ ?_)
  · refine ⟨rfl, rfl, fun i o d ho hL => ?_, fun _ _ => rfl⟩
    exfalso
    have hlt : i < ops.size := (Array.getElem?_eq_some_iff.1 ho).1
    simp [hlt] at hL
  · have e : (Array.replicate ops.size false).getD k0 false = false := by
      by_cases hk : k0 < ops.size
      · simp [hk]
      · simp [hk]
    rw [e]
    exact hS
  · have := List.countP_le_length (p := fun i => !(Array.replicate ops.size false).getD i true) (l := List.range ops.size)
    simpa using this

/-! ### steps of the walk -/
theorem text_pure {v : Value} {k : Nat} {o : Oper} {rest : List Oper} {a : Act} (hg : o.guard = none) (hk : decide (k = k0) = false)
    (h1 : ∀ w, (execOp a.eval o).run P w = .ok (.value v) w) (h2 : ∀ K : Act → Prop, (∀ a', wpText P ops Q S k0 (k + 1) rest a' → K a') → K (a.put o.dst v)) : wpText P ops Q S k0 k (o :: rest) a := by
  refine ⟨v, fun b _ => .inl ⟨by simp [Region.wanted, hg], fun w hS => ?_⟩, h2 _ (fun _ h => h)⟩
  rw [h1 w, hk, Bool.or_false]
  exact ⟨rfl, hS⟩
theorem text_read {v : Value} {k : Nat} {o : Oper} {rest : List Oper} {a : Act} (hg : o.guard = none) (hk : decide (k = k0) = false)
    (h1 : ∀ b w, S b w → (execOp a.eval o).run P w = .ok (.value v) w) (h2 : ∀ K : Act → Prop, (∀ a', wpText P ops Q S k0 (k + 1) rest a' → K a') → K (a.put o.dst v)) : wpText P ops Q S k0 k (o :: rest) a := by
  refine ⟨v, fun b _ => .inl ⟨by simp [Region.wanted, hg], fun w hS => ?_⟩, h2 _ (fun _ h => h)⟩
  rw [h1 b w hS, hk, Bool.or_false]
  exact ⟨rfl, hS⟩
theorem text_store {k : Nat} {o : Oper} {rest : List Oper} {a : Act} (hg : o.guard = none) (hk : k = k0)
    (h : ∀ w, S false w → ∃ w', (execOp a.eval o).run P w = .ok .skip w' ∧ S true w') (h2 : wpText P ops Q S k0 (k + 1) rest (a.put o.dst undef)) : wpText P ops Q S k0 k (o :: rest) a := by
  refine ⟨undef, fun b hb => .inl ⟨by simp [Region.wanted, hg], fun w hS => ?_⟩, h2⟩
  obtain rfl := hb hk
  obtain ⟨w', h3, h4⟩ := h w hS
  rw [h3, decide_eq_true hk]
  exact ⟨rfl, h4⟩
theorem text_store_row {k : Nat} {o : Oper} {rest : List Oper} {a : Act} (hgd : o.guard = none) (hk : k = k0) (ty : TypeId) (x y : Operand) (ho : o.op = .store ty x y) (hdst : o.dst = none)
    (g : Nat) (cells : Array Value) (hx : a.eval x = .pointer (some ⟨g, 0, none⟩)) (hy : a.eval y = .agg cells)
    (t : TypeId) (old : Array Value) (hg : ∀ w, S false w → w.heap[g]? = some (.cells old t (0, 0))) (hi : (P.info? ty).map (·.size) = some cells.size)
    (hold : old.size = cells.size) (h1 : cells.all (·.oneCell') = true) (hT : ∀ w, S false w → S true (w.setRow g cells)) (h2 : wpText P ops Q S k0 (k + 1) rest a) : wpText P ops Q S k0 k (o :: rest) a := by
  refine text_store hgd hk (fun w hS => ⟨w.setRow g cells, ?_, hT w hS⟩) (by rw [hdst]; exact h2)
  unfold execOp
  simp only [ho, hx, hy, Instr.storeAt, Instr.sureAddr, Sem.run_bind, Sem.run_pure, Result.andThen_ok, run_storeVar_row w g t ty old cells (hg w hS) hi hold h1]
theorem text_end {k : Nat} {a : Act} (h : ∀ w, S (decide (k0 < k)) w → Q .normal a w) : wpText P ops Q S k0 k [] a := h
end
end Go.Proofs.YthijakidnkhbnaaGreatDoor.Ord

namespace Go.Proofs.YthijakidnkhbnaaGreatDoor.Ord
open Go

/-- read by ρ, in every world that meets S, the operation comes to v and to such a world -/
def YB (P : Program) (S : World → Prop) (ρ : Operand → Value) (o : Oper) (v : Value) : Prop := ∀ w, S w → Gives P S v ((execOp ρ o).run P w)
/-- is an operation wanted, by the values -/
def wantV (vs : List Value) (o : Oper) : Bool := match o.guard with
  | none => true
  | some (j, want) => match vs[j]? with
    | some (.bool b) => b == want
    | _ => false
/-- an operation's value -/
def YV (P : Program) (S : World → Prop) (ρ : Operand → Value) (vs : List Value) (o : Oper) (v : Value) : Prop := (wantV vs o = true → YB P S ρ o v) ∧ (wantV vs o = false → v = undef)
def AllY (P : Program) (S : World → Prop) (ρ : Operand → Value) (vs : List Value) : List Oper → List Value → Prop
  | o :: l, v :: m => YV P S ρ vs o v ∧ AllY P S ρ vs l m
  | _, _ => True
/-- what ρ reads in the temporaries of the operations -/
def AllD (ρ : Operand → Value) : List Oper → List Value → Prop
  | o :: l, v :: m => (match o.dst with | some d => ρ (.tmp d) = v | none => True) ∧ AllD ρ l m
  | _, _ => True

theorem AllY.get {P : Program} {S : World → Prop} {ρ : Operand → Value} {vs : List Value} : ∀ {l : List Oper} {m : List Value} (i : Nat) (o : Oper) (v : Value), AllY P S ρ vs l m → l[i]? = some o → m[i]? = some v → YV P S ρ vs o v
  | [], _, i, o, v, _, h, _ => by simp at h
  | _ :: _, [], i, o, v, _, _, h => by simp at h
  | _ :: _, _ :: _, 0, o, v, h, h1, h2 => by simp at h1 h2; subst h1; subst h2; exact h.1
  | _ :: _, _ :: _, i + 1, o, v, h, h1, h2 => AllY.get i o v h.2 (by simpa using h1) (by simpa using h2)
theorem AllD.intro {ρ : Operand → Value} : ∀ {l : List Oper} {m : List Value}, (∀ (i : Nat) (o : Oper) (v : Value) (d : Tmp), l[i]? = some o → m[i]? = some v → o.dst = some d → ρ (.tmp d) = v) → AllD ρ l m
  | [], _, _ => trivial
  | _ :: _, [], _ => trivial
  | o :: l, v :: m, h => ⟨by cases hd : o.dst with | none => trivial | some d => exact h 0 o v d rfl rfl hd, AllD.intro fun i o v d h1 h2 h3 => h (i + 1) o v d (by simpa using h1) (by simpa using h2) h3⟩

section
variable {P : Program} {ops : Array Oper} {Q : Exit → Act → World → Prop} {S : World → Prop}

/-- temporaries lie in the frame; a guard is an earlier operation -/
def boundOk (ops : Array Oper) (nt : Nat) : Bool := (ops.toList.all fun (o : Oper) => match o.dst with | some d => decide (d < nt) | none => true) &&
  (List.range ops.size).all fun i => match ops[i]? with
    | some o => (match o.guard with | some (j, _) => decide (j < i) && ((ops[j]?).bind (·.dst)).isSome | none => true) && (match o.dst with | some d => !(o.looksAt ops).contains d | none => true)
    | none => true
/-- the operations from n on wait for all before them -/
def tailOk (ops : Array Oper) (n : Nat) : Bool :=
  ((List.range n).all fun j => (ops.toList.take (n + 1)).any fun (o : Oper) => o.after.any fun e => Region.binds .any e && e.on == j) &&
  (List.range (ops.size - n)).all fun k => match ops[n + k + 1]? with
    | some o => o.after.any fun e => Region.binds .any e && e.on == n + k
    | none => true

theorem tail_first {n : Nat} (ht : tailOk ops n = true) (hd : depOk ops = true) (hn : n < ops.size) {L : Nat → Prop} (hcl : ∀ (i : Nat) (o : Oper), ops[i]? = some o → L i → ∀ e ∈ o.after, Region.binds .any e = true → L e.on) {i : Nat} {o : Oper} (hi : ops[i]? = some o) (hin : n ≤ i)
    (hr : ∀ e ∈ o.after, Region.binds .any e = true → L e.on) : ∀ j, j < i → L j := by
  have hilt : i < ops.size := (Array.getElem?_eq_some_iff.1 hi).1
  simp only [tailOk, Bool.and_eq_true] at ht
  -- every operation before has a successor at or before i
  have hsucc : ∀ j, j < i → ∃ (s : Nat) (os : Oper), ops[s]? = some os ∧ s ≤ i ∧ ∃ e ∈ os.after, Region.binds .any e = true ∧ e.on = j := by
    intro j hj
    by_cases hjn : j < n
    · have h1 := List.all_eq_true.1 ht.1 j (List.mem_range.2 hjn)
      obtain ⟨os, hos, h2⟩ := List.any_eq_true.1 h1
      obtain ⟨e, he, h3⟩ := Array.any_eq_true'.1 h2
      simp only [Bool.and_eq_true, beq_iff_eq] at h3
      obtain ⟨s, hs⟩ := List.mem_iff_getElem?.1 hos
      rw [List.getElem?_take] at hs
      split at hs
      · exact ⟨s, os, by simpa using hs, by omega, e, he, h3.1, h3.2⟩
      · cases hs
    · obtain ⟨k, rfl⟩ : ∃ k, j = n + k := ⟨j - n, by omega⟩
      have h1 := List.all_eq_true.1 ht.2 k (List.mem_range.2 (by omega))
      obtain ⟨os, hos⟩ : ∃ os, ops[n + k + 1]? = some os := ⟨_, Array.getElem?_eq_getElem (by omega)⟩
      rw [hos] at h1
      obtain ⟨e, he, h3⟩ := Array.any_eq_true'.1 h1
      simp only [Bool.and_eq_true, beq_iff_eq] at h3
      exact ⟨n + k + 1, os, hos, by omega, e, he, h3.1, h3.2⟩
  -- downwards
  have hdown : ∀ m j, j < i → i - j ≤ m → L j := by
    intro m
    induction m with
    | zero => intro j hj hm; omega
    | succ m ih =>
      intro j hj hm
      obtain ⟨s, os, hos, hsi, e, he, hb, heon⟩ := hsucc j hj
      have hjs : j < s := by rw [← heon]; exact depOk_after hd hos he hb
      rw [← heon]
      by_cases hsi2 : s = i
      · subst hsi2
        rw [hi] at hos; cases hos
        exact hr e he hb
      · exact hcl s os hos (ih s (by omega) (by omega)) e he hb
  exact fun j hj => hdown i j hj (by omega)

/-- the values are given: every order serves -/
theorem wp_region_vals {id : Nat} {a : Act} {w : World} (S : World → Prop) (n : Nat) (vs : List Value) (hvl : vs.length = n) (hn : n < ops.size) (hm : P.follows .mixedOrders = true) (hd : depOk ops = true) (hs : Region.noSelect ops = true) (hb : boundOk ops a.tmps.size = true) (ht : tailOk ops n = true) (hS : S w.drew)
    (hY : ∀ ρ : Operand → Value, AllD ρ (ops.toList.take n) vs → (∀ t : Nat, (∀ o : Oper, o ∈ ops.toList → o.dst ≠ some t) → ρ (.tmp t) = a.eval (.tmp t)) → (∀ v, ρ (.const v) = v) → (∀ f, ρ (.func f) = .func (.func f) #[] #[]) → AllY P S ρ vs (ops.toList.take n) vs)
    (hend : ∀ (b : Act) (w' : World), S w' → b.defers = a.defers → b.tmps.size = a.tmps.size → AllD b.eval (ops.toList.take n) vs → (∀ t : Nat, (∀ o : Oper, o ∈ ops.toList → o.dst ≠ some t) → b.tmps[t]? = a.tmps[t]?) → wpOps P ops Q (List.range' n (ops.size - n)) b w') :
    (Code.region id ops true).wp P Q a w := by
  have hbd : ∀ (i : Nat) (o : Oper) (d : Tmp), ops[i]? = some o → o.dst = some d → d < a.tmps.size := by
    intro i o d ho hod
    simp only [boundOk, Bool.and_eq_true] at hb
    have := List.all_eq_true.1 hb.1 o (by simpa using Array.mem_of_getElem? ho)
    rw [hod] at this
    simpa using this
  have hgd : ∀ (i : Nat) (o : Oper) (j : Nat) (want : Bool), ops[i]? = some o → o.guard = some (j, want) → j < i ∧ ∃ d, (ops[j]?).bind (·.dst) = some d := by
    intro i o j want ho hg
    simp only [boundOk, Bool.and_eq_true] at hb
    have := List.all_eq_true.1 hb.2 i (List.mem_range.2 (Array.getElem?_eq_some_iff.1 ho).1)
    rw [ho] at this
    simp only [Bool.and_eq_true] at this
    have this := this.1
    rw [hg] at this
    simp only [Bool.and_eq_true, decide_eq_true_eq] at this
    refine ⟨this.1, ?_⟩
    cases h : (ops[j]?).bind (·.dst) with
    | none => rw [h] at this; cases this.2
    | some d => exact ⟨d, rfl⟩
  have hself : ∀ (i : Nat) (o : Oper) (d : Tmp), ops[i]? = some o → o.dst = some d → d ∉ o.looksAt ops := by
    intro i o d ho hod hm
    simp only [boundOk, Bool.and_eq_true] at hb
    have := List.all_eq_true.1 hb.2 i (List.mem_range.2 (Array.getElem?_eq_some_iff.1 ho).1)
    rw [ho] at this
    simp only [Bool.and_eq_true] at this
    have this := this.2
    rw [hod] at this
    simp at this
    exact this hm
  obtain ⟨vf, hvf⟩ : ∃ vf : Nat → Value, vf = fun i => vs.getD i undef := ⟨_, rfl⟩
  -- the state behind the first k operations
  obtain ⟨acts, ha0, haS⟩ : ∃ acts : Nat → Act, acts 0 = a ∧ ∀ (i : Nat) (o : Oper), ops[i]? = some o → acts (i + 1) = (acts i).put o.dst (vf i) := by
    refine ⟨fun k => Nat.rec a (fun i b => match ops[i]? with | some o => b.put o.dst (vf i) | none => b) k, rfl, fun i o ho => ?_⟩
    show (match ops[i]? with | some o => _ | none => _) = _
    rw [ho]
  have hat : ∀ k, k ≤ ops.size → At ops a vf (fun i => i < k) (acts k) := by
    intro k
    induction k with
    | zero => intro _; rw [ha0]; exact ⟨rfl, rfl, fun _ _ _ _ h => absurd h (Nat.not_lt_zero _), fun _ _ => rfl⟩
    | succ k ih =>
      intro hk
      obtain ⟨o, ho⟩ : ∃ o, ops[k]? = some o := ⟨_, Array.getElem?_eq_getElem (by omega)⟩
      rw [haS k o ho]
      exact (ih (by omega)).put hd ho (Nat.lt_irrefl k) (fun j => by omega)
  have hvget : ∀ i, i < n → vs[i]? = some (vf i) := by
    intro i hi
    rw [hvf]
    simp only [List.getD_eq_getElem?_getD]
    rw [List.getElem?_eq_getElem (by omega)]
    rfl
  have htk : ∀ (i : Nat) (o : Oper), (ops.toList.take n)[i]? = some o → i < n ∧ ops[i]? = some o := by
    intro i o h
    rw [List.getElem?_take] at h
    split at h
    · exact ⟨by assumption, by simpa using h⟩
    · cases h
  have hallD : AllD (acts n).eval (ops.toList.take n) vs := by
    refine AllD.intro fun i o v d h1 h2 h3 => ?_
    obtain ⟨hi, ho⟩ := htk i o h1
    have e1 := (hat n (by omega)).done i o d ho hi h3 (hbd i o d ho h3)
    show (acts n).tmps.getD d undef = v
    rw [Array.getD_eq_getD_getElem?, e1]
    rw [hvget i hi] at h2
    exact Option.some.inj h2
  have hrest : ∀ t : Nat, (∀ o : Oper, o ∈ ops.toList → o.dst ≠ some t) → (acts n).tmps[t]? = a.tmps[t]? := fun t h => (hat n (by omega)).rest t fun i o ho _ => h o (by simpa using Array.mem_of_getElem? ho)
  have hallY := hY (acts n).eval hallD (fun t h => by show (acts n).tmps.getD t undef = a.tmps.getD t undef; rw [Array.getD_eq_getD_getElem?, Array.getD_eq_getD_getElem?, hrest t h]) (fun _ => rfl) (fun _ => rfl)
  -- each of the first n, in any state that it may come up in
  have hyi : ∀ (L : Nat → Prop) (b : Act) (i : Nat) (o : Oper), At ops a vf L b → ops[i]? = some o → i < n → ¬ L i → (∀ e ∈ o.after, Region.binds .any e = true → L e.on) → YieldsTo P ops S S o (vf i) b := by
    intro L b i o hA ho hi hL hafter
    have hsel := fun cs b => Region.noSelect_spec hs i o cs b ho
    obtain ⟨y1, y2⟩ := hallY.get i o (vf i) (by rw [List.getElem?_take, if_pos hi]; simpa using ho) (hvget i hi)
    -- in the state behind the first i
    have key : YieldsTo P ops S S o (vf i) (acts i) := by
      have hlook : ∀ d ∈ o.looksAt ops, (acts n).tmps[d]? = (acts i).tmps[d]? := by
        intro d hdl
        by_cases hx : ∃ (j : Nat) (oj : Oper), ops[j]? = some oj ∧ oj.dst = some d ∧ j ≠ i
        · obtain ⟨j, oj, hj, hjd, hji⟩ := hx
          obtain ⟨e, he, hbn, rfl⟩ := (depOk_dst hd ho hj hji hjd).2 hdl
          have hlt := depOk_after hd ho he hbn
          rw [(hat n (by omega)).done e.on oj d hj (by omega) hjd (hbd _ oj d hj hjd), (hat i (by omega)).done e.on oj d hj hlt hjd (hbd _ oj d hj hjd)]
        · by_cases hown : o.dst = some d
          · exact absurd hdl (hself i o d ho hown)
          · have hno : ∀ (j : Nat) (oj : Oper), ops[j]? = some oj → oj.dst ≠ some d := fun j oj hj he => by
              by_cases hji : j = i
              · subst hji; rw [ho] at hj; cases hj; exact hown he
              · exact hx ⟨j, oj, hj, he, hji⟩
            rw [(hat n (by omega)).rest d fun j oj hj _ => hno j oj hj, (hat i (by omega)).rest d fun j oj hj _ => hno j oj hj]
      have hwant : Region.wanted o (yielded ops (acts n).tmps) = wantV vs o := by
        unfold Region.wanted wantV
        cases hg : o.guard with
        | none => rfl
        | some gw =>
          obtain ⟨j, want⟩ := gw
          obtain ⟨hji, d, hjd⟩ := hgd i o j want ho hg
          obtain ⟨oj, hoj⟩ : ∃ oj, ops[j]? = some oj := ⟨_, Array.getElem?_eq_getElem (by omega)⟩
          have hjd2 : oj.dst = some d := by rw [hoj] at hjd; exact hjd
          have e1 := (hat n (by omega)).done j oj d hoj (by omega) hjd2 (hbd j oj d hoj hjd2)
          have e2 : yielded ops (acts n).tmps j = match some (vf j) with | some (.bool b) => some b | _ => none := by
            unfold yielded
            rw [hjd]
            show (match (acts n).tmps[d]? with | some (.bool b) => some b | _ => none) = _
            rw [e1]
          simp only [e2, hvget j (by omega)]
          cases vf j <;> simp
      have hyn : YieldsTo P ops S S o (vf i) (acts n) := by
        unfold YieldsTo
        rw [hwant]
        cases hw : wantV vs o with
        | true => exact .inl ⟨rfl, y1 hw⟩
        | false => exact .inr ⟨rfl, y2 hw, fun w h => h⟩
      exact hyn.of_looks hsel hlook
    exact key.of_looks hsel fun d hdl => (hat i (by omega)).same hd hA ho (Nat.lt_irrefl i) hL (fun e he hbn => ⟨depOk_after hd ho he hbn, hafter e he hbn⟩) hdl
  have hall : ∀ (listed : Array Bool), listed.size = ops.size → Region.ready .any ops listed = [] → ∀ i, i < ops.size → listed.getD i false = true := by
    intro listed hsz hr i
    induction i using Nat.strongRecOn with
    | ind i ih =>
      intro hi
      obtain ⟨o, ho⟩ : ∃ o, ops[i]? = some o := ⟨_, Array.getElem?_eq_getElem hi⟩
      cases hbq : listed.getD i false with
      | true => rfl
      | false =>
        exfalso
        have hmem : i ∈ Region.ready .any ops listed := by
          rw [mem_ready]
          refine ⟨?_, o, ho, fun e he hbn => ?_⟩
          · have : i < listed.size := by omega
            simp [this] at hbq ⊢
            exact hbq
          · have hlt := depOk_after hd ho he hbn
            exact ih e.on hlt (by omega)
        rw [hr] at hmem
        cases hmem
  have hunl : ∀ (listed : Array Bool) (i : Nat), listed.size = ops.size → i < ops.size → listed.getD i true = false → ¬ listed.getD i false = true := by
    intro listed i hsz hi hu
    have : i < listed.size := by omega
    simp [this] at hu ⊢
    exact hu
  have hset : ∀ (listed : Array Bool) (i j : Nat), listed.size = ops.size → i < ops.size → ((listed.setIfInBounds i true).getD j false = true ↔ (listed.getD j false = true ∨ j = i)) := by
    intro listed i j hsz hi
    by_cases hij : i = j
    · subst hij
      have : i < listed.size := by omega
      simp [this]
    · rw [getD_set_ne false hij]
      constructor
      · exact .inl
      · rintro (h | rfl)
        · exact h
        · exact absurd rfl hij
  have hcount : ∀ (listed : Array Bool) (i fuel : Nat), listed.size = ops.size → i < ops.size → listed.getD i true = false → (List.range ops.size).countP (fun i => !listed.getD i true) ≤ fuel + 1 → (List.range ops.size).countP (fun j => !(listed.setIfInBounds i true).getD j true) ≤ fuel := by
    intro listed i fuel hsz hi hun hc
    have := countP_lt (p := fun i => !listed.getD i true) (q := fun j => !(listed.setIfInBounds i true).getD j true) (fun j hj => by
      by_cases hij : i = j
      · subst hij; simp only [hun]; rfl
      · rw [getD_set_ne true hij] at hj; exact hj) (List.range ops.size) i (List.mem_range.2 hi) (by simp only [hun]; rfl) (by
        have : i < listed.size := by omega
        simp [this])
    omega
  -- the last operations, in their order
  have htail : ∀ (fuel k : Nat) (listed : Array Bool) (b : Act) (w' : World), n ≤ k → k ≤ ops.size → listed.size = ops.size → (∀ j, listed.getD j false = true ↔ j < k) → (List.range ops.size).countP (fun i => !listed.getD i true) ≤ fuel → wpOps P ops Q (List.range' k (ops.size - k)) b w' → wpAny P .any ops Q fuel listed b w' := by
    intro fuel
    induction fuel with
    | zero =>
      intro k listed b w' hnk hks hsz hL hc hq
      have hke : k = ops.size := by
        apply Classical.byContradiction
        intro hne
        have hklt : k < ops.size := by omega
        have hu : listed.getD k true = false := by
          have h1 : ¬ listed.getD k false = true := fun h => Nat.lt_irrefl _ ((hL k).1 h)
          have : k < listed.size := by omega
          simp [this] at h1 ⊢
          exact h1
        have : 0 < (List.range ops.size).countP (fun i => !listed.getD i true) := List.countP_pos_iff.2 ⟨k, List.mem_range.2 hklt, by rw [hu]; rfl⟩
        omega
      subst hke
      have hr : Region.ready .any ops listed = [] := by
        cases hr : Region.ready .any ops listed with
        | nil => rfl
        | cons x xs =>
          exfalso
          have hx : x ∈ Region.ready .any ops listed := by rw [hr]; exact List.mem_cons_self
          obtain ⟨h1, o, ho, _⟩ := mem_ready.1 hx
          have hlt : x < ops.size := (Array.getElem?_eq_some_iff.1 ho).1
          exact hunl listed x hsz hlt h1 ((hL x).2 hlt)
      rw [Nat.sub_self] at hq
      exact ⟨hr, hq⟩
    | succ fuel ih =>
      intro k listed b w' hnk hks hsz hL hc hq
      by_cases hke : k = ops.size
      · subst hke
        have hr : Region.ready .any ops listed = [] := by
          cases hr : Region.ready .any ops listed with
          | nil => rfl
          | cons x xs =>
            exfalso
            have hx : x ∈ Region.ready .any ops listed := by rw [hr]; exact List.mem_cons_self
            obtain ⟨h1, o, ho, _⟩ := mem_ready.1 hx
            have hlt : x < ops.size := (Array.getElem?_eq_some_iff.1 ho).1
            exact hunl listed x hsz hlt h1 ((hL x).2 hlt)
        rw [Nat.sub_self] at hq
        exact wpAny_done hr hq _
      · have hklt : k < ops.size := by omega
        refine ⟨fun hr => ?_, fun i hi => ?_⟩
        · exact absurd ((hL k).1 (hall listed hsz hr k hklt)) (Nat.lt_irrefl _)
        · obtain ⟨hun, o, ho, hafter⟩ := mem_ready.1 hi
          have hilt : i < ops.size := (Array.getElem?_eq_some_iff.1 ho).1
          have hki : k ≤ i := by
            rcases Nat.lt_or_ge i k with h | h
            · exact absurd ((hL i).2 h) (hunl listed i hsz hilt hun)
            · exact h
          have hfirst := tail_first ht hd hn (L := fun j => listed.getD j false = true) (fun j oj hj hLj e he hbn => (hL e.on).2 (by have := depOk_after hd hj he hbn; have := (hL j).1 hLj; omega)) ho (by omega) (fun e he hbn => hafter e he hbn)
          have hik : i = k := by
            rcases Nat.lt_or_ge k i with h | h
            · exact absurd ((hL k).1 (hfirst k h)) (Nat.lt_irrefl _)
            · omega
          subst hik
          rw [show ops.size - i = (ops.size - (i + 1)) + 1 from by omega, List.range'_succ, wpOps_cons] at hq
          refine wpOp_mono (fun a' w'' h => ih (i + 1) (listed.setIfInBounds i true) a' w'' (by omega) (by omega) (by simpa using hsz) (fun j => ?_) (hcount listed i fuel hsz hilt hun hc) h) hq
          rw [hset listed i j hsz hilt, hL j]
          omega
  -- the first operations, in any order
  have hmain : ∀ (fuel : Nat) (listed : Array Bool) (b : Act) (w' : World), listed.size = ops.size → At ops a vf (fun i => listed.getD i false = true) b → S w' → (∀ j, listed.getD j false = true → j < n) → (∀ (i : Nat) (o : Oper), ops[i]? = some o → listed.getD i false = true → ∀ e ∈ o.after, Region.binds .any e = true → listed.getD e.on false = true) → (List.range ops.size).countP (fun i => !listed.getD i true) ≤ fuel → wpAny P .any ops Q fuel listed b w' := by
    intro fuel
    induction fuel with
    | zero =>
      intro listed b w' hsz hA hSw hlow hcl hc
      exfalso
      have hu : listed.getD n true = false := by
        have h1 : ¬ listed.getD n false = true := fun h => Nat.lt_irrefl _ (hlow n h)
        have : n < listed.size := by omega
        simp [this] at h1 ⊢
        exact h1
      have : 0 < (List.range ops.size).countP (fun i => !listed.getD i true) := List.countP_pos_iff.2 ⟨n, List.mem_range.2 hn, by rw [hu]; rfl⟩
      omega
    | succ fuel ih =>
      intro listed b w' hsz hA hSw hlow hcl hc
      by_cases hfull : ∀ j, j < n → listed.getD j false = true
      · have hL : ∀ j, listed.getD j false = true ↔ j < n := fun j => ⟨hlow j, hfull j⟩
        have hA2 : At ops a vf (fun i => i < n) b := ⟨hA.defers, hA.size, fun i o d ho hi => hA.done i o d ho (hfull i hi), fun d hno => hA.rest d fun i o ho hLi => hno i o ho (hlow i hLi)⟩
        have hbe : b = acts n := hA2.unique (hat n (by omega))
        subst hbe
        exact htail _ n listed _ w' (Nat.le_refl _) (by omega) hsz hL hc (hend _ w' hSw hA.defers hA.size hallD hrest)
      · refine ⟨fun hr => absurd (fun j hj => hall listed hsz hr j (by omega)) hfull, fun i hi => ?_⟩
        obtain ⟨hun, o, ho, hafter⟩ := mem_ready.1 hi
        have hilt : i < ops.size := (Array.getElem?_eq_some_iff.1 ho).1
        have hin : i < n := by
          rcases Nat.lt_or_ge i n with h | h
          · exact h
          · exfalso
            apply hfull
            intro j hj
            exact tail_first ht hd hn (L := fun j => listed.getD j false = true) hcl ho h (fun e he hbn => hafter e he hbn) j (by omega)
        have hnl := hunl listed i hsz hilt hun
        refine (hyi _ b i o hA ho hin hnl (fun e he hbn => hafter e he hbn)).wpOp ho hSw fun w2 hS2 => ih (listed.setIfInBounds i true) _ w2 (by simpa using hsz) (hA.put hd ho hnl fun j => by rw [hset listed i j hsz hilt]) hS2 ?_ ?_ (hcount listed i fuel hsz hilt hun hc)
        · intro j hj
          rcases (hset listed i j hsz hilt).1 hj with h | rfl
          · exact hlow j h
          · exact hin
        · intro j oj hj hLj e he hbn
          rw [hset listed i _ hsz hilt]
          rcases (hset listed i j hsz hilt).1 hLj with h | rfl
          · exact .inl (hcl j oj hj h e he hbn)
          · rw [ho] at hj; cases hj
            exact .inl (hafter e he hbn)
  have hrep : ∀ i, (Array.replicate ops.size false).getD i false = false := by
    intro i
    by_cases hi : i < ops.size
    · simp [hi]
    · simp [hi]
  refine wp_region_any hm (hmain ops.size _ a _ (by simp) ?_ hS ?_ ?_ ?_)
  · refine ⟨rfl, rfl, fun i o d ho hL => ?_, fun _ _ => rfl⟩
    rw [hrep i] at hL; cases hL
  · intro j hj; rw [hrep j] at hj; cases hj
  · intro i o ho hL; rw [hrep i] at hL; cases hL
  · have := List.countP_le_length (p := fun i => !(Array.replicate ops.size false).getD i true) (l := List.range ops.size)
    simpa using this
end
end Go.Proofs.YthijakidnkhbnaaGreatDoor.Ord

namespace Go.Proofs.YthijakidnkhbnaaGreatDoor.Ord
open Go
section
variable {P : Program} {ops : Array Oper} {Q : Exit → Act → World → Prop} {S : World → Prop}

/-- the values are given: a region that keeps its order -/
theorem wp_region_fix {id : Nat} {a : Act} {w : World} (S : World → Prop) (n : Nat) (vs : List Value) (hvl : vs.length = n) (hn : n ≤ ops.size) (hd : depOk ops = true) (hs : Region.noSelect ops = true) (hb : boundOk ops a.tmps.size = true) (hS : S w)
    (hY : ∀ ρ : Operand → Value, AllD ρ (ops.toList.take n) vs → (∀ t : Nat, (∀ o : Oper, o ∈ ops.toList → o.dst ≠ some t) → ρ (.tmp t) = a.eval (.tmp t)) → (∀ v, ρ (.const v) = v) → (∀ f, ρ (.func f) = .func (.func f) #[] #[]) → AllY P S ρ vs (ops.toList.take n) vs)
    (hend : ∀ (b : Act) (w' : World), S w' → b.defers = a.defers → b.tmps.size = a.tmps.size → AllD b.eval (ops.toList.take n) vs → (∀ t : Nat, (∀ o : Oper, o ∈ ops.toList → o.dst ≠ some t) → b.tmps[t]? = a.tmps[t]?) → wpOps P ops Q (List.range' n (ops.size - n)) b w') :
    (Code.region id ops false).wp P Q a w := by
  have hbd : ∀ (i : Nat) (o : Oper) (d : Tmp), ops[i]? = some o → o.dst = some d → d < a.tmps.size := by
    intro i o d ho hod
    simp only [boundOk, Bool.and_eq_true] at hb
    have := List.all_eq_true.1 hb.1 o (by simpa using Array.mem_of_getElem? ho)
    rw [hod] at this
    simpa using this
  have hgd : ∀ (i : Nat) (o : Oper) (j : Nat) (want : Bool), ops[i]? = some o → o.guard = some (j, want) → j < i ∧ ∃ d, (ops[j]?).bind (·.dst) = some d := by
    intro i o j want ho hg
    simp only [boundOk, Bool.and_eq_true] at hb
    have := List.all_eq_true.1 hb.2 i (List.mem_range.2 (Array.getElem?_eq_some_iff.1 ho).1)
    rw [ho] at this
    simp only [Bool.and_eq_true] at this
    have this := this.1
    rw [hg] at this
    simp only [Bool.and_eq_true, decide_eq_true_eq] at this
    refine ⟨this.1, ?_⟩
    cases h : (ops[j]?).bind (·.dst) with
    | none => rw [h] at this; cases this.2
    | some d => exact ⟨d, rfl⟩
  have hself : ∀ (i : Nat) (o : Oper) (d : Tmp), ops[i]? = some o → o.dst = some d → d ∉ o.looksAt ops := by
    intro i o d ho hod hm
    simp only [boundOk, Bool.and_eq_true] at hb
    have := List.all_eq_true.1 hb.2 i (List.mem_range.2 (Array.getElem?_eq_some_iff.1 ho).1)
    rw [ho] at this
    simp only [Bool.and_eq_true] at this
    have this := this.2
    rw [hod] at this
    simp at this
    exact this hm
  obtain ⟨vf, hvf⟩ : ∃ vf : Nat → Value, vf = fun i => vs.getD i undef := ⟨_, rfl⟩
  -- the state behind the first k operations
  obtain ⟨acts, ha0, haS⟩ : ∃ acts : Nat → Act, acts 0 = a ∧ ∀ (i : Nat) (o : Oper), ops[i]? = some o → acts (i + 1) = (acts i).put o.dst (vf i) := by
    refine ⟨fun k => Nat.rec a (fun i b => match ops[i]? with | some o => b.put o.dst (vf i) | none => b) k, rfl, fun i o ho => ?_⟩
    show (match ops[i]? with | some o => _ | none => _) = _
    rw [ho]
  have hat : ∀ k, k ≤ ops.size → At ops a vf (fun i => i < k) (acts k) := by
    intro k
    induction k with
    | zero => intro _; rw [ha0]; exact ⟨rfl, rfl, fun _ _ _ _ h => absurd h (Nat.not_lt_zero _), fun _ _ => rfl⟩
    | succ k ih =>
      intro hk
      obtain ⟨o, ho⟩ : ∃ o, ops[k]? = some o := ⟨_, Array.getElem?_eq_getElem (by omega)⟩
      rw [haS k o ho]
      exact (ih (by omega)).put hd ho (Nat.lt_irrefl k) (fun j => by omega)
  have hvget : ∀ i, i < n → vs[i]? = some (vf i) := by
    intro i hi
    rw [hvf]
    simp only [List.getD_eq_getElem?_getD]
    rw [List.getElem?_eq_getElem (by omega)]
    rfl
  have htk : ∀ (i : Nat) (o : Oper), (ops.toList.take n)[i]? = some o → i < n ∧ ops[i]? = some o := by
    intro i o h
    rw [List.getElem?_take] at h
    split at h
    · exact ⟨by assumption, by simpa using h⟩
    · cases h
  have hallD : AllD (acts n).eval (ops.toList.take n) vs := by
    refine AllD.intro fun i o v d h1 h2 h3 => ?_
    obtain ⟨hi, ho⟩ := htk i o h1
    have e1 := (hat n (by omega)).done i o d ho hi h3 (hbd i o d ho h3)
    show (acts n).tmps.getD d undef = v
    rw [Array.getD_eq_getD_getElem?, e1]
    rw [hvget i hi] at h2
    exact Option.some.inj h2
  have hrest : ∀ t : Nat, (∀ o : Oper, o ∈ ops.toList → o.dst ≠ some t) → (acts n).tmps[t]? = a.tmps[t]? := fun t h => (hat n (by omega)).rest t fun i o ho _ => h o (by simpa using Array.mem_of_getElem? ho)
  have hallY := hY (acts n).eval hallD (fun t h => by show (acts n).tmps.getD t undef = a.tmps.getD t undef; rw [Array.getD_eq_getD_getElem?, Array.getD_eq_getD_getElem?, hrest t h]) (fun _ => rfl) (fun _ => rfl)
  -- each of the first n, in any state that it may come up in
  have hyi : ∀ (L : Nat → Prop) (b : Act) (i : Nat) (o : Oper), At ops a vf L b → ops[i]? = some o → i < n → ¬ L i → (∀ e ∈ o.after, Region.binds .any e = true → L e.on) → YieldsTo P ops S S o (vf i) b := by
    intro L b i o hA ho hi hL hafter
    have hsel := fun cs b => Region.noSelect_spec hs i o cs b ho
    obtain ⟨y1, y2⟩ := hallY.get i o (vf i) (by rw [List.getElem?_take, if_pos hi]; simpa using ho) (hvget i hi)
    -- in the state behind the first i
    have key : YieldsTo P ops S S o (vf i) (acts i) := by
      have hlook : ∀ d ∈ o.looksAt ops, (acts n).tmps[d]? = (acts i).tmps[d]? := by
        intro d hdl
        by_cases hx : ∃ (j : Nat) (oj : Oper), ops[j]? = some oj ∧ oj.dst = some d ∧ j ≠ i
        · obtain ⟨j, oj, hj, hjd, hji⟩ := hx
          obtain ⟨e, he, hbn, rfl⟩ := (depOk_dst hd ho hj hji hjd).2 hdl
          have hlt := depOk_after hd ho he hbn
          rw [(hat n (by omega)).done e.on oj d hj (by omega) hjd (hbd _ oj d hj hjd), (hat i (by omega)).done e.on oj d hj hlt hjd (hbd _ oj d hj hjd)]
        · by_cases hown : o.dst = some d
          · exact absurd hdl (hself i o d ho hown)
          · have hno : ∀ (j : Nat) (oj : Oper), ops[j]? = some oj → oj.dst ≠ some d := fun j oj hj he => by
              by_cases hji : j = i
              · subst hji; rw [ho] at hj; cases hj; exact hown he
              · exact hx ⟨j, oj, hj, he, hji⟩
            rw [(hat n (by omega)).rest d fun j oj hj _ => hno j oj hj, (hat i (by omega)).rest d fun j oj hj _ => hno j oj hj]
      have hwant : Region.wanted o (yielded ops (acts n).tmps) = wantV vs o := by
        unfold Region.wanted wantV
        cases hg : o.guard with
        | none => rfl
        | some gw =>
          obtain ⟨j, want⟩ := gw
          obtain ⟨hji, d, hjd⟩ := hgd i o j want ho hg
          obtain ⟨oj, hoj⟩ : ∃ oj, ops[j]? = some oj := ⟨_, Array.getElem?_eq_getElem (by omega)⟩
          have hjd2 : oj.dst = some d := by rw [hoj] at hjd; exact hjd
          have e1 := (hat n (by omega)).done j oj d hoj (by omega) hjd2 (hbd j oj d hoj hjd2)
          have e2 : yielded ops (acts n).tmps j = match some (vf j) with | some (.bool b) => some b | _ => none := by
            unfold yielded
            rw [hjd]
            show (match (acts n).tmps[d]? with | some (.bool b) => some b | _ => none) = _
            rw [e1]
          simp only [e2, hvget j (by omega)]
          cases vf j <;> simp
      have hyn : YieldsTo P ops S S o (vf i) (acts n) := by
        unfold YieldsTo
        rw [hwant]
        cases hw : wantV vs o with
        | true => exact .inl ⟨rfl, y1 hw⟩
        | false => exact .inr ⟨rfl, y2 hw, fun w h => h⟩
      exact hyn.of_looks hsel hlook
    exact key.of_looks hsel fun d hdl => (hat i (by omega)).same hd hA ho (Nat.lt_irrefl i) hL (fun e he hbn => ⟨depOk_after hd ho he hbn, hafter e he hbn⟩) hdl
  have hgo : ∀ (m k : Nat) (w' : World), k + m = n → S w' → wpOps P ops Q (List.range' k (ops.size - k)) (acts k) w' := by
    intro m
    induction m with
    | zero =>
      intro k w' hk hSw
      obtain rfl : k = n := by omega
      exact hend _ w' hSw (hat k (by omega)).defers (hat k (by omega)).size hallD hrest
    | succ m ih =>
      intro k w' hk hSw
      obtain ⟨o, ho⟩ : ∃ o, ops[k]? = some o := ⟨_, Array.getElem?_eq_getElem (by omega)⟩
      rw [show ops.size - k = (ops.size - (k + 1)) + 1 from by omega, List.range'_succ, wpOps_cons]
      refine (hyi (fun j => j < k) (acts k) k o (hat k (by omega)) ho (by omega) (Nat.lt_irrefl k) (fun e he hbn => depOk_after hd ho he hbn)).wpOp ho hSw fun w2 hS2 => ?_
      have := ih (k + 1) w2 (by omega) hS2
      rw [haS k o ho] at this
      exact this
  refine wp_region ?_
  have := hgo n 0 w (by omega) hS
  rw [ha0, Nat.sub_zero, ← List.range_eq_range'] at this
  exact this
end
end Go.Proofs.YthijakidnkhbnaaGreatDoor.Ord
