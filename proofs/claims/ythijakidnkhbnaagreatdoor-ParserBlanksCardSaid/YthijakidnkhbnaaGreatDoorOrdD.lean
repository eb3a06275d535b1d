/-
  A region that draws its order and makes ONE new row (or turns one): walked once in the order of the text; an operation that waits for that one (D) meets the world behind it alone.
-/
import Derived.Test.YthijakidnkhbnaaGreatDoorOrd
namespace Go.Proofs.YthijakidnkhbnaaGreatDoor.Ord
open Go

section
variable {P : Program} {ops : Array Oper} {Q : Exit → Act → World → Prop} {S : Bool → World → Prop} {k0 : Nat} {D : Nat → Bool}

/-- operations wait for what they look at, or are waited for by what writes it; nothing is written twice -/
def depOkW (ops : Array Oper) : Bool := (List.range ops.size).all fun i => match ops[i]? with
  | none => true
  | some oi => (oi.after.all fun e => !Region.binds .any e || decide (e.on < i)) && (List.range ops.size).all fun j => j == i || match ops[j]? with
    | none => true
    | some oj => match oj.dst with
      | none => true
      | some d => !(oi.dst == some d) && (!(oi.looksAt ops).contains d || (oi.after.any fun e => Region.binds .any e && e.on == j) || (decide (i < j) && oj.after.any fun e => Region.binds .any e && e.on == i))
theorem depW_after (h : depOkW ops = true) {i : Nat} {oi : Oper} (hi : ops[i]? = some oi) {e : Edge} (he : e ∈ oi.after) (hb : Region.binds .any e = true) : e.on < i := by
  have hlt : i < ops.size := (Array.getElem?_eq_some_iff.1 hi).1
  have h1 := List.all_eq_true.1 h i (List.mem_range.2 hlt)
  rw [hi] at h1
  simp only [Bool.and_eq_true] at h1
  have h2 := Array.all_eq_true_iff_forall_mem.1 h1.1 e he
  simpa [hb] using h2
theorem depW_dst (h : depOkW ops = true) {i j : Nat} {oi oj : Oper} (hi : ops[i]? = some oi) (hj : ops[j]? = some oj) (hne : j ≠ i) {d : Tmp} (hd : oj.dst = some d) :
    oi.dst ≠ some d ∧ (d ∈ oi.looksAt ops → (∃ e ∈ oi.after, Region.binds .any e = true ∧ e.on = j) ∨ (i < j ∧ ∃ e ∈ oj.after, Region.binds .any e = true ∧ e.on = i)) := by
  have hlt : i < ops.size := (Array.getElem?_eq_some_iff.1 hi).1
  have hlt2 : j < ops.size := (Array.getElem?_eq_some_iff.1 hj).1
  have h1 := List.all_eq_true.1 h i (List.mem_range.2 hlt)
  rw [hi] at h1
  simp only [Bool.and_eq_true] at h1
  have h2 := List.all_eq_true.1 h1.2 j (List.mem_range.2 hlt2)
  rw [hj] at h2
  simp only [hd, Bool.or_eq_true, beq_iff_eq, hne, false_or, Bool.and_eq_true, Bool.not_eq_true', beq_eq_false_iff_ne, decide_eq_true_eq] at h2
  refine ⟨h2.1, fun hm => ?_⟩
  rcases h2.2 with (h3 | h3) | ⟨h3, h4⟩
  · have : (oi.looksAt ops).contains d = true := by simpa using hm
    rw [this] at h3; cases h3
  · obtain ⟨e, he, hb⟩ := Array.any_eq_true'.1 h3
    simp only [Bool.and_eq_true, beq_iff_eq] at hb
    exact .inl ⟨e, he, hb.1, hb.2⟩
  · obtain ⟨e, he, hb⟩ := Array.any_eq_true'.1 h4
    simp only [Bool.and_eq_true, beq_iff_eq] at hb
    exact .inr ⟨h3, e, he, hb.1, hb.2⟩
theorem depW_uniq (h : depOkW ops = true) {i j : Nat} {oi oj : Oper} (hi : ops[i]? = some oi) (hj : ops[j]? = some oj) (hne : j ≠ i) {d : Tmp} (hd : oj.dst = some d) : oi.dst ≠ some d := (depW_dst h hi hj hne hd).1
theorem At.putW {a0 a : Act} {vs : Nat → Value} {L L' : Nat → Prop} (hd : depOkW ops = true) (h : At ops a0 vs L a) {i : Nat} {o : Oper} (hi : ops[i]? = some o) (hn : ¬ L i) (hL : ∀ j, L' j ↔ (L j ∨ j = i)) : At ops a0 vs L' (a.put o.dst (vs i)) := by
  cases hdst : o.dst with
  | none =>
    refine ⟨h.defers, h.size, fun k ok d hk hLk hkd hlt => ?_, fun d hall => h.rest d fun k ok hk hLk => hall k ok hk ((hL k).2 (.inl hLk))⟩
    rcases (hL k).1 hLk with h1 | rfl
    · exact h.done k ok d hk h1 hkd hlt
    · rw [hi] at hk; cases hk; rw [hdst] at hkd; cases hkd
  | some e =>
    refine ⟨h.defers, by simpa [Act.put] using h.size, fun k ok d hk hLk hkd hlt => ?_, fun d hall => ?_⟩
    · rcases (hL k).1 hLk with h1 | rfl
      · have hki : i ≠ k := fun e => hn (e ▸ h1)
        have hne : e ≠ d := fun hed => by
          subst hed
          exact depW_uniq hd hk hi hki hdst hkd
        show (a.tmps.setIfInBounds e (vs i))[d]? = _
        rw [Array.getElem?_setIfInBounds_ne hne]
        exact h.done k ok d hk h1 hkd hlt
      · rw [hi] at hk; cases hk
        rw [hdst] at hkd; cases hkd
        show (a.tmps.setIfInBounds e (vs k))[e]? = _
        rw [Array.getElem?_setIfInBounds_self, if_pos (by rw [h.size]; exact hlt)]
    · have hne : e ≠ d := fun hed => hall i o hi ((hL i).2 (.inr rfl)) (by rw [hdst, hed])
      show (a.tmps.setIfInBounds e (vs i))[d]? = _
      rw [Array.getElem?_setIfInBounds_ne hne]
      exact h.rest d fun k ok hk hLk => hall k ok hk ((hL k).2 (.inl hLk))
/-- two states agree on what an operation looks at -/
theorem At.sameW {a0 a b : Act} {vs : Nat → Value} {L M : Nat → Prop} (hd : depOkW ops = true) (h : At ops a0 vs L a) (k : At ops a0 vs M b) {i : Nat} {o : Oper} (hi : ops[i]? = some o) (hL : ¬ L i) (hM : ¬ M i)
    (h1 : ∀ e ∈ o.after, Region.binds .any e = true → L e.on ∧ M e.on) (hLj : ∀ j, i < j → ¬ L j) (hMj : ∀ (j : Nat) (oj : Oper), ops[j]? = some oj → M j → ∀ e ∈ oj.after, Region.binds .any e = true → M e.on) {d : Tmp} (hlook : d ∈ o.looksAt ops) : a.tmps[d]? = b.tmps[d]? := by
  by_cases hx : ∃ j oj, ops[j]? = some oj ∧ oj.dst = some d ∧ j ≠ i
  · obtain ⟨j, oj, hj, hjd, hji⟩ := hx
    rcases (depW_dst hd hi hj hji hjd).2 hlook with ⟨e, he, hb, rfl⟩ | ⟨hij, e, he, hb, hei⟩
    · obtain ⟨hl, hm⟩ := h1 e he hb
      by_cases hlt : d < a0.tmps.size
      · rw [h.done _ oj d hj hl hjd hlt, k.done _ oj d hj hm hjd hlt]
      · rw [Array.getElem?_eq_none (by rw [h.size]; exact Nat.le_of_not_lt hlt), Array.getElem?_eq_none (by rw [k.size]; exact Nat.le_of_not_lt hlt)]
    · have hnM : ¬ M j := fun hm => hM (by rw [← hei]; exact hMj j oj hj hm e he hb)
      have h2 : ∀ j' oj', ops[j']? = some oj' → L j' → oj'.dst ≠ some d := fun j' oj' hj' hLj' he' => by
        by_cases hjj : j' = j
        · subst hjj; exact hLj _ hij hLj'
        · exact depW_uniq hd hj' hj (fun e => hjj e.symm) hjd he'
      have h3 : ∀ j' oj', ops[j']? = some oj' → M j' → oj'.dst ≠ some d := fun j' oj' hj' hMj' he' => by
        by_cases hjj : j' = j
        · subst hjj; exact hnM hMj'
        · exact depW_uniq hd hj' hj (fun e => hjj e.symm) hjd he'
      rw [h.rest d h2, k.rest d h3]
  · have h2 : ∀ j oj, ops[j]? = some oj → L j → oj.dst ≠ some d := fun j oj hj hLj he => hx ⟨j, oj, hj, he, fun e => hL (e ▸ hLj)⟩
    have h3 : ∀ j oj, ops[j]? = some oj → M j → oj.dst ≠ some d := fun j oj hj hMj he => hx ⟨j, oj, hj, he, fun e => hM (e ▸ hMj)⟩
    rw [h.rest d h2, k.rest d h3]

/-- the walk in the order of the text -/
def wpTextD (P : Program) (ops : Array Oper) (Q : Exit → Act → World → Prop) (S : Bool → World → Prop) (k0 : Nat) (D : Nat → Bool) : Nat → List Oper → Act → Prop
  | k, [], a => ∀ w, S (decide (k0 < k)) w → Q .normal a w
  | k, o :: rest, a => ∃ v, (∀ b, (k = k0 → b = false) → (D k = true → b = true) → YieldsTo P ops (S b) (S (b || decide (k = k0))) o v a) ∧ wpTextD P ops Q S k0 D (k + 1) rest (a.put o.dst v)

/-- the values and the states of the walk -/
theorem wpTextD_values : ∀ (l : List Oper) (k : Nat) (a : Act), ops.toList.drop k = l → k ≤ ops.size → wpTextD P ops Q S k0 D k l a →
    ∃ (vs : Nat → Value) (acts : Nat → Act), acts k = a ∧ (∀ i o, k ≤ i → ops[i]? = some o → (∀ b, (i = k0 → b = false) → (D i = true → b = true) → YieldsTo P ops (S b) (S (b || decide (i = k0))) o (vs i) (acts i)) ∧ acts (i + 1) = (acts i).put o.dst (vs i)) ∧ ∀ w, S (decide (k0 < ops.size)) w → Q .normal (acts ops.size) w
  | [], k, a, hk, hks, h => by
    have hle := List.drop_eq_nil_iff.1 hk
    simp at hle
    have he : k = ops.size := by omega
    refine ⟨fun _ => undef, fun _ => a, rfl, fun i o hi ho => ?_, ?_⟩
    · exfalso
      have hlt : i < ops.size := (Array.getElem?_eq_some_iff.1 ho).1
      omega
    · rw [← he]; exact h
  | o :: rest, k, a, hk, hks, ⟨v, hy, h⟩ => by
    have hko : ops[k]? = some o := by
      have h2 : (ops.toList.drop k)[0]? = some o := by rw [hk]; rfl
      rw [List.getElem?_drop] at h2
      simpa using h2
    have hklt : k < ops.size := (Array.getElem?_eq_some_iff.1 hko).1
    have hkr : ops.toList.drop (k + 1) = rest := by
      rw [← List.drop_drop, hk]; rfl
    obtain ⟨vs, acts, h1, h2, h3⟩ := wpTextD_values rest (k + 1) _ hkr hklt h
    refine ⟨fun i => if i = k then v else vs i, fun i => if i = k then a else acts i, by simp, fun i oi hi hoi => ?_, fun w hw => ?_⟩
    · by_cases hik : i = k
      · subst hik
        rw [hko] at hoi; cases hoi
        simp only [if_true, if_neg (Nat.succ_ne_self i)]
        exact ⟨hy, h1⟩
      · have := h2 i oi (by omega) hoi
        simp only [if_neg hik, if_neg (show ¬ i + 1 = k from by omega)]
        exact this
    · have := h3 w hw
      simp only [if_neg (show ¬ ops.size = k from by omega)]
      exact this

theorem wpAny_textD {a0 : Act} {vs : Nat → Value} {acts : Nat → Act} (hd : depOkW ops = true) (hD : ∀ i o, ops[i]? = some o → D i = true → ∃ e ∈ o.after, Region.binds .any e = true ∧ (e.on = k0 ∨ D e.on = true)) (hs : Region.noSelect ops = true) (h0 : acts 0 = a0)
    (hv : ∀ i o, ops[i]? = some o → (∀ b, (i = k0 → b = false) → (D i = true → b = true) → YieldsTo P ops (S b) (S (b || decide (i = k0))) o (vs i) (acts i)) ∧ acts (i + 1) = (acts i).put o.dst (vs i)) (hQ : ∀ w, S (decide (k0 < ops.size)) w → Q .normal (acts ops.size) w) :
    ∀ (fuel : Nat) (listed : Array Bool) (a : Act) (w : World), listed.size = ops.size → At ops a0 vs (fun i => listed.getD i false = true) a → S (listed.getD k0 false) w → (∀ j, listed.getD j false = true → D j = true → listed.getD k0 false = true) → (∀ (j : Nat) (oj : Oper), ops[j]? = some oj → listed.getD j false = true → ∀ e ∈ oj.after, Region.binds .any e = true → listed.getD e.on false = true) → (List.range ops.size).countP (fun i => !listed.getD i true) ≤ fuel →
      wpAny P .any ops Q fuel listed a w := by
  have hat : ∀ k, k ≤ ops.size → At ops a0 vs (fun i => i < k) (acts k) := by
    intro k
    induction k with
    | zero =>
      intro _
      rw [h0]
      exact ⟨rfl, rfl, fun _ _ _ _ h => absurd h (Nat.not_lt_zero _), fun _ _ => rfl⟩
    | succ k ih =>
      intro hk
      obtain ⟨o, ho⟩ : ∃ o, ops[k]? = some o := ⟨_, Array.getElem?_eq_getElem (by omega)⟩
      rw [(hv k o ho).2]
      exact (ih (by omega)).putW hd ho (Nat.lt_irrefl k) (fun j => by omega)
  have hall : ∀ (listed : Array Bool), listed.size = ops.size → Region.ready .any ops listed = [] → ∀ i, i < ops.size → listed.getD i false = true := by
    intro listed hsz hr i
    induction i using Nat.strongRecOn with
    | ind i ih =>
      intro hi
      obtain ⟨o, ho⟩ : ∃ o, ops[i]? = some o := ⟨_, Array.getElem?_eq_getElem hi⟩
      cases hb : listed.getD i false with
      | true => rfl
      | false =>
        exfalso
        have hmem : i ∈ Region.ready .any ops listed := by
          rw [mem_ready]
          refine ⟨?_, o, ho, fun e he hbd => ?_⟩
          · have : i < listed.size := by omega
            simp [this] at hb ⊢
            exact hb
          · have hlt := depW_after hd ho he hbd
            exact ih e.on hlt (by omega)
        rw [hr] at hmem
        cases hmem
  have hend : ∀ (listed : Array Bool) (a : Act) (w : World), listed.size = ops.size → At ops a0 vs (fun i => listed.getD i false = true) a → S (listed.getD k0 false) w → Region.ready .any ops listed = [] → Q .normal a w := by
    intro listed a w hsz hA hS hr
    have h1 := hall listed hsz hr
    have hA2 : At ops a0 vs (fun i => i < ops.size) a := by
      refine ⟨hA.defers, hA.size, fun i o d ho hi => hA.done i o d ho (h1 i hi), fun d hn => hA.rest d fun i o ho _ => hn i o ho (Array.getElem?_eq_some_iff.1 ho).1⟩
    rw [hA2.unique (hat ops.size (Nat.le_refl _))]
    refine hQ w ?_
    have e1 : decide (k0 < ops.size) = listed.getD k0 false := by
      by_cases hk : k0 < ops.size
      · rw [h1 k0 hk, decide_eq_true hk]
      · have : ¬ k0 < listed.size := by omega
        rw [decide_eq_false hk]
        simp [this]
    rw [e1]
    exact hS
  intro fuel
  induction fuel with
  | zero =>
    intro listed a w hsz hA hS hI hCl hc
    have hr : Region.ready .any ops listed = [] := by
      cases hr : Region.ready .any ops listed with
      | nil => rfl
      | cons x xs =>
        exfalso
        have hx : x ∈ Region.ready .any ops listed := by rw [hr]; exact List.mem_cons_self
        obtain ⟨h1, o, ho, _⟩ := mem_ready.1 hx
        have hlt : x < ops.size := (Array.getElem?_eq_some_iff.1 ho).1
        have : 0 < (List.range ops.size).countP (fun i => !listed.getD i true) := List.countP_pos_iff.2 ⟨x, List.mem_range.2 hlt, by rw [h1]; rfl⟩
        omega
    exact ⟨hr, hend listed a w hsz hA hS hr⟩
  | succ fuel ih =>
    intro listed a w hsz hA hS hI hCl hc
    refine ⟨hend listed a w hsz hA hS, fun i hi => ?_⟩
    obtain ⟨hun, o, ho, hafter⟩ := mem_ready.1 hi
    have hlt : i < ops.size := (Array.getElem?_eq_some_iff.1 ho).1
    have hsel := fun cs b => Region.noSelect_spec hs i o cs b ho
    have hnl : ¬ listed.getD i false = true := by
      have : i < listed.size := by omega
      simp [this] at hun ⊢
      exact hun
    have hph : i = k0 → listed.getD k0 false = false := fun e => by
      subst e
      cases hb : listed.getD i false with
      | false => rfl
      | true => exact absurd hb hnl
    have hDi : D i = true → listed.getD k0 false = true := fun hdi => by
      obtain ⟨e, he, hb, h1 | h1⟩ := hD i o ho hdi
      · rw [← h1]; exact hafter e he hb
      · exact hI e.on (hafter e he hb) h1
    have hy : YieldsTo P ops (S (listed.getD k0 false)) (S (listed.getD k0 false || decide (i = k0))) o (vs i) a := ((hv i o ho).1 _ hph hDi).of_looks hsel fun d hdl =>
      (hat i (by omega)).sameW hd hA ho (Nat.lt_irrefl i) hnl (fun e he hb => ⟨depW_after hd ho he hb, hafter e he hb⟩) (fun j hij h => absurd h (by omega)) (fun j oj hj hl => hCl j oj hj hl) hdl
    have hph2 : (listed.setIfInBounds i true).getD k0 false = (listed.getD k0 false || decide (i = k0)) := by
      by_cases hik : i = k0
      · subst hik
        have : i < listed.size := by omega
        simp [this]
      · rw [getD_set_ne false hik, decide_eq_false hik, Bool.or_false]
    refine hy.wpOp ho hS fun w' hS' => ih (listed.setIfInBounds i true) _ w' (by simpa using hsz) ?_ (by rw [hph2]; exact hS') (fun j hj hdj => ?_) (fun j oj hj hl e he hb => ?_) ?_
    · refine hA.putW hd ho hnl fun j => ?_
      by_cases hij : i = j
      · subst hij
        have : i < listed.size := by omega
        simp [this]
      · rw [getD_set_ne false hij]
        constructor
        · exact .inl
        · rintro (h | rfl)
          · exact h
          · exact absurd rfl hij
    · rw [hph2]
      by_cases hij : i = j
      · subst hij
        rw [hDi hdj, Bool.true_or]
      · rw [getD_set_ne false hij] at hj
        rw [hI j hj hdj, Bool.true_or]
    · have hle : listed.getD e.on false = true := by
        by_cases hij : i = j
        · subst hij
          rw [ho] at hj; cases hj
          exact hafter e he hb
        · rw [getD_set_ne false hij] at hl
          exact hCl j oj hj hl e he hb
      by_cases hie : i = e.on
      · have hne : ¬ listed.getD e.on false = true := by rw [← hie]; exact hnl
        exact absurd hle hne
      · rw [getD_set_ne false hie]; exact hle
    · have := countP_lt (p := fun i => !listed.getD i true) (q := fun j => !(listed.setIfInBounds i true).getD j true) (fun j hj => by
        by_cases hij : i = j
        · subst hij; simp only [hun]; rfl
        · rw [getD_set_ne true hij] at hj; exact hj) (List.range ops.size) i (List.mem_range.2 hlt) (by simp only [hun]; rfl) (by
          have : i < listed.size := by omega
          simp [this])
      omega

/-- **one walk in the order of the text serves every order** -/
theorem wp_region_textD {id : Nat} {a : Act} {w : World} (S : Bool → World → Prop) (k0 : Nat) (D : Nat → Bool) (hD : ∀ i o, ops[i]? = some o → D i = true → ∃ e ∈ o.after, Region.binds .any e = true ∧ (e.on = k0 ∨ D e.on = true)) (hm : P.follows .mixedOrders = true) (hd : depOkW ops = true) (hs : Region.noSelect ops = true) (hS : S false w.drew) (h : wpTextD P ops Q S k0 D 0 ops.toList a) : (Code.region id ops true).wp P Q a w := by
  obtain ⟨vs, acts, h1, h2, h3⟩ := wpTextD_values (ops := ops) ops.toList 0 a rfl (Nat.zero_le _) h
  refine wp_region_any hm (wpAny_textD hd hD hs h1 (fun i o ho => h2 i o (Nat.zero_le _) ho) h3 ops.size _ a _ (by simp) ?_ ?_ (fun j hj => ?_) (fun j oj hoj hj => ?_) ?_)
  · refine ⟨rfl, rfl, fun i o d ho hL => ?_, fun _ _ => rfl⟩
    exfalso
    have hlt : i < ops.size := (Array.getElem?_eq_some_iff.1 ho).1
    simp [hlt] at hL
  · have e : (Array.replicate ops.size false).getD k0 false = false := by
      by_cases hk : k0 < ops.size
      · simp [hk]
      · simp [hk]
    rw [e]
    exact hS
  · exfalso
    by_cases hk : j < ops.size
    · simp [hk] at hj
    · simp [hk] at hj
  · exfalso
    by_cases hk : j < ops.size
    · simp [hk] at hj
    · simp [hk] at hj
  · have := List.countP_le_length (p := fun i => !(Array.replicate ops.size false).getD i true) (l := List.range ops.size)
    simpa using this

/-! ### steps of the walk -/
/-- which operations wait for k0, by evaluation -/
def depsOf (ops : Array Oper) (k0 : Nat) (D : Nat → Bool) : Bool := (List.range ops.size).all fun i => match ops[i]? with
  | none => true
  | some o => !D i || o.after.any fun e => Region.binds .any e && (e.on == k0 || D e.on)
theorem depsOf_ok (h : depsOf ops k0 D = true) : ∀ i o, ops[i]? = some o → D i = true → ∃ e ∈ o.after, Region.binds .any e = true ∧ (e.on = k0 ∨ D e.on = true) := fun i o ho hd => by
  have hlt : i < ops.size := (Array.getElem?_eq_some_iff.1 ho).1
  have h1 := List.all_eq_true.1 h i (List.mem_range.2 hlt)
  rw [ho] at h1
  simp only [hd, Bool.not_true, Bool.false_or] at h1
  obtain ⟨e, he, hb⟩ := Array.any_eq_true'.1 h1
  simp only [Bool.and_eq_true, Bool.or_eq_true, beq_iff_eq] at hb
  exact ⟨e, he, hb.1, hb.2⟩
theorem textD_pure {v : Value} {k : Nat} {o : Oper} {rest : List Oper} {a : Act} (hg : o.guard = none) (hk : decide (k = k0) = false)
    (h1 : ∀ w, (execOp a.eval o).run P w = .ok (.value v) w) (h2 : ∀ K : Act → Prop, (∀ a', wpTextD P ops Q S k0 D (k + 1) rest a' → K a') → K (a.put o.dst v)) : wpTextD P ops Q S k0 D k (o :: rest) a := by
  refine ⟨v, fun b _ _ => .inl ⟨by simp [Region.wanted, hg], fun w hS => ?_⟩, h2 _ (fun _ h => h)⟩
  rw [h1 w, hk, Bool.or_false]
  exact ⟨rfl, hS⟩
theorem textD_read {v : Value} {k : Nat} {o : Oper} {rest : List Oper} {a : Act} (hg : o.guard = none) (hk : decide (k = k0) = false)
    (h1 : ∀ b w, (D k = true → b = true) → S b w → (execOp a.eval o).run P w = .ok (.value v) w) (h2 : ∀ K : Act → Prop, (∀ a', wpTextD P ops Q S k0 D (k + 1) rest a' → K a') → K (a.put o.dst v)) : wpTextD P ops Q S k0 D k (o :: rest) a := by
  refine ⟨v, fun b _ hb => .inl ⟨by simp [Region.wanted, hg], fun w hS => ?_⟩, h2 _ (fun _ h => h)⟩
  rw [h1 b w hb hS, hk, Bool.or_false]
  exact ⟨rfl, hS⟩
theorem textD_make {v : Value} {k : Nat} {o : Oper} {rest : List Oper} {a : Act} (hg : o.guard = none) (hk : k = k0)
    (h : ∀ w, S false w → ∃ w', (execOp a.eval o).run P w = .ok (.value v) w' ∧ S true w') (h2 : ∀ K : Act → Prop, (∀ a', wpTextD P ops Q S k0 D (k + 1) rest a' → K a') → K (a.put o.dst v)) : wpTextD P ops Q S k0 D k (o :: rest) a := by
  refine ⟨v, fun b hb _ => .inl ⟨by simp [Region.wanted, hg], fun w hS => ?_⟩, h2 _ (fun _ h => h)⟩
  obtain rfl := hb hk
  obtain ⟨w', h3, h4⟩ := h w hS
  rw [h3, decide_eq_true hk]
  exact ⟨rfl, h4⟩
theorem textD_end {k : Nat} {a : Act} (h : ∀ w, S (decide (k0 < k)) w → Q .normal a w) : wpTextD P ops Q S k0 D k [] a := h
end
end Go.Proofs.YthijakidnkhbnaaGreatDoor.Ord
