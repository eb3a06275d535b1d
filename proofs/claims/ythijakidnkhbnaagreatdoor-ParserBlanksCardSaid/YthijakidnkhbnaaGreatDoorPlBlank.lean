/-
  Blanks and comments, plain: the tokens of a line written anew with other blanks; no program in sight.
-/
import Derived.Test.YthijakidnkhbnaaGreatDoorPlTwin
import Derived.Test.YthijakidnkhbnaaGreatDoorPlRTok
namespace Go.Proofs.YthijakidnkhbnaaGreatDoor.Ps
open Go

/-- tokens that lie in a line from a place on, blanks between them -/
def GoodT : List Tok → Nat → Nat → Prop
  | [], _, _ => True
  | (k, t, o) :: r, e, m => e ≤ o ∧ o + t.size ≤ m ∧ Lx.classify t = (k, 0) ∧ Lx.solid t.data.toList = true ∧ t.data.toList ≠ [] ∧ GoodT r (o + t.size + 1) m

theorem tokR_good : ∀ (f : Nat) (l : Bs) (a : Nat) (acc : List Tok) (e : Nat) (r : List Tok) (o : Int), (e = a ∨ (e = a + 1 ∧ ∀ c r', l = c :: r' → Lx.blank (c.toNat : Int) = true)) → Lx.tokR f l a acc = (r, o, 0) → o = 0 ∧ ∃ ts, r = acc ++ ts ∧ GoodT ts e (a + l.length)
  | 0, l, a, acc, e, r, o, he, h => by
    cases h
    exact ⟨rfl, [], by simp, trivial⟩
  | f + 1, l, a, acc, e, r, o, he, h => by
    rw [Lx.tokR_succ] at h
    obtain ⟨g, l2, h1, h2, h3, h4⟩ := Lx.run_split Lx.blank l
    obtain ⟨t, l3, k1, k2, k3, k4⟩ := Lx.run_split (fun c => !Lx.blank c) l2
    have e1 : l.drop (Lx.run Lx.blank l) = l2 := by rw [h2, h1, List.drop_left]
    rw [e1, k2, k1, List.take_left] at h
    by_cases h0 : t = []
    · unfold Lx.tokS at h
      rw [if_pos h0] at h
      cases h
      exact ⟨rfl, [], by simp, trivial⟩
    · by_cases hc : (Lx.classify ⟨t.toArray⟩).2 = 0
      · rw [Lx.tokS_ok _ _ _ _ _ h0 hc, h2] at h
        have hd : l.drop (g.length + t.length) = l3 := by rw [h1, k1, ← List.append_assoc, ← List.length_append, List.drop_left]
        rw [hd] at h
        obtain ⟨h5, ts, h6, h7⟩ := tokR_good f l3 _ _ (a + g.length + t.length + 1) r o (.inr ⟨rfl, fun c r' hr => by simpa using k4 c r' hr⟩) h
        have hl : l.length = g.length + t.length + l3.length := by rw [h1, k1]; simp [Nat.add_assoc]
        refine ⟨h5, ((Lx.classify ⟨t.toArray⟩).1, ⟨t.toArray⟩, a + g.length) :: ts, by rw [h6, List.append_assoc]; rfl, ?_, ?_, ?_, k3, h0, ?_⟩
        · rcases he with rfl | ⟨rfl, hb⟩
          · omega
          · cases hg : g with
            | nil =>
              rw [hg, List.nil_append, k1] at h1
              cases ht : t with
              | nil => exact absurd ht h0
              | cons x t' =>
                rw [ht, List.cons_append] at h1
                have b1 := hb x _ h1
                rw [ht, List.all_cons, Bool.and_eq_true] at k3
                have b2 := k3.1
                rw [b1] at b2
                cases b2
            | cons x g' => simp
        · show a + g.length + t.length ≤ a + l.length
          omega
        · exact Prod.ext rfl hc
        · rw [show a + l.length = a + g.length + t.length + l3.length from by omega]
          exact h7
      · rw [Lx.tokS_bad _ _ _ _ _ h0 hc] at h
        injection h with _ h
        injection h with _ h
        exact absurd h hc

theorem tokenize_good (s : ByteArray) (l : List Tok) (o : Int) (h : Lx.tokenize s = (l, o, 0)) : o = 0 ∧ GoodT l 0 s.size := by
  unfold Lx.tokenize at h
  split at h
  · cases h
  · rw [Lx.tokAcc_eq _ _ _ _ (Nat.zero_le _), List.drop_zero] at h
    obtain ⟨h1, ts, h2, h3⟩ := tokR_good _ _ 0 [] 0 l o (.inl rfl) h
    refine ⟨h1, ?_⟩
    rw [List.nil_append] at h2
    rw [h2]
    have hu : (Lx.uncomment s).data.toList.length = (Lx.uncomment s).size := by obtain ⟨⟨l⟩⟩ := Lx.uncomment s; rfl
    have hus : (Lx.uncomment s).size ≤ s.size := by
      unfold Lx.uncomment
      rw [ByteArray.size_extract]
      omega
    have mono : ∀ (ts : List Tok) (e m m' : Nat), m ≤ m' → GoodT ts e m → GoodT ts e m' := by
      intro ts
      induction ts with
      | nil => intros; trivial
      | cons x ts ih =>
        rintro e m m' hm ⟨g1, g2, g3, g4, g5, g6⟩
        exact ⟨g1, Nat.le_trans g2 hm, g3, g4, g5, ih _ _ _ hm g6⟩
    exact mono _ _ _ _ (by omega) h3

/-- the sum of the sizes -/
def sizes : List Tok → Nat
  | [] => 0
  | t :: r => t.2.1.size + sizes r
theorem sizes_good : ∀ (l : List Tok) (e m : Nat), GoodT l e m → e ≤ m + 1 → sizes l + l.length + e ≤ m + 1 ∧ l.length ≤ sizes l
  | [], e, m, _, h => by simp [sizes]; omega
  | (k, t, o) :: r, e, m, ⟨g1, g2, g3, g4, g5, g6⟩, h => by
    have ih := sizes_good r _ m g6 (by omega)
    have ht : 0 < t.size := by
      have : t.data.toList.length = t.size := by obtain ⟨⟨l⟩⟩ := t; rfl
      have := List.length_pos_iff.2 g5
      omega
    simp only [sizes, List.length_cons]
    omega
theorem good_at : ∀ (l : List Tok) (e m i : Nat) (t : Tok), GoodT l e m → l[i]? = some t → e + i ≤ t.2.2 ∧ t.2.2 + t.2.1.size ≤ m ∧ Lx.classify t.2.1 = (t.1, 0) ∧ Lx.solid t.2.1.data.toList = true ∧ t.2.1.data.toList ≠ []
  | [], e, m, i, t, _, h => by simp at h
  | (k, t, o) :: r, e, m, 0, x, ⟨g1, g2, g3, g4, g5, g6⟩, h => by
    simp at h
    subst h
    exact ⟨g1, g2, g3, g4, g5⟩
  | (k, t, o) :: r, e, m, i + 1, x, ⟨g1, g2, g3, g4, g5, g6⟩, h => by
    obtain ⟨h1, h2⟩ := good_at r _ m i x g6 (by simpa using h)
    exact ⟨by omega, h2⟩
theorem good_lt : ∀ (l : List Tok) (e m i j : Nat) (t u : Tok), GoodT l e m → l[i]? = some t → l[j]? = some u → i < j → t.2.2 < u.2.2
  | [], e, m, i, j, t, u, _, h, _, _ => by simp at h
  | (k, t, o) :: r, e, m, 0, 0, x, u, _, _, _, hij => by omega
  | (k, t, o) :: r, e, m, i + 1, 0, x, u, _, _, _, hij => by omega
  | (k, t, o) :: r, e, m, 0, j + 1, x, u, ⟨g1, g2, g3, g4, g5, g6⟩, h, h', hij => by
    simp at h
    subst h
    obtain ⟨h1, _⟩ := good_at r _ m j u g6 (by simpa using h')
    show o < u.2.2
    omega
  | (k, t, o) :: r, e, m, i + 1, j + 1, x, u, ⟨g1, g2, g3, g4, g5, g6⟩, h, h', hij => good_lt r _ m i j x u g6 (by simpa using h) (by simpa using h') (by omega)

/-! ### other blanks -/
def gapB : Nat → Bs
  | 0 => [32]
  | 1 => [9]
  | 2 => [32, 32]
  | _ => [32, 9, 32]
/-- the tokens behind gaps, from the i-th on -/
def gapsOf (gs : List Nat) : List Tok → Nat → List (Bs × Bs)
  | [], _ => []
  | t :: r, i => (gapB ((gs[i % gs.length]?).getD 0 % 4), t.2.1.data.toList) :: gapsOf gs r (i + 1)
theorem gapsOf_append (gs : List Nat) : ∀ (l : List Tok) (t : Tok) (i : Nat), gapsOf gs (l ++ [t]) i = gapsOf gs l i ++ [(gapB ((gs[(i + l.length) % gs.length]?).getD 0 % 4), t.2.1.data.toList)]
  | [], t, i => rfl
  | x :: l, t, i => by
    rw [List.cons_append, gapsOf, gapsOf_append gs l t (i + 1), gapsOf, List.cons_append, List.length_cons, show i + 1 + l.length = i + (l.length + 1) from by omega]
def blankL (gs : List Nat) (l : List Tok) : Bs := Lx.lineOf (gapsOf gs l 0) []
theorem blankL_next (gs : List Nat) (l : List Tok) (t : Tok) : blankL gs (l ++ [t]) = blankL gs l ++ gapB ((gs[l.length % gs.length]?).getD 0 % 4) ++ t.2.1.data.toList := by
  unfold blankL
  rw [gapsOf_append, lineOf_append, Nat.zero_add]
  simp [Lx.lineOf]
theorem gapB_length (j : Nat) : (gapB j).length ≤ 3 ∧ gapB j ≠ [] ∧ Lx.blanks (gapB j) = true := by
  match j with
  | 0 => decide
  | 1 => decide
  | 2 => decide
  | j + 3 => exact ⟨Nat.le_refl _, List.cons_ne_nil _ _, rfl⟩
theorem gaps_length (gs : List Nat) : ∀ (l : List Tok) (i : Nat), (Lx.lineOf (gapsOf gs l i) []).length ≤ sizes l + 3 * l.length
  | [], i => Nat.zero_le _
  | t :: l, i => by
    have ih := gaps_length gs l (i + 1)
    have hg := (gapB_length ((gs[i % gs.length]?).getD 0 % 4)).1
    have ht : t.2.1.data.toList.length = t.2.1.size := by obtain ⟨⟨l⟩⟩ := t.2.1; rfl
    rw [gapsOf, Lx.lineOf, List.length_append, List.length_append, sizes, List.length_cons]
    omega
theorem gaps_ok (gs : List Nat) : ∀ (l : List Tok) (e m i : Nat) (b : Bool), GoodT l e m → Lx.lineOk (gapsOf gs l i) b
  | [], e, m, i, b, _ => trivial
  | (k, t, o) :: r, e, m, i, b, ⟨g1, g2, g3, g4, g5, g6⟩ => by
    obtain ⟨_, h2, h3⟩ := gapB_length ((gs[i % gs.length]?).getD 0 % 4)
    have hz : (Lx.classify ⟨t.data.toList.toArray⟩).2 = 0 := by
      obtain ⟨⟨t⟩⟩ := t
      rw [g3]
    have hp := Lx.classify_plain ⟨t.data.toList.toArray⟩ hz
    exact ⟨fun _ => h2, h3, g4, g5, hz, by simpa using hp, gaps_ok gs r _ m (i + 1) false g6⟩
theorem gaps_twin (gs : List Nat) : ∀ (l : List Tok) (e m i a : Nat), GoodT l e m → Twin l (Lx.toksOf (gapsOf gs l i) a)
  | [], e, m, i, a, _ => rfl
  | (k, t, o) :: r, e, m, i, a, ⟨g1, g2, g3, g4, g5, g6⟩ => by
    unfold Twin
    rw [gapsOf, Lx.toksOf, List.map_cons, List.map_cons, gaps_twin gs r _ m (i + 1) _ g6]
    congr 1
    obtain ⟨⟨t⟩⟩ := t
    show (k, _) = ((Lx.classify ⟨t.toArray⟩).1, _)
    rw [g3]

theorem cutR_line : ∀ (ps : List (Bs × Bs)) (b b' : Bool) (x : Bs), Lx.lineOk ps b' → Lx.cutR b (Lx.lineOf ps [] ++ 32 :: 35 :: x) = Lx.lineOf ps [] ++ [32]
  | [], b, b', x, _ => by
    show Lx.cutR b (32 :: 35 :: x) = [32]
    unfold Lx.cutR
    rw [if_neg (by simp)]
    congr 1
  | (g, t) :: ps, b, b', x, ⟨h1, h2, h3, h4, h5, h6, h7⟩ => by
    have ih := cutR_line ps false false x h7
    have hd : t.head? ≠ some 35 := by
      cases t with
      | nil => simp
      | cons c t =>
        rw [List.all_cons, Bool.and_eq_true] at h6
        simpa using h6.1
    rw [Lx.lineOf, List.append_assoc, List.append_assoc, Lx.cutR_blanks g _ b h2, Lx.cutR_solid t _ _ h3 h4 fun _ => hd, ih]
    simp
theorem lineOf_end : ∀ (ps : List (Bs × Bs)) (e : Bs), Lx.lineOf ps e = Lx.lineOf ps [] ++ e
  | [], e => rfl
  | (g, t) :: ps, e => by rw [Lx.lineOf, Lx.lineOf, lineOf_end ps e]; simp
/-- a comment behind a line changes nothing -/
theorem tokenize_comment (ps : List (Bs × Bs)) (x : Bs) (h : Lx.lineOk ps true) (hl : (Lx.lineOf ps []).length + 2 + x.length ≤ 1024) : Lx.tokenize ⟨(Lx.lineOf ps [] ++ 32 :: 35 :: x).toArray⟩ = (Lx.toksOf ps 0, 0, 0) := by
  unfold Lx.tokenize
  have hsz : (⟨(Lx.lineOf ps [] ++ 32 :: 35 :: x).toArray⟩ : ByteArray).size = (Lx.lineOf ps []).length + 2 + x.length := by
    show (Lx.lineOf ps [] ++ 32 :: 35 :: x).length = _
    simp; omega
  rw [if_neg (by rw [hsz]; omega), Lx.tokAcc_eq _ _ _ _ (Nat.zero_le _), List.drop_zero, Lx.uncomment_data]
  have hu := Lx.uncomment_data ⟨(Lx.lineOf ps [] ++ 32 :: 35 :: x).toArray⟩
  have e1 : (⟨(Lx.lineOf ps [] ++ 32 :: 35 :: x).toArray⟩ : ByteArray).data.toList = Lx.lineOf ps [] ++ 32 :: 35 :: x := rfl
  rw [e1, cutR_line ps true true x h] at hu
  rw [e1, cutR_line ps true true x h, ← lineOf_end ps [32]]
  have hul : (Lx.uncomment ⟨(Lx.lineOf ps [] ++ 32 :: 35 :: x).toArray⟩).size = (Lx.lineOf ps []).length + 1 := by
    have : (Lx.uncomment ⟨(Lx.lineOf ps [] ++ 32 :: 35 :: x).toArray⟩).data.toList.length = (Lx.uncomment ⟨(Lx.lineOf ps [] ++ 32 :: 35 :: x).toArray⟩).size := by
      generalize Lx.uncomment ⟨(Lx.lineOf ps [] ++ 32 :: 35 :: x).toArray⟩ = u
      obtain ⟨⟨u⟩⟩ := u; rfl
    rw [← this, hu]; simp
  have := Lx.line_length ps [] true h
  exact Lx.tokR_line ps [32] _ 0 [] true h (by decide) (.inr trivial) (by omega)

def remark : Bs := [32, 35, 32, 114, 101, 109, 97, 114, 107]
/-- the line with other blanks -/
structure BlankLaw (E : Env) (check : Req → Int) (s : ByteArray) (l : List Tok) (gs : List Nat) : Prop where
  size : (blankL gs l).length ≤ 700
  req : (parse E check ⟨(blankL gs l ++ remark).toArray⟩).1 = (parse E check s).1
  er : (parse E check ⟨(blankL gs l ++ remark).toArray⟩).2.2 = (parse E check s).2.2
  tok : Lx.tokenize ⟨(blankL gs l).toArray⟩ = (Lx.toksOf (gapsOf gs l 0) 0, 0, 0)
  len : (Lx.toksOf (gapsOf gs l 0) 0).length = l.length
  off : (parse E check s).2.2 = 0 ∨ (parse E check s).2.2 = 4 ∨ ∃ a t t', l[a]? = some t ∧ (Lx.toksOf (gapsOf gs l 0) 0)[a]? = some t' ∧ (parse E check s).2.1 = (t.2.2 : Int) ∧ (parse E check ⟨(blankL gs l ++ remark).toArray⟩).2.1 = (t'.2.2 : Int) ∧ ∀ (i : Nat) (u : Tok), i < a → l[i]? = some u → u.2.2 < t.2.2
theorem blank_law (E : Env) (check : Req → Int) (s : ByteArray) (l : List Tok) (o : Int) (gs : List Nat) (hs : s.size ≤ 300) (h : Lx.tokenize s = (l, o, 0)) (h0 : 0 < l.length) : BlankLaw E check s l gs := by
  obtain ⟨rfl, hg⟩ := tokenize_good s l o h
  obtain ⟨z1, z2⟩ := sizes_good l 0 s.size hg (by omega)
  have hlen := gaps_length gs l 0
  have hok := gaps_ok gs l 0 s.size 0 true hg
  have tw := gaps_twin gs l 0 s.size 0 0 hg
  have ht1 := Lx.tokenize_line (gapsOf gs l 0) [] hok rfl (by omega)
  have ht2 := tokenize_comment (gapsOf gs l 0) [32, 114, 101, 109, 97, 114, 107] hok (by simp; omega)
  have e1 := parse_tok E check s l h
  have e2 := parse_tok E check _ _ ht2
  have e2' : parse E check ⟨(blankL gs l ++ remark).toArray⟩ = parseL E check (Lx.toksOf (gapsOf gs l 0) 0) := e2
  obtain ⟨p1, p2, p3⟩ := parse_twin E check tw h0
  refine ⟨by unfold blankL; omega, by rw [e2', e1, p1], by rw [e2', e1, p2], ht1, tw.length.symm, ?_⟩
  rw [e2', e1]
  rcases p3 with p3 | p3 | ⟨a, q1, q2, q3⟩
  · exact .inl p3
  · exact .inr (.inl p3)
  · refine .inr (.inr ⟨a, l[a], (Lx.toksOf (gapsOf gs l 0) 0)[a]'(by rw [← tw.length]; exact q1), List.getElem?_eq_getElem q1, List.getElem?_eq_getElem _, ?_, ?_, fun i u hi hu => good_lt l 0 s.size i a u _ hg hu (List.getElem?_eq_getElem q1) hi⟩)
    · rw [q2]; unfold offAt; rw [List.getElem?_eq_getElem q1]
    · rw [q3]; unfold offAt; rw [List.getElem?_eq_getElem (by rw [← tw.length]; exact q1)]

end Go.Proofs.YthijakidnkhbnaaGreatDoor.Ps
