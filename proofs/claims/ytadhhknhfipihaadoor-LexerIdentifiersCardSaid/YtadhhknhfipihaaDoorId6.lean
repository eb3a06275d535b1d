/-
  WHICH KINDS IDENTIFIERS AND AMOUNTS HAVE: the plain laws.
-/
import Derived.Test.YtadhhknhfipihaaDoorAm3
import Derived.Lib.IndexMore
namespace Go.Proofs.YtadhhknhfipihaaDoor
open Go.RowKit Go.Lib

theorem ids_extract (s : ByteArray) (a b j : Nat) (c : UInt8) (h : s.data.toList[j]? = some c) (ha : a ≤ j) (hb : j < b) : c ∈ (s.extract a b).data.toList := by
  rw [ByteArray.data_extract, Array.toList_extract, List.extract_eq_take_drop]
  rw [List.mem_iff_getElem?]
  refine ⟨j - a, ?_⟩
  rw [List.getElem?_take, if_pos (by omega), List.getElem?_drop, show a + (j - a) = j by omega]
  exact h

theorem ids_occ (l : List UInt8) (c : UInt8) (i : Nat) (h : Lib.occAt l [c] i = true) : l[i]? = some c := by
  unfold Lib.occAt at h
  have e : (l.drop i)[0]? = l[i]? := by rw [List.getElem?_drop]; rfl
  rw [← e]
  cases hd : l.drop i with
  | nil => rw [hd] at h; simp [List.isPrefixOf] at h
  | cons a t =>
    rw [hd] at h
    simp [List.isPrefixOf] at h
    simp [h]

theorem ids_split_dot (k : Nat) : ∀ s : ByteArray, (∀ p ∈ Lib.splitB ⟨#[45]⟩ 0 k s, (46 : UInt8) ∉ p.data.toList) → (46 : UInt8) ∉ s.data.toList := by
  induction k with
  | zero =>
    intro s h
    exact h s (by simp [Lib.splitB])
  | succ k ih =>
    intro s h
    unfold Lib.splitB at h
    split at h
    · exact h s (by simp)
    · rename_i hne
      have h1 := h _ (List.mem_cons_self ..)
      have h2 := ih _ (fun p hp => h p (List.mem_cons_of_mem _ hp))
      intro hmem
      obtain ⟨j, hj⟩ := List.mem_iff_getElem?.1 hmem
      have hjs : j < s.size := by rw [Lib.size_eq]; exact (List.getElem?_eq_some_iff.1 hj).1
      rcases Lib.index_spec s.data.toList [45] with ⟨hi, _⟩ | ⟨i, hi, _, ho, _⟩
      · exact hne (by rw [beq_iff_eq]; exact hi)
      · have hi2 : (Lib.indexB s ⟨#[45]⟩).toNat = i := by
          show (Lib.index s.data.toList [45]).toNat = i
          rw [hi]; rfl
        rw [hi2] at h1 h2
        by_cases hji : j < i
        · exact h1 (ids_extract s 0 (i + 0) j 46 hj (Nat.zero_le _) (by omega))
        · by_cases hje : j = i
          · subst hje
            rw [ids_occ _ _ _ ho] at hj
            cases hj
          · exact h2 (ids_extract s (i + 1) s.size j 46 hj (by omega) hjs)

theorem ids_date_dot (s : ByteArray) (h : Lx.date s = true) : (46 : UInt8) ∉ s.data.toList := by
  refine ids_split_dot (Lib.countB s ⟨#[45]⟩) s (fun p hp hm => ?_)
  unfold Lx.date at h
  simp only [Bool.and_eq_true] at h
  have h2 := List.all_eq_true.1 h.2 p hp
  unfold Lx.all at h2
  simp only [Bool.and_eq_true] at h2
  have := List.all_eq_true.1 h2.2 46 hm
  exact absurd this (by decide)

theorem ids_whole_dot (l : List UInt8) (h : Lx.whole l = true) : (46 : UInt8) ∉ l := by
  intro hm
  unfold Lx.whole Lx.all at h
  simp only [Bool.and_eq_true] at h
  have := List.all_eq_true.1 h.1.2 46 hm
  exact absurd this (by decide)

theorem ids_decimal_dot (l : List UInt8) (h : Lx.decimal l = true) : (46 : UInt8) ∈ l := by
  unfold Lx.decimal at h
  simp only [Bool.and_eq_true] at h
  have h1 := h.1.1.1.1
  have hr : (46 : UInt8) ∈ Lib.trimPrefix l [45] := by
    generalize Lib.trimPrefix l [45] = r at *
    unfold Lib.cut at h1
    split at h1
    · rename_i h0
      rcases Lib.index_spec r [46] with ⟨hi, _⟩ | ⟨i, hi, _, ho, _⟩
      · omega
      · exact List.mem_iff_getElem?.2 ⟨i, ids_occ _ _ _ ho⟩
    · cases h1
  unfold Lib.trimPrefix at hr
  split at hr
  · exact List.mem_of_mem_drop hr
  · exact hr

theorem ids_classify_decimal (s : ByteArray) (hs : s.size ≤ 32) : (Lx.decimal s.data.toList = true → Lx.classify s = (3, 0)) ∧ (Lx.decimal s.data.toList = false → ¬ ((Lx.classify s).2 = 0 ∧ (Lx.classify s).1 = 3)) := by
  have h32 : ¬ 32 < s.size := by omega
  constructor
  · intro h
    have hd := ids_decimal_dot _ h
    unfold Lx.classify
    rw [if_neg h32, if_neg (fun hx => ids_date_dot s hx hd), if_neg (fun hx => ids_whole_dot _ (by simp at hx; exact hx.1) hd), if_pos h]
  · intro h
    unfold Lx.classify
    rw [if_neg h32]
    split
    · decide
    · split
      · decide
      · rw [if_neg (by rw [h]; decide)]
        split
        · decide
        · split <;> decide

theorem ids_all (s : ByteArray) (p : Int → Bool) (h0 : 0 < s.size) (h : ∀ j, j < s.size → p (PlainAid.bt s j) = true) : Lx.all p s.data.toList = true := by
  unfold Lx.all
  rw [Bool.and_eq_true]
  constructor
  · rw [Lib.size_eq] at h0
    cases hl : s.data.toList with
    | nil => rw [hl] at h0; simp at h0
    | cons a l => rfl
  · rw [List.all_eq_true]
    intro c hc
    obtain ⟨j, hj, rfl⟩ := List.getElem_of_mem hc
    have hjs : j < s.size := by rw [Lib.size_eq]; exact hj
    have := h j hjs
    rwa [show PlainAid.bt s j = ((s.data.toList[j]'hj).toNat : Int) from (PlainAid.get_bt s j hjs).symm] at this

theorem ids_named_dot (l : List UInt8) (h : Lx.all Lx.named l = true) : (46 : UInt8) ∉ l := by
  intro hm
  unfold Lx.all at h
  simp only [Bool.and_eq_true] at h
  have := List.all_eq_true.1 h.2 46 hm
  exact absurd this (by decide)

theorem ids_classify_ref (s : ByteArray) (h : idFits 2 s = 0) : (Lx.classify s).2 = 0 ∧ ((Lx.classify s).1 = 1 ∨ (Lx.classify s).1 = 2 ∨ (Lx.classify s).1 = 4) := by
  obtain ⟨h1, h2, h3⟩ := idFits_facts 2 s h
  have h1' : 0 < s.size := by simp [idRow] at h1; omega
  have h2' : s.size ≤ 16 := by simpa [idTab] using h2
  have hn : Lx.all Lx.named s.data.toList = true := ids_all s Lx.named h1' (fun j hj => by
    have := h3 j hj
    rw [List.getD_eq_getElem?_getD, show ((idTab 2).map (·.2))[j]? = some Id.refc by
      show (List.map _ (List.replicate 16 (_, Id.refc)))[j]? = _
      rw [List.map_replicate, List.getElem?_replicate, if_pos (by omega)]] at this
    exact this)
  have hdot := ids_named_dot _ hn
  unfold Lx.classify
  rw [if_neg (by omega)]
  split
  · decide
  · split
    · decide
    · rw [if_neg (fun hx => hdot (ids_decimal_dot _ hx))]
      first | decide | (rw [if_pos hn]; decide)

theorem ids_classify_name (k : Nat) (hk : k = 0 ∨ k = 1 ∨ k = 3) (s : ByteArray) (h : idFits k s = 0) : Lx.classify s = (1, 0) := by
  obtain ⟨h1, h2, h3⟩ := idFits_facts k s h
  have hsz : 0 < s.size ∧ s.size ≤ 20 ∧ s.size ≠ 10 ∧ (k = 3 → 16 < s.size) := by
    rcases hk with rfl | rfl | rfl
    · simp [idRow] at h1; simp [idTab] at h2; omega
    · simp [idRow] at h1; simp [idTab] at h2; omega
    · simp [idRow] at h1; simp [idTab] at h2; omega
  obtain ⟨hs0, hs20, hs10, hs16⟩ := hsz
  have hn : Lx.all Lx.named s.data.toList = true := ids_all s Lx.named hs0 (fun j hj => by
    have := id_tab_alnum k hk (PlainAid.bt s j) j (by omega) (h3 j hj)
    unfold Lx.named
    unfold Id.alnum at this
    rw [this]; rfl)
  have hdot := ids_named_dot _ hn
  have hdate : Lx.date s = false := by
    unfold Lx.date
    rw [show decide (s.size = 10) = false by simpa using hs10]
    rfl
  have hwhole : (Lx.whole s.data.toList && decide (s.size ≤ 16)) = false := by
    rw [Bool.and_eq_false_iff]
    by_cases hk3 : k = 3
    · right; have := hs16 hk3; simp; omega
    · left
      have hl : Id.letter (PlainAid.bt s 0) = true := by
        have := h3 0 hs0
        rcases hk with rfl | rfl | rfl
        · exact this
        · exact this
        · exact absurd rfl hk3
      cases hw : Lx.whole s.data.toList with
      | false => rfl
      | true =>
        exfalso
        unfold Lx.whole Lx.all at hw
        simp only [Bool.and_eq_true] at hw
        have h00 : 0 < s.data.toList.length := by rw [← Lib.size_eq]; exact hs0
        have hd := List.all_eq_true.1 hw.1.2 _ (List.getElem_mem h00)
        rw [show ((s.data.toList[0]'h00).toNat : Int) = PlainAid.bt s 0 from PlainAid.get_bt s 0 hs0] at hd
        unfold Id.letter Lx.upper at hl
        unfold Lx.digit at hd
        simp at hl hd
        omega
  unfold Lx.classify
  rw [if_neg (by omega), hdate, if_neg (by decide), hwhole, if_neg (by decide), if_neg (fun hx => hdot (ids_decimal_dot _ hx)), if_pos hn]

end Go.Proofs.YtadhhknhfipihaaDoor
