/-
  DiskEqual, plain: names keep rising; a budget is at least -1.
-/
import Derived.Test.YtegahpgnmeobhaaGreatDoorLawsPlain
namespace Go.Proofs.YtegahpgnmeobhaaGreatDoor.Dk
open Go

theorem rising_sub {fs gs : List (Bs × Fl)} (h : Rising fs) (hs : gs.Sublist fs) : Rising gs := List.Pairwise.sublist hs h
theorem rising_names {fs gs : List (Bs × Fl)} (h : Rising fs) (he : gs.map Prod.fst = fs.map Prod.fst) : Rising gs := by
  have h1 : (fs.map Prod.fst).Pairwise (fun a b => bytesBefore a b = true) := List.pairwise_map.2 h
  rw [← he] at h1
  exact List.pairwise_map.1 h1
theorem upd_names (n : Bs) (f : Fl) (fs : List (Bs × Fl)) : (upd n f fs).map Prod.fst = fs.map Prod.fst := by
  unfold upd
  rw [List.map_map]
  apply List.map_congr_left
  intro p _
  simp only [Function.comp]
  split
  · rename_i h
    exact (by simpa using h : p.1 = n).symm
  · rfl
theorem rising_ins (n : Bs) (f : Fl) : ∀ (fs : List (Bs × Fl)), Rising fs → (∀ p ∈ fs, p.1 ≠ n) → Rising (ins n f fs)
  | [], _, _ => by
    show List.Pairwise _ _
    unfold ins insBy
    simp
  | p :: r, h, hne => by
    have h2 := List.pairwise_cons.1 h
    have hp := hne p (by simp)
    show List.Pairwise _ _
    unfold ins insBy
    by_cases hb : bytesBefore n p.1 = true
    · rw [if_pos hb]
      refine List.pairwise_cons.2 ⟨fun q hq => ?_, h⟩
      rcases List.mem_cons.1 hq with rfl | hq
      · exact hb
      · exact Go.WideShapes.bytes_trans _ _ _ hb (h2.1 q hq)
    · rw [if_neg hb]
      refine List.pairwise_cons.2 ⟨fun q hq => ?_, rising_ins n f r h2.2 (fun q hq => hne q (by simp [hq]))⟩
      rcases mem_ins (n := n) (f := f) (fs := r) hq with rfl | hq
      · rcases WideAt.bytes_total n p.1 (Ne.symm hp) with h1 | h1
        · exact absurd h1 hb
        · exact h1
      · exact h2.1 q hq

/-- names rise, and the budget is at least -1 -/
structure Nice (d : D) : Prop where
  rise : Rising d.fs
  bud : -1 ≤ d.bud
theorem Nice.new : Nice ⟨[], -1, false⟩ := ⟨List.Pairwise.nil, by decide⟩
theorem Nice.modify {d : D} (h : Nice d) (fs : List (Bs × Fl)) (hf : Rising fs) : Nice (d.modify fs).1 := by
  unfold D.modify
  split
  · exact ⟨h.rise, h.bud⟩
  · refine ⟨hf, ?_⟩
    have := h.bud
    show -1 ≤ (if 0 < d.bud then d.bud - 1 else d.bud)
    split <;> omega
theorem Nice.upd {d : D} (h : Nice d) (n : Bs) (f : Fl) : Nice (d.modify (upd n f d.fs)).1 := h.modify _ (rising_names h.rise (upd_names n f d.fs))
theorem find_none_ne {n : Bs} {fs : List (Bs × Fl)} (h : find n fs = none) : ∀ p ∈ fs, p.1 ≠ n := by
  intro p hp e
  unfold find at h
  rw [Option.map_eq_none_iff, List.find?_eq_none] at h
  have := h p hp
  simp [e] at this
theorem del_rising {fs : List (Bs × Fl)} (h : Rising fs) (n : Bs) : Rising (del n fs) := rising_sub h List.filter_sublist
theorem Nice.write {d : D} (h : Nice d) (n : Bs) (pos : Nat → Int) (b : Bs) : Nice (d.write n pos b).1 := by
  unfold D.write
  split
  · exact h
  · split
    · exact h
    · split
      · exact h
      · split
        · exact h
        · exact h.upd _ _
theorem Nice.act {d : D} (h : Nice d) (o : Op) : Nice (d.act o).1 := by
  unfold D.act
  split
  · unfold D.create
    split
    · exact h
    · split
      · exact h
      · rename_i hc
        have hv : find o.name.data.toList d.fs = none := by
          cases hf : find o.name.data.toList d.fs with
          | none => rfl
          | some f =>
            refine absurd ?_ hc
            unfold createCheck
            rw [hf]
            split
            · simp
            · simp
        exact h.modify _ (rising_ins _ _ _ h.rise (find_none_ne hv))
  · exact h.write _ _ _
  · exact h.write _ _ _
  · unfold D.truncate
    split
    · exact h
    · split
      · exact h
      · split
        · exact h
        · exact h.upd _ _
  · unfold D.sync
    split
    · exact h
    · split
      · exact h
      · exact h.upd _ _
  · unfold D.rename
    split
    · exact h
    · split
      · exact h
      · split
        · exact h
        · exact h.modify _ (rising_ins _ _ _ (del_rising (del_rising h.rise _) _) (find_none_ne (find_del_self _ _)))
  · unfold D.remove
    split
    · exact h
    · split
      · exact h
      · exact h.modify _ (del_rising h.rise _)
  · unfold D.setBudget
    split
    · exact h
    · split
      · exact h
      · rename_i hb
        exact ⟨h.rise, by show -1 ≤ o.n; omega⟩
  · unfold D.crash
    split
    · exact h
    · exact ⟨h.rise, h.bud⟩
  · unfold D.restart
    split
    · exact ⟨rising_names h.rise (restartFs_names d.fs o.b), by show (-1 : Int) ≤ -1; decide⟩
    · exact h

end Go.Proofs.YtegahpgnmeobhaaGreatDoor.Dk
