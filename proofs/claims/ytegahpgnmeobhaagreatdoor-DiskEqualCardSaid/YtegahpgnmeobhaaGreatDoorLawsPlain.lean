/-
  The disk's laws, plain: names that stay, files without pending writes, what a restart leaves of a byte.
-/
import Derived.Test.YtegahpgnmeobhaaGreatDoorRfGood
import Derived.Test.YtegahpgnmeobhaaGreatDoorRfRestPlain
namespace Go.Proofs.YtegahpgnmeobhaaGreatDoor.Dk
open Go

/-! ### all names of a disk are valid -/
def Named (d : D) : Prop := ∀ p ∈ d.fs, valid p.1 = true
theorem Named.new : Named ⟨[], -1, false⟩ := fun p hp => by cases hp
theorem modify_fs (d : D) (fs : List (Bs × Fl)) : (d.modify fs).1.fs = d.fs ∨ (d.modify fs).1.fs = fs := by
  unfold D.modify
  split
  · exact .inl rfl
  · exact .inr rfl
theorem Named.modify {d : D} (h : Named d) (fs : List (Bs × Fl)) (h2 : ∀ p ∈ fs, valid p.1 = true) : Named (d.modify fs).1 := by
  intro p hp
  rcases modify_fs d fs with e | e
  · rw [e] at hp; exact h p hp
  · rw [e] at hp; exact h2 p hp
theorem Named.upd {d : D} (h : Named d) (n : Bs) (f : Fl) : ∀ p ∈ upd n f d.fs, valid p.1 = true := by
  intro p hp
  rcases mem_upd hp with hp | ⟨rfl, q, hq, e⟩
  · exact h p hp
  · rw [← e]; exact h q hq
theorem Named.write {d : D} (h : Named d) (n : Bs) (pos : Nat → Int) (b : Bs) : Named (d.write n pos b).1 := by
  unfold D.write
  split
  · exact h
  · split
    · exact h
    · split
      · exact h
      · split
        · exact h
        · exact h.modify _ (h.upd _ _)
theorem restartFs_names : ∀ (fs : List (Bs × Fl)) (ch : Bs), (restartFs fs ch).1.map Prod.fst = fs.map Prod.fst
  | [], _ => rfl
  | (n, f) :: r, ch => by
    rw [restartFs]
    split
    · simp only [List.map_cons]; rw [restartFs_names r ch]
    · simp only [List.map_cons]; rw [restartFs_names r _]
theorem Named.restart {d : D} (h : Named d) (ch : Bs) : Named (d.restart ch).1 := by
  unfold D.restart
  split
  · intro p hp
    have hm : p.1 ∈ (restartFs d.fs ch).1.map Prod.fst := List.mem_map.2 ⟨p, hp, rfl⟩
    rw [restartFs_names] at hm
    obtain ⟨q, hq, e⟩ := List.mem_map.1 hm
    rw [← e]; exact h q hq
  · exact h
theorem Named.act {d : D} (h : Named d) (o : Op) : Named (d.act o).1 := by
  unfold D.act
  split
  · unfold D.create
    split
    · exact h
    · split
      · exact h
      · rename_i hc
        have hv : valid o.name.data.toList = true := by
          cases hv : valid o.name.data.toList with
          | true => rfl
          | false => exact absurd (by unfold createCheck; rw [hv]; simp) hc
        refine h.modify _ (fun p hp => ?_)
        rcases mem_ins hp with rfl | hp
        · exact hv
        · exact h p hp
  · exact h.write _ _ _
  · exact h.write _ _ _
  · unfold D.truncate
    split
    · exact h
    · split
      · exact h
      · split
        · exact h
        · exact h.modify _ (h.upd _ _)
  · unfold D.sync
    split
    · exact h
    · split
      · exact h
      · exact h.modify _ (h.upd _ _)
  · unfold D.rename
    split
    · exact h
    · split
      · exact h
      · rename_i hc
        split
        · exact h
        · rename_i f hf
          have hv : valid o.to.data.toList = true := by
            cases hv : valid o.to.data.toList with
            | true => rfl
            | false => exact absurd (by unfold renameCheck; rw [hf, hv]; simp) hc
          refine h.modify _ (fun p hp => ?_)
          rcases mem_ins hp with rfl | hp
          · exact hv
          · exact h p (mem_del (mem_del hp))
  · unfold D.remove
    split
    · exact h
    · split
      · exact h
      · exact h.modify _ (fun p hp => h p (mem_del hp))
  · unfold D.setBudget
    split
    · exact h
    · split
      · exact h
      · exact h
  · unfold D.crash
    split
    · exact h
    · exact h
  · exact h.restart _

/-! ### places -/
theorem find_place {fs : List (Bs × Fl)} (h : Rising fs) (k : Nat) (n : Bs) (f : Fl) (hk : fs[k]? = some (n, f)) : pos n fs = some k ∧ find n fs = some f := by
  have hlt := (List.getElem?_eq_some_iff.1 hk).1
  have he := (List.getElem?_eq_some_iff.1 hk).2
  have hp := pos_of (n := n) (fs := fs) k hlt (by rw [he]) (fun j hj => by
    have := (List.pairwise_iff_getElem.1 h.ne) j k (by omega) hlt hj
    rw [he] at this
    exact this)
  obtain ⟨g, h1, h2, _⟩ := pos_some hp
  rw [hk] at h1
  cases h1
  exact ⟨hp, h2⟩

/-- a sync at a place -/
theorem sync_at {fs : List (Bs × Fl)} (h : Rising fs) (k : Nat) (n : Bs) (f : Fl) (hk : fs[k]? = some (n, f)) : D.sync ⟨fs, -1, false⟩ n = (⟨fs.set k (n, ⟨f.contents, []⟩), -1, false⟩, 0) := by
  obtain ⟨hp, hf⟩ := find_place h k n f hk
  unfold D.sync
  rw [if_neg (by simp)]
  simp only [hf]
  unfold D.modify
  rw [if_neg (by simp)]
  rw [upd_eq _ h.ne hp]
  rfl

/-- a restart leaves a file without pending writes as it is -/
theorem restartFs_get : ∀ (fs : List (Bs × Fl)) (ch : Bs) (k : Nat) (n : Bs) (f : Fl), fs[k]? = some (n, f) → f.pend = [] → (restartFs fs ch).1[k]? = some (n, f)
  | [], _, k, _, _, h, _ => by simp at h
  | (m, g) :: r, ch, 0, n, f, h, hp => by
    simp at h
    obtain ⟨rfl, rfl⟩ := h
    rw [restartFs, if_pos hp]
    rfl
  | (m, g) :: r, ch, k + 1, n, f, h, hp => by
    have h' : r[k]? = some (n, f) := by simpa using h
    rw [restartFs]
    split
    · simpa using restartFs_get r ch k n f h' hp
    · simpa using restartFs_get r _ k n f h' hp

/-- what is behind a restart: the same names -/
theorem restartFs_name (fs : List (Bs × Fl)) (ch : Bs) (k : Nat) (n : Bs) (f : Fl) (h : fs[k]? = some (n, f)) : ∃ f', (restartFs fs ch).1[k]? = some (n, f') := by
  have hm := congrArg (fun l : List Bs => l[k]?) (restartFs_names fs ch)
  simp only [List.getElem?_map, h, Option.map_some] at hm
  obtain ⟨p, hp, e⟩ := Option.map_eq_some_iff.1 hm
  exact ⟨p.2, by rw [hp, ← e]⟩

/-! ### what is behind a rename -/
theorem find_ins_self (n : Bs) (f : Fl) (fs : List (Bs × Fl)) (hno : find n fs = none) : find n (ins n f fs) = some f := by
  have hp := insBy_perm Prod.fst (n, f) fs
  cases h : find n (ins n f fs) with
  | none =>
    unfold find at h
    rw [Option.map_eq_none_iff, List.find?_eq_none] at h
    have := h (n, f) (by unfold ins; exact hp.mem_iff.2 (by simp))
    simp at this
  | some g =>
    have hm := find_mem h
    rcases mem_ins hm with e | e
    · cases e; rfl
    · unfold find at hno
      rw [Option.map_eq_none_iff, List.find?_eq_none] at hno
      have := hno _ e
      simp at this
theorem find_ins_ne (n m : Bs) (f : Fl) (fs : List (Bs × Fl)) (hne : m ≠ n) (hno : find m fs = none) : find m (ins n f fs) = none := by
  cases h : find m (ins n f fs) with
  | none => rfl
  | some g =>
    have hm := find_mem h
    rcases mem_ins hm with e | e
    · cases e; exact absurd rfl hne
    · unfold find at hno
      rw [Option.map_eq_none_iff, List.find?_eq_none] at hno
      have := hno _ e
      simp at this
theorem find_del_self (n : Bs) (fs : List (Bs × Fl)) : find n (del n fs) = none := by
  unfold find del
  rw [Option.map_eq_none_iff, List.find?_eq_none]
  intro p hp
  have := (List.mem_filter.1 hp).2
  simpa using this
theorem find_del_none (n m : Bs) (fs : List (Bs × Fl)) (h : find m fs = none) : find m (del n fs) = none := by
  unfold find del at *
  rw [Option.map_eq_none_iff, List.find?_eq_none] at *
  intro p hp
  exact h p (List.mem_filter.1 hp).1

theorem find_restart (n : Bs) (fs : List (Bs × Fl)) (ch : Bs) : (find n (restartFs fs ch).1).isSome = (find n fs).isSome := by
  have key : ∀ (l : List (Bs × Fl)), (find n l).isSome = (l.map Prod.fst).any (fun x => x == n) := by
    intro l
    unfold find
    rw [Option.isSome_map, List.any_map, Bool.eq_iff_iff, List.find?_isSome, List.any_eq_true]
    rfl
  rw [key, key, restartFs_names]

end Go.Proofs.YtegahpgnmeobhaaGreatDoor.Dk
