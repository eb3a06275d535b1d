/-
  A DISK AFTER k OPERATIONS, PLAIN: its bounds.
-/
import Derived.Test.YtcbnbhlgikjbeaaGreatDoorDkNil
import Derived.Test.YtcbnbhlgikjbeaaGreatDoorRfPlain
namespace Go.Proofs.YtcbnbhlgikjbeaaGreatDoor.Dk
open Go

/-- a disk after k operations -/
structure Good (k : Nat) (d : D) : Prop where
  bud : d.bud ≤ 9223372036854775807
  many : d.fs.length ≤ k
  names : ∀ p ∈ d.fs, p.1.length ≤ 64
  pend : ∀ p ∈ d.fs, p.2.pend.length ≤ k

theorem Good.new : Good 0 ⟨[], -1, false⟩ := ⟨by decide, Nat.le_refl _, fun p hp => (by cases hp), fun p hp => (by cases hp)⟩
theorem Good.mono {k k' : Nat} {d : D} (h : Good k d) (hk : k ≤ k') : Good k' d := ⟨h.bud, Nat.le_trans h.many hk, h.names, fun p hp => Nat.le_trans (h.pend p hp) hk⟩
theorem find_mem {n : Bs} {f : Fl} {fs : List (Bs × Fl)} (h : find n fs = some f) : (n, f) ∈ fs := by
  unfold find at h
  obtain ⟨p, hp, rfl⟩ := Option.map_eq_some_iff.1 h
  have h1 := List.mem_of_find?_eq_some hp
  have h2 := List.find?_some hp
  simp at h2
  rw [← h2]
  exact h1
theorem Good.fits {k : Nat} {d : D} (h : Good k d) (hk : k ≤ 1000) : d.Fits :=
  ⟨h.bud, by have := h.many; omega, fun p hp => by have := h.names p hp; unfold maxLen; omega, fun n f hf => by have := h.pend _ (find_mem hf); simp only [] at this; omega⟩
theorem valid_len {n : Bs} (h : valid n = true) : n.length ≤ 64 := by
  unfold valid at h
  simp only [Bool.and_eq_true, decide_eq_true_eq] at h
  exact h.1.2
theorem Good.modify {k : Nat} {d : D} (h : Good k d) (fs : List (Bs × Fl)) (h1 : fs.length ≤ k + 1) (h2 : ∀ p ∈ fs, p.1.length ≤ 64) (h3 : ∀ p ∈ fs, p.2.pend.length ≤ k + 1) : Good (k + 1) (d.modify fs).1 := by
  unfold D.modify
  split
  · exact ⟨h.bud, Nat.le_succ_of_le h.many, h.names, fun p hp => Nat.le_succ_of_le (h.pend p hp)⟩
  · refine ⟨?_, h1, h2, h3⟩
    have := h.bud
    show (if 0 < d.bud then d.bud - 1 else d.bud) ≤ _
    split <;> omega
theorem mem_upd {n : Bs} {f : Fl} {fs : List (Bs × Fl)} {p : Bs × Fl} (h : p ∈ upd n f fs) : p ∈ fs ∨ (p = (n, f) ∧ ∃ q ∈ fs, q.1 = n) := by
  unfold upd at h
  obtain ⟨q, hq, rfl⟩ := List.mem_map.1 h
  split
  · rename_i he
    exact .inr ⟨rfl, q, hq, by simpa using he⟩
  · exact .inl hq
theorem upd_length (n : Bs) (f : Fl) (fs : List (Bs × Fl)) : (upd n f fs).length = fs.length := by unfold upd; exact List.length_map _
theorem mem_ins {n : Bs} {f : Fl} {fs : List (Bs × Fl)} {p : Bs × Fl} (h : p ∈ ins n f fs) : p = (n, f) ∨ p ∈ fs := by
  have := (insBy_perm Prod.fst (n, f) fs).mem_iff.1 h
  simpa using this
theorem ins_length (n : Bs) (f : Fl) (fs : List (Bs × Fl)) : (ins n f fs).length = fs.length + 1 :=
  (insBy_perm Prod.fst (n, f) fs).length_eq
theorem mem_del {n : Bs} {fs : List (Bs × Fl)} {p : Bs × Fl} (h : p ∈ del n fs) : p ∈ fs := (List.mem_filter.1 h).1
theorem del_length (n : Bs) (fs : List (Bs × Fl)) : (del n fs).length ≤ fs.length := List.length_filter_le _ _
theorem restartFs_length : ∀ (fs : List (Bs × Fl)) (ch : Bs), (restartFs fs ch).1.length = fs.length
  | [], _ => rfl
  | (n, f) :: r, ch => by
    rw [restartFs]
    split
    · simp only [List.length_cons]; rw [restartFs_length r ch]
    · simp only [List.length_cons]; rw [restartFs_length r _]
theorem mem_restartFs : ∀ (fs : List (Bs × Fl)) (ch : Bs) (p : Bs × Fl), p ∈ (restartFs fs ch).1 → ∃ q ∈ fs, p.1 = q.1 ∧ p.2.pend.length ≤ q.2.pend.length
  | [], _, p, h => by cases h
  | (n, f) :: r, ch, p, h => by
    rw [restartFs] at h
    split at h
    · rcases List.mem_cons.1 h with rfl | h
      · exact ⟨(n, f), by simp, rfl, Nat.le_refl _⟩
      · obtain ⟨q, hq, h1⟩ := mem_restartFs r _ p h
        exact ⟨q, List.mem_cons_of_mem _ hq, h1⟩
    · rcases List.mem_cons.1 h with rfl | h
      · exact ⟨(n, f), by simp, rfl, Nat.zero_le _⟩
      · obtain ⟨q, hq, h1⟩ := mem_restartFs r _ p h
        exact ⟨q, List.mem_cons_of_mem _ hq, h1⟩

theorem Good.write {k : Nat} {d : D} (h : Good k d) (n : Bs) (pos : Nat → Int) (b : Bs) : Good (k + 1) (d.write n pos b).1 := by
  have up : Good (k + 1) d := h.mono (Nat.le_succ _)
  unfold D.write
  split
  · exact up
  · split
    · exact up
    · split
      · exact up
      · split
        · exact up
        · rename_i f hf
          have hm := find_mem hf
          refine h.modify _ (by rw [upd_length]; exact Nat.le_succ_of_le h.many) (fun p hp => ?_) (fun p hp => ?_)
          · rcases mem_upd hp with hp | ⟨rfl, _⟩
            · exact h.names p hp
            · have hm' := h.names _ hm
              exact hm'
          · rcases mem_upd hp with hp | ⟨rfl, _⟩
            · exact Nat.le_succ_of_le (h.pend p hp)
            · have := h.pend _ hm
              simp only [List.length_append, List.length_singleton] at this ⊢
              omega
theorem Good.upd0 {k : Nat} {d : D} (h : Good k d) {n : Bs} {f : Fl} (hf : find n d.fs = some f) (g : Bs) : Good (k + 1) (d.modify (upd n ⟨g, []⟩ d.fs)).1 := by
  have hm := find_mem hf
  refine h.modify _ (by rw [upd_length]; exact Nat.le_succ_of_le h.many) (fun p hp => ?_) (fun p hp => ?_)
  · rcases mem_upd hp with hp | ⟨rfl, _⟩
    · exact h.names p hp
    · have hm' := h.names _ hm
      exact hm'
  · rcases mem_upd hp with hp | ⟨rfl, _⟩
    · exact Nat.le_succ_of_le (h.pend p hp)
    · exact Nat.zero_le _

theorem Good.act {k : Nat} {d : D} (h : Good k d) (o : Op) (hn : o.n ≤ 9223372036854775807) : Good (k + 1) (d.act o).1 := by
  have up : Good (k + 1) d := h.mono (Nat.le_succ _)
  unfold D.act
  split
  · unfold D.create
    split
    · exact up
    · split
      · exact up
      · rename_i hc
        have hv : valid o.name.data.toList = true := by
          cases hv : valid o.name.data.toList with
          | true => rfl
          | false => exact absurd (by unfold createCheck; rw [hv]; simp) hc
        refine h.modify _ (by rw [ins_length]; have := h.many; omega) (fun p hp => ?_) (fun p hp => ?_)
        · rcases mem_ins hp with rfl | hp
          · exact valid_len hv
          · exact h.names p hp
        · rcases mem_ins hp with rfl | hp
          · exact Nat.zero_le _
          · exact Nat.le_succ_of_le (h.pend p hp)
  · exact h.write _ _ _
  · exact h.write _ _ _
  · unfold D.truncate
    split
    · exact up
    · split
      · exact up
      · split
        · exact up
        · rename_i f hf
          exact h.upd0 hf _
  · unfold D.sync
    split
    · exact up
    · split
      · exact up
      · rename_i f hf
        exact h.upd0 hf _
  · unfold D.rename
    split
    · exact up
    · split
      · exact up
      · rename_i hc
        split
        · exact up
        · rename_i f hf
          have hm := find_mem hf
          have hv : valid o.to.data.toList = true := by
            cases hv : valid o.to.data.toList with
            | true => rfl
            | false => exact absurd (by unfold renameCheck; rw [hf, hv]; simp) hc
          refine h.modify _ (by rw [ins_length]; have := h.many; have := del_length o.name.data.toList d.fs; have := del_length o.to.data.toList (del o.name.data.toList d.fs); omega) (fun p hp => ?_) (fun p hp => ?_)
          · rcases mem_ins hp with rfl | hp
            · exact valid_len hv
            · exact h.names p (mem_del (mem_del hp))
          · rcases mem_ins hp with rfl | hp
            · have hm' := h.pend _ hm
              exact Nat.le_succ_of_le hm'
            · exact Nat.le_succ_of_le (h.pend p (mem_del (mem_del hp)))
  · unfold D.remove
    split
    · exact up
    · split
      · exact up
      · exact h.modify _ (Nat.le_trans (del_length _ _) (Nat.le_succ_of_le h.many)) (fun p hp => h.names p (mem_del hp)) (fun p hp => Nat.le_succ_of_le (h.pend p (mem_del hp)))
  · unfold D.setBudget
    split
    · exact up
    · split
      · exact up
      · exact ⟨hn, up.many, up.names, up.pend⟩
  · unfold D.crash
    split
    · exact up
    · exact ⟨up.bud, up.many, up.names, up.pend⟩
  · unfold D.restart
    split
    · refine ⟨by show (-1 : Int) ≤ _; decide, ?_, fun p hp => ?_, fun p hp => ?_⟩
      · show (restartFs d.fs o.b).1.length ≤ _
        rw [restartFs_length]; exact Nat.le_succ_of_le h.many
      · obtain ⟨q, hq, h1, _⟩ := mem_restartFs _ _ p hp
        rw [h1]; exact h.names q hq
      · obtain ⟨q, hq, _, h2⟩ := mem_restartFs _ _ p hp
        exact Nat.le_trans h2 (Nat.le_succ_of_le (h.pend q hq))
    · exact up

theorem small_n (o : Raw) (h : o.n ≤ 9223372036854775807) : (small o).n ≤ 9223372036854775807 := by
  unfold small; simp only []; split <;> omega
end Go.Proofs.YtcbnbhlgikjbeaaGreatDoor.Dk
