/-
  DiskBudget, plain: an operation with any budget.
-/
import Derived.Test.YtegahpgnmeobhaaGreatDoorLawsPlain
namespace Go.Proofs.YtegahpgnmeobhaaGreatDoor.Dk
open Go

/-- an operation with nothing to write -/
def idle (o : Op) : Prop := (o.kind = 1 ∨ o.kind = 2) ∧ o.b = []

theorem act_write (fs : List (Bs × Fl)) (n : Bs) (pos : Nat → Int) (b : Bs) :
    (∃ e : Int, (∀ bud, D.write ⟨fs, bud, false⟩ n pos b = (⟨fs, bud, false⟩, e)) ∧ (e ≠ 0 ∨ b = [])) ∨ (∃ fs', (∀ bud, D.write ⟨fs, bud, false⟩ n pos b = D.modify ⟨fs, bud, false⟩ fs') ∧ b ≠ []) := by
  have hc : ∀ bud, writeCheck ⟨fs, bud, false⟩ n pos b = writeCheck ⟨fs, 0, false⟩ n pos b := fun bud => rfl
  by_cases h0 : writeCheck ⟨fs, 0, false⟩ n pos b = 0
  · by_cases hb : b = []
    · exact .inl ⟨0, fun bud => by unfold D.write; rw [if_neg (by simp), if_neg (by rw [hc, h0]; simp), if_pos hb], .inr hb⟩
    · cases hf : find n fs with
      | none => exact .inl ⟨9, fun bud => by unfold D.write; rw [if_neg (by simp), if_neg (by rw [hc, h0]; simp), if_neg hb]; simp only [hf], .inl (by decide)⟩
      | some f => exact .inr ⟨_, fun bud => by unfold D.write; rw [if_neg (by simp), if_neg (by rw [hc, h0]; simp), if_neg hb]; simp only [hf]; rfl, hb⟩
  · exact .inl ⟨_, fun bud => by unfold D.write; rw [if_neg (by simp), if_pos (by rw [hc]; exact h0), hc], .inl h0⟩

theorem act_split (fs : List (Bs × Fl)) (o : Op) (hk : o.kind ≤ 6) :
    (∃ e : Int, (∀ bud, D.act ⟨fs, bud, false⟩ o = (⟨fs, bud, false⟩, e)) ∧ (e ≠ 0 ∨ idle o)) ∨ (∃ fs', (∀ bud, D.act ⟨fs, bud, false⟩ o = D.modify ⟨fs, bud, false⟩ fs') ∧ ¬ idle o) := by
  obtain ⟨kind, name, tn, n, b⟩ := o
  simp only [] at hk
  have hkk : kind = 0 ∨ kind = 1 ∨ kind = 2 ∨ kind = 3 ∨ kind = 4 ∨ kind = 5 ∨ kind = 6 := by omega
  rcases hkk with rfl | rfl | rfl | rfl | rfl | rfl | rfl
  · by_cases h0 : createCheck ⟨fs, 0, false⟩ name.data.toList = 0
    · exact .inr ⟨ins name.data.toList ⟨[], []⟩ fs, fun bud => by show D.create _ _ = _; unfold D.create; rw [if_neg (by simp), if_neg (by show ¬ createCheck ⟨fs, 0, false⟩ _ ≠ 0; rw [h0]; simp)], fun h => by rcases h.1 with h | h <;> cases h⟩
    · exact .inl ⟨createCheck ⟨fs, 0, false⟩ name.data.toList, fun bud => by show D.create _ _ = _; unfold D.create; rw [if_neg (by simp), if_pos (by exact h0)]; rfl, .inl h0⟩
  · rcases act_write fs name.data.toList (fun _ => n) b with ⟨e, h1, h2⟩ | ⟨fs', h1, h2⟩
    · exact .inl ⟨e, h1, h2.imp id (fun h => ⟨.inl rfl, h⟩)⟩
    · exact .inr ⟨fs', h1, fun h => h2 h.2⟩
  · rcases act_write fs name.data.toList (fun n => n) b with ⟨e, h1, h2⟩ | ⟨fs', h1, h2⟩
    · exact .inl ⟨e, h1, h2.imp id (fun h => ⟨.inr rfl, h⟩)⟩
    · exact .inr ⟨fs', h1, fun h => h2 h.2⟩
  · by_cases h0 : truncCheck ⟨fs, 0, false⟩ name.data.toList n = 0
    · cases hf : find name.data.toList fs with
      | none => exact .inl ⟨9, fun bud => by show D.truncate _ _ _ = _; unfold D.truncate; rw [if_neg (by simp), if_neg (by show ¬ truncCheck ⟨fs, 0, false⟩ _ _ ≠ 0; rw [h0]; simp)]; simp only [hf], .inl (by decide)⟩
      | some f => exact .inr ⟨_, fun bud => by show D.truncate _ _ _ = _; unfold D.truncate; rw [if_neg (by simp), if_neg (by show ¬ truncCheck ⟨fs, 0, false⟩ _ _ ≠ 0; rw [h0]; simp)]; simp only [hf]; rfl, fun h => by rcases h.1 with h | h <;> cases h⟩
    · exact .inl ⟨truncCheck ⟨fs, 0, false⟩ name.data.toList n, fun bud => by show D.truncate _ _ _ = _; unfold D.truncate; rw [if_neg (by simp), if_pos (by exact h0)]; rfl, .inl h0⟩
  · cases hf : find name.data.toList fs with
    | none => exact .inl ⟨9, fun bud => by show D.sync _ _ = _; unfold D.sync; rw [if_neg (by simp)]; simp only [hf], .inl (by decide)⟩
    | some f => exact .inr ⟨_, fun bud => by show D.sync _ _ = _; unfold D.sync; rw [if_neg (by simp)]; simp only [hf]; rfl, fun h => by rcases h.1 with h | h <;> cases h⟩
  · by_cases h0 : renameCheck ⟨fs, 0, false⟩ name.data.toList tn.data.toList = 0
    · cases hf : find name.data.toList fs with
      | none => exact .inl ⟨9, fun bud => by show D.rename _ _ _ = _; unfold D.rename; rw [if_neg (by simp), if_neg (by show ¬ renameCheck ⟨fs, 0, false⟩ _ _ ≠ 0; rw [h0]; simp)]; simp only [hf], .inl (by decide)⟩
      | some f => exact .inr ⟨_, fun bud => by show D.rename _ _ _ = _; unfold D.rename; rw [if_neg (by simp), if_neg (by show ¬ renameCheck ⟨fs, 0, false⟩ _ _ ≠ 0; rw [h0]; simp)]; simp only [hf]; rfl, fun h => by rcases h.1 with h | h <;> cases h⟩
    · exact .inl ⟨renameCheck ⟨fs, 0, false⟩ name.data.toList tn.data.toList, fun bud => by show D.rename _ _ _ = _; unfold D.rename; rw [if_neg (by simp), if_pos (by exact h0)]; rfl, .inl h0⟩
  · cases hf : find name.data.toList fs with
    | none => exact .inl ⟨9, fun bud => by show D.remove _ _ = _; unfold D.remove; rw [if_neg (by simp)]; simp only [hf], .inl (by decide)⟩
    | some f => exact .inr ⟨_, fun bud => by show D.remove _ _ = _; unfold D.remove; rw [if_neg (by simp)]; simp only [hf]; rfl, fun h => by rcases h.1 with h | h <;> cases h⟩

theorem act_down (d : D) (o : Op) (hd : d.down = true) (hk : o.kind ≤ 6) : d.act o = (d, 32) := by
  obtain ⟨kind, name, tn, n, b⟩ := o
  simp only [] at hk
  have hkk : kind = 0 ∨ kind = 1 ∨ kind = 2 ∨ kind = 3 ∨ kind = 4 ∨ kind = 5 ∨ kind = 6 := by omega
  rcases hkk with rfl | rfl | rfl | rfl | rfl | rfl | rfl
  · show D.create _ _ = _; unfold D.create; rw [if_pos hd]
  · show D.write _ _ _ _ = _; unfold D.write; rw [if_pos hd]
  · show D.write _ _ _ _ = _; unfold D.write; rw [if_pos hd]
  · show D.truncate _ _ _ = _; unfold D.truncate; rw [if_pos hd]
  · show D.sync _ _ = _; unfold D.sync; rw [if_pos hd]
  · show D.rename _ _ _ = _; unfold D.rename; rw [if_pos hd]
  · show D.remove _ _ = _; unfold D.remove; rw [if_pos hd]

end Go.Proofs.YtegahpgnmeobhaaGreatDoor.Dk
