/-
  Open on a disk with the log's own files, plain: which files are good; what is done behind the scan succeeds.
-/
import Derived.Test.YtcbnbhlgikjbeaaGreatDoorWlOpenF
namespace Go.Proofs.YtcbnbhlgikjbeaaGreatDoor
open Go.RowKit

namespace Wl
theorem intactF_size : ∀ (k : Nat) (b : Bs) (s : Nat), (intactF k b s).1.length ≤ k ∧ (b.length ≤ k → (intactF k b s).2 ≤ b.length)
  | 0, b, s => ⟨Nat.le_refl _, fun _ => Nat.zero_le _⟩
  | k + 1, b, s => by
    rw [intactF]
    split
    · exact ⟨Nat.zero_le _, fun _ => Nat.zero_le _⟩
    · split
      · exact ⟨Nat.zero_le _, fun _ => Nat.zero_le _⟩
      · rename_i he
        split
        · exact ⟨Nat.zero_le _, fun _ => Nat.zero_le _⟩
        · have hz : (nextR b).2.2 = 0 := Decidable.not_not.1 (fun h => he (.inl h))
          have hs := nextR_size hz
          have ih := intactF_size k (b.drop (nextR b).2.1) (s + 1)
          refine ⟨by simpa using ih.1, fun hb => ?_⟩
          have := ih.2 (by rw [List.length_drop]; omega)
          rw [List.length_drop] at this
          show (nextR b).2.1 + _ ≤ _
          omega
theorem intact_size (b : Bs) (s : Nat) : (intact b s).1.length ≤ b.length ∧ (intact b s).2 ≤ b.length := ⟨(intactF_size _ b s).1, (intactF_size _ b s).2 (Nat.le_refl _)⟩
def cutS (o : Option (Bs × Nat)) : ByteArray := match o with | none => ⟨#[]⟩ | some x => ⟨x.1.toArray⟩
def cutK (o : Option (Bs × Nat)) : Nat := match o with | none => 0 | some x => x.2
/-- every file is a segment that carries the next number; all but the last are intact -/
def Good (p : Bs) (fs : List (Bs × Dk.Fl)) : Prop := ∀ (k : Nat) (x : Bs × Dk.Fl), fs[k]? = some x → ∃ n, x.1 = name p n ∧ n < 100 ∧ x.2.contents.length ≤ 1000000 ∧ Dk.find x.1 fs = some x.2 ∧
  (scan p .empty (fs.take k)).cut = none ∧ (scan p .empty (fs.take k)).broken = [] ∧ ((scan p .empty (fs.take k)).on = true → (scan p .empty (fs.take k)).next = n) ∧ (scan p .empty (fs.take k)).segs.length = k ∧ (scan p .empty (fs.take k)).ents.length ≤ k * 1000000 ∧ (scan p .empty (fs.take k)).next ≤ 1000000000
theorem scan_next {p : Bs} {fs : List (Bs × Dk.Fl)} {k : Nat} {x : Bs × Dk.Fl} (hx : fs[k]? = some x) : scan p .empty (fs.take (k + 1)) = Sc.step p (scan p .empty (fs.take k)) x := by
  rw [List.take_add_one, hx]
  unfold scan
  rw [List.foldl_append]; rfl
theorem Good.step {p : Bs} {fs : List (Bs × Dk.Fl)} (h : Good p fs) {k : Nat} {x : Bs × Dk.Fl} (hx : fs[k]? = some x) {n : Nat} (hn : x.1 = name p n) (hn2 : n < 100) :
    scan p .empty (fs.take (k + 1)) = ⟨n + (intact x.2.contents n).1.length, true, [], if (intact x.2.contents n).2 < x.2.contents.length then some (x.1, (intact x.2.contents n).2) else none,
      (scan p .empty (fs.take k)).segs ++ [(n, (intact x.2.contents n).1.length)], (scan p .empty (fs.take k)).ents ++ (intact x.2.contents n).1⟩ := by
  obtain ⟨m, h1, h2, _, _, h3, h4, h5, _⟩ := h k x hx
  have hmn : m = n := name_inj (h1.symm.trans hn)
  subst hmn
  rw [scan_next hx]
  unfold Sc.step
  rw [hn, firstOf_name (by omega)]
  simp only []
  rw [Sc.file_ok h4 h3 h5]

theorem Good.segs {p : Bs} {fs : List (Bs × Dk.Fl)} (h : Good p fs) : ∀ k, k ≤ fs.length → ∀ s ∈ (scan p .empty (fs.take k)).segs, s.1 < 100 ∧ ∃ x ∈ fs, x.1 = name p s.1 ∧ Dk.find (name p s.1) fs = some x.2
  | 0, _, s, hs => by simp [scan, Sc.empty] at hs
  | k + 1, hk, s, hs => by
    have hx : fs[k]? = some fs[k] := List.getElem?_eq_getElem hk
    obtain ⟨n, h1, h2, _, h4, _⟩ := h k _ hx
    rw [Good.step h hx h1 h2] at hs
    rcases List.mem_append.1 hs with hs | hs
    · exact h.segs k (by omega) s hs
    · obtain rfl := List.mem_singleton.1 hs
      exact ⟨h2, _, List.getElem_mem hk, h1, h1 ▸ h4⟩
theorem Good.all {p : Bs} {fs : List (Bs × Dk.Fl)} (h : Good p fs) (hne : 0 < fs.length) : (scan p .empty fs).segs.length = fs.length ∧ (scan p .empty fs).broken = [] ∧ (scan p .empty fs).on = true ∧ (scan p .empty fs).next ≤ 1001000000 ∧ (scan p .empty fs).ents.length ≤ fs.length * 1000000 ∧
    ∀ nm k, (scan p .empty fs).cut = some (nm, k) → ∃ n f, nm = name p n ∧ n < 100 ∧ Dk.find nm fs = some f ∧ k ≤ f.contents.length ∧ f.contents.length ≤ 1000000 := by
  obtain ⟨k, hk⟩ : ∃ k, fs.length = k + 1 := ⟨fs.length - 1, by omega⟩
  have hx : fs[k]? = some fs[k] := List.getElem?_eq_getElem (by omega)
  obtain ⟨n, h1, h2, h3, h4, _, _, _, h5, h6, h7⟩ := h k _ hx
  have hst := h.step hx h1 h2
  rw [List.take_of_length_le (by omega)] at hst
  have hsz := intact_size fs[k].2.contents n
  rw [hst]
  refine ⟨by simp [h5, hk], rfl, rfl, ?_, ?_, fun nm j hc => ?_⟩
  · show n + _ ≤ _; omega
  · simp only [List.length_append]; have : fs.length * 1000000 = k * 1000000 + 1000000 := (by rw [hk, Nat.succ_mul]); omega
  · simp only [] at hc
    split at hc
    · cases hc
      exact ⟨n, _, h1, h2, h4, hsz.2, h3⟩
    · cases hc

/-- a disk on which what Open does behind the scan succeeds -/
structure Rdy (D : Dk.D) (p : Bs) (segs : List (Nat × Nat)) : Prop where
  up : D.down = false
  bud : D.bud = -1
  seg : ∀ s ∈ segs, s.1 < 100 ∧ ∃ f, Dk.find (name p s.1) D.fs = some f
theorem find_upd2 (n m : List UInt8) (f : Dk.Fl) : ∀ (fs : List (Bs × Dk.Fl)) (g : Dk.Fl), Dk.find m fs = some g → ∃ g', Dk.find m (Dk.upd n f fs) = some g'
  | [], g, h => by simp [Dk.find] at h
  | x :: r, g, h => by
    unfold Dk.find Dk.upd at *
    rw [List.map_cons, List.find?_cons]
    by_cases hx : (x.1 == n) = true
    · have hxn : x.1 = n := by simpa using hx
      rw [if_pos hx]
      by_cases hm : (n == m) = true
      · simp [hm]
      · have hm' : (n == m) = false := by simpa using hm
        rw [List.find?_cons, show (x.1 == m) = false from by rw [hxn]; exact hm'] at h
        simp only [hm']
        have := find_upd2 n m f r g (by unfold Dk.find; exact h)
        unfold Dk.find Dk.upd at this
        exact this
    · rw [if_neg hx]
      by_cases hm : (x.1 == m) = true
      · simp [hm]
      · have hm' : (x.1 == m) = false := by simpa using hm
        rw [List.find?_cons, hm'] at h
        simp only [hm']
        have := find_upd2 n m f r g (by unfold Dk.find; exact h)
        unfold Dk.find Dk.upd at this
        exact this
theorem Rdy.upd {D : Dk.D} {p : Bs} {segs : List (Nat × Nat)} (h : Rdy D p segs) (n : Bs) (f : Dk.Fl) : (D.modify (Dk.upd n f D.fs)).2 = 0 ∧ Rdy (D.modify (Dk.upd n f D.fs)).1 p segs := by
  unfold Dk.D.modify
  rw [if_neg (by rw [h.bud]; decide), if_neg (by rw [h.bud]; decide)]
  refine ⟨rfl, h.up, h.bud, fun s hs => ⟨(h.seg s hs).1, ?_⟩⟩
  obtain ⟨g, hg⟩ := (h.seg s hs).2
  exact find_upd2 _ _ _ _ _ hg
theorem Rdy.truncate {D : Dk.D} {p : Bs} {segs : List (Nat × Nat)} (h : Rdy D p segs) (n : Bs) {f : Dk.Fl} (hf : Dk.find n D.fs = some f) (k : Nat) (hk : k ≤ f.contents.length) : (D.truncate n k).2 = 0 ∧ Rdy (D.truncate n k).1 p segs := by
  have hc : Dk.truncCheck D n k = 0 := by
    unfold Dk.truncCheck
    rw [hf]
    simp only []
    rw [if_neg (by omega)]
  unfold Dk.D.truncate
  rw [if_neg (by simp [h.up]), if_neg (by simp [hc]), hf]
  exact h.upd _ _
theorem Rdy.settle {D : Dk.D} {p : Bs} {segs : List (Nat × Nat)} (h : Rdy D p segs) {s : Nat × Nat} (hs : s ∈ segs) : (Wl.settle D p s.1).2 = 0 ∧ Rdy (Wl.settle D p s.1).1 p segs := by
  unfold Wl.settle
  split
  · exact ⟨rfl, h⟩
  · obtain ⟨f, hf⟩ := (h.seg s hs).2
    unfold Dk.D.sync
    rw [if_neg (by simp [h.up]), hf]
    exact h.upd _ _
theorem Rdy.settles {D : Dk.D} {p : Bs} {segs : List (Nat × Nat)} (h : Rdy D p segs) : ∀ (l : List (Nat × Nat)), (∀ s ∈ l, s ∈ segs) → Rdy (l.foldl (fun d s => (Wl.settle d p s.1).1) D) p segs
  | [], _ => h
  | s :: l, hl => by
    rw [List.foldl_cons]
    exact Rdy.settles (h.settle (hl s (by simp))).2 l (fun t ht => hl t (List.mem_cons_of_mem _ ht))
/-- the disk behind the scan -/
def cutD (D : Dk.D) (o : Option (Bs × Nat)) : Dk.D := match o with | none => D | some x => (D.truncate x.1 x.2).1
theorem openD_good {D : Dk.D} {p : Bs} {sz : Nat} {st : Sc} (hst : st = scan p .empty D.fs) (hb : st.broken = []) (hs : st.segs ≠ []) :
    openD D p sz = (st.segs.foldl (fun d s => (Wl.settle d p s.1).1) (cutD D st.cut), ⟨p, sz, st.segs, st.next, st.next⟩, st.ents) := by
  unfold openD
  rw [← hst]
  simp only []
  rw [if_neg hs, hb]
  cases st.cut <;> rfl
end Wl

end Go.Proofs.YtcbnbhlgikjbeaaGreatDoor
