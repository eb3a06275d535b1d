/-
  The files of a log are good for Open (plain).
-/
import Derived.Test.YtcbnbhlgikjbeaaGreatDoorWlOpenP
namespace Go.Proofs.YtcbnbhlgikjbeaaGreatDoor.Wl
open Go

theorem Olds.split {p : Bs} {ps : List Bs} : ∀ {os : List (Nat × Nat)} {fo : List (Bs × Dk.Fl)}, Olds p ps os fo → ∀ {k : Nat} {x : Bs × Dk.Fl}, fo[k]? = some x → ∃ s, os[k]? = some s ∧ OldOk p ps s x ∧ Olds p ps (os.take k) (fo.take k)
  | _, _, .nil, k, x, h => by simp at h
  | s :: os, y :: fo, .cons h1 h2, 0, x, h => by
    obtain rfl : y = x := by simpa using h
    exact ⟨s, rfl, h1, .nil⟩
  | s :: os, y :: fo, .cons h1 h2, k + 1, x, h => by
    obtain ⟨t, h3, h4, h5⟩ := Olds.split h2 (k := k) (x := x) (by simpa using h)
    exact ⟨t, by simpa using h3, h4, .cons h1 h5⟩
theorem Chain.split {n : Nat} : ∀ {l : List (Nat × Nat)} {a : Nat}, Chain a l n → ∀ {k : Nat} {s : Nat × Nat}, l[k]? = some s → Chain a (l.take k) s.1
  | [], _, _, k, s, h => by simp at h
  | t :: r, a, hc, 0, s, h => by
    obtain rfl : t = s := by simpa using h
    exact hc.1.symm
  | t :: r, a, hc, k + 1, s, h => ⟨hc.1, Chain.split hc.2 (k := k) (by simpa using h)⟩
theorem find_at {n : Bs} {f : Dk.Fl} : ∀ {fs : List (Bs × Dk.Fl)} {k : Nat}, fs[k]? = some (n, f) → (∀ j y, j < k → fs[j]? = some y → y.1 ≠ n) → Dk.find n fs = some f
  | [], k, h, _ => by simp at h
  | y :: fs, 0, h, _ => by
    obtain rfl : y = (n, f) := by simpa using h
    unfold Dk.find; simp
  | y :: fs, k + 1, h, hj => by
    have h0 := hj 0 y (by omega) rfl
    have := find_at (fs := fs) (k := k) (by simpa using h) (fun j z hjk hz => hj (j + 1) z (by omega) (by simpa using hz))
    rw [← this]
    unfold Dk.find; simp [h0]

theorem good_of {p : Bs} {ps : List Bs} {os : List (Nat × Nat)} {fo : List (Bs × Dk.Fl)} {a f : Nat} {g : Dk.Fl} (hps : ∀ q ∈ ps, q.length ≤ 200) (hn : ps.length < 100) (hf : f ≤ ps.length)
    (ho : Olds p ps os fo) (hc : Chain a os f) (hp : ∀ s ∈ os, 0 < s.2) (hg : g.contents.length ≤ 1000000) : Good p (fo ++ [(name p f, g)]) := by
  intro k x hx
  have hlt := hc.lt hp
  by_cases hk : k < fo.length
  · rw [List.getElem?_append_left hk] at hx
    obtain ⟨s, hs, hok, hol⟩ := ho.split hx
    have hch := hc.split hs
    have hsm := List.mem_of_getElem? hs
    have hsf := hlt s hsm
    have htk : (fo ++ [(name p f, g)]).take k = fo.take k := List.take_append_of_le_length (by omega)
    obtain ⟨h1, h2, h3, h4, h5⟩ := scan_olds (st := .empty) hps (f := s.1) (by omega) (by omega) hol hch (fun t ht => hp t (List.mem_of_mem_take ht)) rfl rfl (fun h => by cases h)
    have hend := hc.ends s hsm
    have hcont : x.2.contents = packs s.1 ((ps.drop s.1).take s.2) := by unfold Dk.Fl.contents; rw [hok.2.1]; exact hok.2.2
    have hon : (scan p .empty (fo.take k)).next ≤ 1000000000 := by
      cases hb : (scan p .empty (fo.take k)).on with
      | true => rw [h3 hb]; omega
      | false =>
        have : fo.take k = [] := by
          cases hfo : fo.take k with
          | nil => rfl
          | cons y r =>
            exfalso
            have hkl : 0 < (fo.take k).length := by rw [hfo]; simp
            have h6 : os.take k ≠ [] := fun e => by
              have := hol.length
              rw [e, hfo] at this; simp at this
            have h7 : (scan p .empty (fo.take k)).segs = os.take k := by rw [h4]; rfl
            have hz : ∀ (fs : List (Bs × Dk.Fl)) (st : Sc), (st.on = false → st.segs = []) → ((scan p st fs).on = false → (scan p st fs).segs = []) := by
              intro fs
              induction fs with
              | nil => intro st h; exact h
              | cons y fs ih =>
                intro st h
                refine ih (Sc.step p st y) ?_
                unfold Sc.step
                split
                · exact h
                · unfold Sc.file Sc.take Sc.begin
                  split <;> split <;> simp_all
            have := hz (fo.take k) .empty (fun _ => rfl) hb
            exact h6 (h7.symm.trans this)
        rw [this]; simp [scan, Sc.empty]
    refine ⟨s.1, hok.1, by omega, ?_, ?_, ?_, ?_, ?_, ?_, ?_, ?_⟩
    · rw [hcont]
      have := packs_len s.1 ((ps.drop s.1).take s.2) 200 (fun q hq => hps q (List.mem_of_mem_drop (List.mem_of_mem_take hq)))
      rw [List.length_take, List.length_drop] at this
      have h2 : (min s.2 (ps.length - s.1)) * (16 + 200) ≤ 100 * 216 := Nat.mul_le_mul (by omega) (by omega)
      omega
    · refine find_at (k := k) (by rw [List.getElem?_append_left hk]; exact hx) (fun j y hj hy e => ?_)
      rw [List.getElem?_append_left (by omega)] at hy
      obtain ⟨t, ht, hot, -⟩ := ho.split hy
      have h6 := name_inj (hot.1.symm.trans (e.trans hok.1))
      have h7 := hch.lt (fun z hz => hp z (List.mem_of_mem_take hz)) t (List.mem_of_getElem? (i := j) (by rw [List.getElem?_take_of_lt hj]; exact ht))
      omega
    · rw [htk]; exact h2
    · rw [htk]; exact h1
    · rw [htk]; exact h3
    · rw [htk, h4]; show (os.take k).length = k; rw [List.length_take, ho.length]; omega
    · rw [htk, h5]; show (ents a _).length ≤ _
      rw [ents_length, List.length_take, List.length_drop]
      have := hch.le
      by_cases hk0 : k = 0
      · subst hk0
        have : a = s.1 := hch
        omega
      · omega
    · rw [htk]; exact hon
  · have hkl : k < (fo ++ [(name p f, g)]).length := (List.getElem?_eq_some_iff.1 hx).1
    have hke : k = fo.length := by simp at hkl; omega
    subst hke
    have hxe : x = (name p f, g) := by simpa using hx.symm
    subst hxe
    have htk : (fo ++ [(name p f, g)]).take fo.length = fo := by simp
    obtain ⟨h1, h2, h3, h4, h5⟩ := scan_olds (st := .empty) hps hf (by omega) ho hc hp rfl rfl (fun h => by cases h)
    refine ⟨f, rfl, by omega, hg, ?_, by rw [htk]; exact h2, by rw [htk]; exact h1, by rw [htk]; exact h3, ?_, ?_, ?_⟩
    · refine find_at (k := fo.length) (by simp) (fun j y hj hy e => ?_)
      rw [List.getElem?_append_left hj] at hy
      obtain ⟨t, ht, hot, -⟩ := ho.split hy
      have h6 := name_inj (hot.1.symm.trans e)
      have h7 := hlt t (List.mem_of_getElem? ht)
      omega
    · rw [htk, h4]; show os.length = _; exact ho.length
    · rw [htk, h5]; show (ents a _).length ≤ _
      rw [ents_length, List.length_take, List.length_drop]
      have := hc.le
      by_cases hk0 : fo.length = 0
      · have h8 := ho.length
        have h9 : os = [] := List.length_eq_zero_iff.1 (by omega)
        subst h9
        have : a = f := hc
        omega
      · omega
    · rw [htk]
      cases hfo : fo with
      | nil => simp [scan, Sc.empty]
      | cons y r =>
        have hb : (scan p .empty fo).on = true := by
          cases hb : (scan p .empty fo).on with
          | true => rfl
          | false =>
            exfalso
            have hz : ∀ (fs : List (Bs × Dk.Fl)) (st : Sc), (st.on = false → st.segs = []) → ((scan p st fs).on = false → (scan p st fs).segs = []) := by
              intro fs
              induction fs with
              | nil => intro st h; exact h
              | cons y fs ih =>
                intro st h
                refine ih (Sc.step p st y) ?_
                unfold Sc.step
                split
                · exact h
                · unfold Sc.file Sc.take Sc.begin
                  split <;> split <;> simp_all
            have h8 := hz fo .empty (fun _ => rfl) hb
            rw [h4] at h8
            have h9 := ho.length
            have : os = [] := h8
            rw [this, hfo] at h9; simp at h9
        rw [← hfo, h3 hb]; omega
theorem Inv.good {p : Bs} {sz : Nat} {ps : List Bs} {d : Dk.D} {l : L} {os : List (Nat × Nat)} {fo : List (Bs × Dk.Fl)} {a f k : Nat} {g : Dk.Fl} (h : Inv p sz ps d l a os fo f k g) (hps : ∀ q ∈ ps, q.length ≤ 200) (hn : ps.length < 100) : Good p d.fs := by
  have hlen := h.len
  rw [h.fs]
  refine good_of hps hn (by omega) h.old h.chain h.pos ?_
  rw [h.cont]
  have := packs_len f (ps.drop f) 200 (fun q hq => hps q (List.mem_of_mem_drop hq))
  rw [List.length_drop] at this
  have h2 : (ps.length - f) * (16 + 200) ≤ 100 * 216 := Nat.mul_le_mul (by omega) (by omega)
  omega
theorem Inv.files {p : Bs} {sz : Nat} {ps : List Bs} {d : Dk.D} {l : L} {os : List (Nat × Nat)} {fo : List (Bs × Dk.Fl)} {a f k : Nat} {g : Dk.Fl} (h : Inv p sz ps d l a os fo f k g) : 0 < d.fs.length ∧ d.fs.length ≤ f + 1 := by
  refine ⟨by rw [h.fs]; simp, h.count⟩
end Go.Proofs.YtcbnbhlgikjbeaaGreatDoor.Wl
