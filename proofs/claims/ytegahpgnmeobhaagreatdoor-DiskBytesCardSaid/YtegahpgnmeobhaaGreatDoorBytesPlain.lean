/-
  What a byte behind a restart can be, plain.
-/
import Derived.Test.YtegahpgnmeobhaaGreatDoorLawsPlain
namespace Go.Proofs.YtegahpgnmeobhaaGreatDoor.Dk
open Go

/-- what may stand at an offset behind a restart -/
def Poss (d : Bs) (pend : List Wr) (k : Nat) (x : UInt8) : Prop := d[k]? = some x ∨ (d.length ≤ k ∧ x = 0) ∨ ∃ w ∈ pend, w.off ≤ k ∧ w.b[k - w.off]? = some x
/-- a part of a pending write -/
def Sub (pend : List Wr) (u : Wr) : Prop := ∃ w ∈ pend, w.off ≤ u.off ∧ ∀ j x, u.b[j]? = some x → w.b[u.off - w.off + j]? = some x

theorem over_get (c : Bs) (off : Nat) (b : Bs) (k : Nat) (x : UInt8) (h : (over c off b)[k]? = some x) : (off ≤ k ∧ b[k - off]? = some x) ∨ c[k]? = some x ∨ (c.length ≤ k ∧ x = 0) := by
  have pad : ∀ j, (c ++ List.replicate (off + b.length - c.length) (0 : UInt8))[j]? = some x → c[j]? = some x ∨ (c.length ≤ j ∧ x = 0) := by
    intro j hj
    rcases Nat.lt_or_ge j c.length with hl | hl
    · rw [List.getElem?_append_left hl] at hj
      exact .inl hj
    · rw [List.getElem?_append_right hl, List.getElem?_replicate] at hj
      split at hj
      · exact .inr ⟨hl, (Option.some.inj hj).symm⟩
      · cases hj
  unfold over at h
  have hlen : ((c ++ List.replicate (off + b.length - c.length) (0 : UInt8)).take off).length = off := by
    rw [List.length_take, List.length_append, List.length_replicate]; omega
  rcases Nat.lt_or_ge k off with h1 | h1
  · rw [List.append_assoc, List.getElem?_append_left (by omega), List.getElem?_take, if_pos h1] at h
    exact .inr (pad k h)
  · rcases Nat.lt_or_ge k (off + b.length) with h2 | h2
    · rw [List.getElem?_append_left (by rw [List.length_append, hlen]; exact h2), List.getElem?_append_right (by omega), hlen] at h
      exact .inl ⟨h1, h⟩
    · rw [List.getElem?_append_right (by rw [List.length_append, hlen]; exact h2), List.length_append, hlen, List.getElem?_drop] at h
      rw [show off + b.length + (k - (off + b.length)) = k by omega] at h
      exact .inr (pad k h)

theorem contents_ge (d : Bs) (l : List Wr) : d.length ≤ (contents d l).length := by
  rw [sizeOf_contents]
  exact sizeOf_le d.length l 0

theorem contents_poss (d : Bs) (pend : List Wr) (k : Nat) (x : UInt8) : ∀ (n : Nat) (l : List Wr), l.length = n → (∀ u ∈ l, Sub pend u) → (contents d l)[k]? = some x → Poss d pend k x
  | 0, l, hl, _, h => by
    obtain rfl := List.eq_nil_of_length_eq_zero hl
    exact .inl h
  | n + 1, l, hl, hs, h => by
    obtain ⟨m, u, rfl⟩ : ∃ m u, l = m ++ [u] := ⟨l.dropLast, l.getLast (by intro e; rw [e] at hl; cases hl), (List.dropLast_concat_getLast _).symm⟩
    rw [contents_snoc, Wr.apply] at h
    rcases over_get _ _ _ _ _ h with ⟨h1, h2⟩ | h1 | ⟨h1, h2⟩
    · obtain ⟨w, hw, hwo, hx⟩ := hs u (by simp)
      have := hx _ _ h2
      refine .inr (.inr ⟨w, hw, by omega, ?_⟩)
      rw [show u.off - w.off + (k - u.off) = k - w.off by omega] at this
      exact this
    · exact contents_poss d pend k x n m (by simp at hl; exact hl) (fun u hu => hs u (by simp [hu])) h1
    · exact .inr (.inl ⟨Nat.le_trans (contents_ge d m) h1, h2⟩)

theorem Sub.self {pend : List Wr} {w : Wr} (h : w ∈ pend) : Sub pend w := ⟨w, h, Nat.le_refl _, fun j x hx => by rw [Nat.sub_self, Nat.zero_add]; exact hx⟩
theorem Sub.mono {p q : List Wr} {u : Wr} (h : Sub p u) (hs : ∀ w ∈ p, w ∈ q) : Sub q u := by
  obtain ⟨w, hw, r⟩ := h
  exact ⟨w, hs w hw, r⟩

theorem piecesF_sub (w : Wr) : ∀ (k a : Nat) (b : Bs), w.off ≤ a → (∀ j x, b[j]? = some x → w.b[a - w.off + j]? = some x) → ∀ u ∈ piecesF k a b, Sub [w] u
  | 0, _, _, _, _, u, hu => by cases hu
  | k + 1, a, b, ha, hb, u, hu => by
    unfold piecesF at hu
    split at hu
    · cases hu
    · rcases List.mem_cons.1 hu with rfl | hu
      · refine ⟨w, by simp, ha, fun j x hx => hb j x ?_⟩
        simp only [List.getElem?_take] at hx
        split at hx
        · exact hx
        · cases hx
      · refine piecesF_sub w k _ _ (by omega) (fun j x hx => ?_) u hu
        rw [List.getElem?_drop] at hx
        have := hb _ _ hx
        rw [show a + min b.length (512 - a % 512) - w.off + j = a - w.off + (min b.length (512 - a % 512) + j) by omega]
        exact this

theorem oddS_sub : ∀ (l : List Wr) (ch : Bs), ∀ u ∈ (oddS l ch).1, Sub l u
  | [], _, u, hu => by cases hu
  | w :: l, ch, u, hu => by
    unfold oddS at hu
    rcases List.mem_append.1 hu with hu | hu
    · have := keepBits_mem _ _ _ _ hu
      exact (piecesF_sub w _ _ _ (Nat.le_refl _) (fun j x hx => by rw [Nat.sub_self, Nat.zero_add]; exact hx) u this).mono (by simp)
    · exact (oddS_sub l _ u hu).mono (fun v hv => by simp [hv])
theorem evenS_sub (l : List Wr) (ch : Bs) : ∀ u ∈ (evenS l ch).1, Sub l u := by
  intro u hu
  unfold evenS at hu
  simp only [] at hu
  rcases List.mem_append.1 hu with hu | hu
  · exact Sub.self (List.mem_of_mem_take hu)
  · split at hu
    · rename_i w hw
      split at hu
      · obtain rfl := List.mem_singleton.1 hu
        refine ⟨w, List.mem_of_getElem? hw, Nat.le_refl _, fun j x hx => ?_⟩
        simp only [List.getElem?_take] at hx
        rw [Nat.sub_self, Nat.zero_add]
        split at hx
        · exact hx
        · cases hx
      · cases hu
    · cases hu
theorem surv_sub (l : List Wr) (ch : Bs) : ∀ u ∈ (surv l ch).1, Sub l u := by
  unfold surv
  split
  · exact evenS_sub l _
  · exact oddS_sub l _

/-- what a restart leaves of a file -/
theorem restart_file (d : Bs) (pend : List Wr) (ch : Bs) (hpos : ∀ w ∈ pend, 0 < w.b.length) : (contents d (surv pend ch).1).length ≤ (contents d pend).length ∧ d.length ≤ (contents d (surv pend ch).1).length ∧
    ∀ k x, (contents d (surv pend ch).1)[k]? = some x → Poss d pend k x := by
  refine ⟨?_, contents_ge _ _, fun k x h => contents_poss d pend k x _ _ rfl (surv_sub pend ch) h⟩
  rw [sizeOf_contents (surv pend ch).1]
  refine within_sizeOf _ _ (contents_ge _ _) (surv_within (fun w hw => ⟨hpos w hw, ?_⟩) ch)
  rw [sizeOf_contents]
  obtain ⟨n, hn, rfl⟩ := List.getElem_of_mem hw
  have h1 := sizeOf_take d.length pend n hn
  have h2 := sizeOf_le d.length pend (n + 1)
  omega

/-- .. of all files -/
theorem restartFs_file : ∀ (fs : List (Bs × Fl)) (ch : Bs) (k : Nat) (n : Bs) (f : Fl), fs[k]? = some (n, f) → (∀ w ∈ f.pend, 0 < w.b.length) → ∃ f', (restartFs fs ch).1[k]? = some (n, f') ∧ f'.contents.length ≤ f.contents.length ∧ f.dur.length ≤ f'.contents.length ∧ ∀ j x, f'.contents[j]? = some x → Poss f.dur f.pend j x
  | [], _, k, _, _, h, _ => by simp at h
  | (m, g) :: r, ch, 0, n, f, h, hp => by
    simp at h
    obtain ⟨rfl, rfl⟩ := h
    rw [restartFs]
    split
    · rename_i h0
      refine ⟨g, rfl, Nat.le_refl _, contents_ge _ _, fun j x hx => .inl ?_⟩
      unfold Fl.contents at hx
      rw [h0] at hx
      exact hx
    · exact ⟨_, rfl, restart_file g.dur g.pend ch hp⟩
  | (m, g) :: r, ch, k + 1, n, f, h, hp => by
    have h' : r[k]? = some (n, f) := by simpa using h
    rw [restartFs]
    split
    · simpa using restartFs_file r ch k n f h' hp
    · simpa using restartFs_file r _ k n f h' hp

end Go.Proofs.YtegahpgnmeobhaaGreatDoor.Dk
