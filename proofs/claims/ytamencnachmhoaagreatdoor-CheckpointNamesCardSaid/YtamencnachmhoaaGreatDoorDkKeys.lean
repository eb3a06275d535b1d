/-
  The sorted names of a disk's files.
-/
import Derived.Test.YtamencnachmhoaaGreatDoorDkSurv2
import Derived.Test.YtamencnachmhoaaGreatDoorIter
namespace Go.Proofs.YtamencnachmhoaaGreatDoor
open Go.RowKit

theorem bytesBefore_lt : ∀ (a b : List UInt8), bytesBefore a b = true ↔ a < b
  | [], [] => by simp [bytesBefore]
  | [], _ :: _ => by simp [bytesBefore]
  | _ :: _, [] => by simp [bytesBefore]
  | x :: a, y :: b => by
    rw [List.cons_lt_cons_iff, ← bytesBefore_lt a b]
    simp [bytesBefore]
theorem not_lt_of_before {a b : List UInt8} (h : bytesBefore a b = true) : a ≤ b := by
  rw [List.le_iff_lt_or_eq]
  exact Or.inl ((bytesBefore_lt a b).1 h)
theorem before_of_le {a b : List UInt8} (h : a ≤ b) (hne : a ≠ b) : bytesBefore a b = true := by
  rw [List.le_iff_lt_or_eq] at h
  rcases h with h | h
  · exact (bytesBefore_lt a b).2 h
  · exact absurd h hne

/-- sorting a rearrangement of a rising list gives the list -/
theorem sorted_names {ss names : List (List UInt8)} (hp : ss.Perm names) (hr : names.Pairwise (fun a b => bytesBefore a b = true)) : ss.mergeSort (fun x y => decide (x ≤ y)) = names := by
  have hnd : names.Pairwise (fun a b => a ≠ b) := hr.imp (fun {a b} h e => by rw [e, bytesBefore_irrefl] at h; cases h)
  have hperm : (ss.mergeSort (fun x y => decide (x ≤ y))).Perm names := (List.mergeSort_perm ss _).trans hp
  have hnd2 : (ss.mergeSort (fun x y => decide (x ≤ y))).Pairwise (fun a b => a ≠ b) := (hperm.symm.pairwise_iff (fun {a b} h => Ne.symm h)).1 hnd
  have hs : (ss.mergeSort (fun x y => decide (x ≤ y))).Pairwise (fun a b => decide (a ≤ b) = true) := List.pairwise_mergeSort (fun a b c h1 h2 => by simp at *; exact List.le_trans h1 h2) (fun a b => by simp; exact List.le_total a b) ss
  refine eq_of_rising (f := id) ?_ hr (fun p => hperm.mem_iff)
  exact (hs.and hnd2).imp (fun {a b} h => before_of_le (by simpa using h.1) h.2)

theorem dk_keys (W : World) (m : Nat) : Calls Tryz.prog 73 #[.map (some m)] W fun e w' => e = .returned (.func (.func 129) #[] #[.pointer (some ⟨W.heap.size, 0, none⟩)]) ∧ w' = W.alloc (.cells #[.map (some m)] 98) :=
  (callsIn_wide (n := 5)).1 (Tryz.maps_Keys_73 (some m) W)

/-- the names of these files, as cells -/
def nmCells (xs : List Fe) : List Value := xs.map fun x => .string ⟨x.nm.toArray⟩

theorem dk_sorted {i : Nat} {c : Nat → Nat} {W : World} {g : Nat} {D : Dk.D} {m : Nat} {xs : List Fe} (h : DiskIs i c W g D m xs) (hxs : xs.length ≤ 1073741824) :
    Calls Tryz.prog 72 #[.func (.func 129) #[] #[.pointer (some ⟨W.heap.size, 0, none⟩)]] (W.alloc (.cells #[.map (some m)] 98)) fun e w' => ∃ v, e = .returned v ∧
      w'.ownsRow (W.heap.size + 1) 9 1 v xs.length (nmCells xs) ∧ Below W.heap.size W w' := by
  have hs := (callsIn_wide (n := 5)).1 (Tryz.slices_Sorted_keys_72_73 m xs.length _ ptrElem W h.map (by simp [Maps.size, maxLen]; omega) (by simp [Maps.size]; omega))
  refine hs.mono ?_
  rintro e w' ⟨v, ss, rfl, hperm, hown, _, hb⟩
  have hk : strKeys (DataW.map (xs.map Fe.key)) = xs.map Fe.nm := by
    simp [strKeys, Fe.key, strOf]
  rw [hk] at hperm
  have hsn := sorted_names hperm (by rw [List.pairwise_map]; exact h.rising)
  rw [hsn] at hown
  have hl : ss.length = xs.length := by rw [hperm.length_eq]; simp
  refine ⟨v, rfl, ?_, ((Below.refl _ W).alloc (Nat.le_refl _) _).trans (hb.mono (by simp))⟩
  rw [hl] at hown
  simp only [World.size_alloc] at hown
  have he : (xs.map Fe.nm).map encStr = nmCells xs := by
    unfold nmCells
    rw [List.map_map]
    rfl
  rw [he] at hown
  exact hown

end Go.Proofs.YtamencnachmhoaaGreatDoor
