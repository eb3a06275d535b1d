/-
  files' sort: a row that is sorted already stays as it is.
-/
import Derived.Shelf.SlSortCmp.NoneTotal
import Derived.Shelf.SlicesG.Cmp
import Derived.Sort.AssemblyPlain
import Derived.Test.YtamencnachmhoaaGreatDoorSortLaid
import Derived.Test.YtamencnachmhoaaGreatDoorCkParses
import Derived.Test.YtamencnachmhoaaGreatDoorCkMem
namespace Go.Proofs.YtamencnachmhoaaGreatDoor
open Go.RowKit

namespace Ck
def fenc (x : Bs × Nat) : List Value := [.string ⟨x.1.toArray⟩, .int .i64 (x.2 : Int)]
def fileCells (l : List (Bs × Nat)) : List Value := l.flatMap fun x => [.string ⟨x.1.toArray⟩, .int .i64 x.2]
theorem fileCells_length (l : List (Bs × Nat)) : (fileCells l).length = l.length * 2 := by
  induction l with
  | nil => rfl
  | cons a l ih =>
    have : (fileCells (a :: l)).length = 2 + (fileCells l).length := by
      unfold fileCells
      rw [List.flatMap_cons, List.length_append]
      rfl
    rw [this, ih, List.length_cons]
    omega
theorem fileCells_append (l m : List (Bs × Nat)) : fileCells (l ++ m) = fileCells l ++ fileCells m := List.flatMap_append
theorem fileCells_cons (a : Bs × Nat) (l : List (Bs × Nat)) : fileCells (a :: l) = Value.string ⟨a.1.toArray⟩ :: .int .i64 a.2 :: fileCells l := rfl
theorem fileCells_get : ∀ (l : List (Bs × Nat)) (k : Nat) (x : Bs × Nat), l[k]? = some x → (fileCells l)[k * 2]? = some (.string ⟨x.1.toArray⟩) ∧ (fileCells l)[k * 2 + 1]? = some (.int .i64 x.2)
  | [], _, _, h => by simp at h
  | a :: l, 0, x, h => by
    obtain rfl : a = x := by simpa using h
    exact ⟨rfl, rfl⟩
  | a :: l, k + 1, x, h => by
    have := fileCells_get l k x (by simpa using h)
    rw [fileCells_cons, show (k + 1) * 2 = k * 2 + 1 + 1 from by omega, show k * 2 + 1 + 1 + 1 = (k * 2 + 1) + 1 + 1 from rfl]
    simpa using this
theorem fileCells_at (l : List (Bs × Nat)) (t : Nat) (h : t < l.length * 2) : (fileCells l)[t]? = some (fenc (l.toArray[t / 2]!))[t % 2]! := by
  have hk : t / 2 < l.length := by omega
  have hg := fileCells_get l (t / 2) l[t / 2] (List.getElem?_eq_getElem hk)
  have e : l.toArray[t / 2]! = l[t / 2] := by rw [getElem!_pos l.toArray (t / 2) (by simpa using hk)]; simp
  rw [e]
  rcases Nat.mod_two_eq_zero_or_one t with h2 | h2
  · have ht : t = t / 2 * 2 := by omega
    rw [h2]
    conv => lhs; rw [ht]
    exact hg.1
  · have ht : t = t / 2 * 2 + 1 := by omega
    rw [h2]
    conv => lhs; rw [ht]
    exact hg.2
theorem ltf (x y : Bs × Nat) : ltOf (fun x y : Bs × Nat => Lib.compareInt x.2 y.2) x y = decide (x.2 < y.2) := by
  unfold ltOf Lib.compareInt
  by_cases h1 : x.2 < y.2
  · simp [h1]
  · by_cases h2 : y.2 < x.2 <;> simp [h1, h2]
theorem swof : Sort.SWO (ltOf fun x y : Bs × Nat => Lib.compareInt x.2 y.2) where
  irrefl x := by rw [ltf]; simp
  trans x y z h1 h2 := by rw [ltf] at *; simp at *; omega
  ntrans x y z h1 h2 := by rw [ltf] at *; simp at *; omega
theorem sorted_stays {l : List (Bs × Nat)} {d' : Array (Bs × Nat)} (hl : l.Pairwise fun a b => a.2 < b.2) (hp : Sort.PermIn 0 l.toArray.size l.toArray d')
    (hs : Sort.SortedIn (ltOf fun x y : Bs × Nat => Lib.compareInt x.2 y.2) 0 l.toArray.size d') : d' = l.toArray := by
  obtain ⟨hsz, _, hperm⟩ := hp
  have e1 : d'.extract 0 l.toArray.size = d' := by rw [← hsz]; exact Array.extract_size
  rw [e1, Array.extract_size] at hperm
  have hd : d'.toList.Pairwise fun a b => a.2 ≤ b.2 := by
    rw [List.pairwise_iff_getElem]
    intro i j hi hj hij
    have hi' : i < d'.size := by simpa using hi
    have hj' : j < d'.size := by simpa using hj
    have := hs i j (Nat.zero_le _) hij (by omega)
    rw [getElem!_pos d' j hj', getElem!_pos d' i hi', ltf] at this
    simpa using this
  have hinj : ∀ a ∈ l, ∀ b ∈ l, a.2 = b.2 → a = b := by
    intro a ha b hb e
    obtain ⟨i, hi, rfl⟩ := List.getElem_of_mem ha
    obtain ⟨j, hj, rfl⟩ := List.getElem_of_mem hb
    rw [List.pairwise_iff_getElem] at hl
    rcases Nat.lt_trichotomy i j with h | h | h
    · have := hl i j hi hj h; omega
    · subst h; rfl
    · have := hl j i hj hi h; omega
  have := List.Perm.eq_of_pairwise (le := fun a b : Bs × Nat => a.2 ≤ b.2) (l₁ := d'.toList) (l₂ := l) (fun a b ha hb h1 h2 => hinj a (hperm.mem_iff.1 ha) b hb (by omega)) hd (hl.imp fun h => by omega) hperm
  rw [← this]
end Ck

theorem ck_cmpfile (x y : Ck.Bs × Nat) (W : World) : Calls Tryz.prog 125 #[.agg #[.string ⟨x.1.toArray⟩, .int .i64 (x.2 : Int)], .agg #[.string ⟨y.1.toArray⟩, .int .i64 (y.2 : Int)]] W fun e w' =>
    e = .returned (.int .i64 (Lib.compareInt x.2 y.2)) ∧ ∃ q os', w' = Sort.grow (W.drewN q) os' := by
  have hcon := fun W' => AnyG.cmp_Compare_int Tryz.cmpInt (x.2 : Int) (y.2 : Int) W'
  change ∀ W', Calls Tryz.prog 126 _ _ _ at hcon
  generalize Lib.compareInt (x.2 : Int) (y.2 : Int) = r at hcon ⊢
  go_enter Tryz.func125, Tryz.ntmps125
  go_wp2_with (go_at_call 126; refine (hcon _).mono ?_; rintro e w' ⟨rfl, rfl⟩)
  go_ret
  exact ⟨rfl, 0, _, by rw [Sort.alloc_eq_grow, Sort.alloc_eq_grow, Sort.grow_grow]; rfl⟩

theorem ck_sort {w : World} {v : Value} {B : Nat} {l : List (Ck.Bs × Nat)} (ho : w.ownsRow B 113 2 v l.length (Ck.fileCells l)) (hl : l.Pairwise fun a b => a.2 < b.2) (hn : l.length < 4611686018427387904) :
    Calls Tryz.prog 124 #[v, .func (.func 125) #[] #[]] w fun e w' =>
      e = .returned (.tuple #[]) ∧ w'.ownsRow B 113 2 v l.length (Ck.fileCells l) ∧ Below w.heap.size w w' := by
  by_cases h0 : l = []
  · subst h0
    obtain ⟨a, c, rfl⟩ := own_slice ho
    have hcon := AnyF.slices_SortFunc_none Tryz.sortFile a c (.func (.func 125) #[] #[]) w
    change Calls Tryz.prog 124 _ _ _ at hcon
    refine hcon.mono ?_
    rintro e w' ⟨rfl, rfl⟩
    exact ⟨rfl, ho, Below.refl _ _⟩
  · have hpos : 0 < l.length := List.length_pos_iff.2 h0
    obtain ⟨hlen, ⟨_, hz⟩ | ⟨g, cap, cur, hv, hB, hh, hnc, hcap, hcur, htake⟩⟩ := ho
    · omega
    · subst hv
      have hblk : g < w.heap.size := (Array.getElem?_eq_some_iff.1 hh).1
      have eg : ∀ args w, (callFunc 125 args).run Tryz.prog w = .ok (.enter 125 args) w := enters_of Tryz.func125 (by kernel_rfl) rfl
      have hH : Sort.HoldsK Ck.fenc 2 w g 0 l.toArray := by
        intro j hj
        rw [Sort.size_flatK] at hj
        rw [Sort.get_flatK _ _ _ _ hj]
        have hj2 : j < l.length * 2 := by simpa using hj
        have hc := Ck.fileCells_at l j hj2
        refine ⟨?_, ?_⟩
        · rw [Nat.zero_add, cell_of_row _ _ _ _ _ _ hh]
          rw [← htake, List.getElem?_take_of_lt (by omega)] at hc
          simpa using hc
        · rw [Nat.zero_add]
          simp [World.frozen?, hh]
      have hcon := AnyQ.slices_SortFunc Tryz.sortFile 2 Tryz.isAgg113 Tryz.sizeOf113 Ck.fenc (fun _ => rfl) (fun x v hv => by simp [Ck.fenc] at hv; rcases hv with rfl | rfl <;> rfl) (fun x y => Lib.compareInt x.2 y.2) Ck.swof 125 #[] g 0 cap l.toArray w eg (fun _ _ _ _ x y => ck_cmpfile x y _) hH hblk (by simpa using hn)
      change Calls Tryz.prog 124 _ _ _ at hcon
      rw [show l.toArray.size = l.length from List.size_toArray] at hcon
      refine hcon.mono ?_
      rintro e w' ⟨rfl, d', n, os, hp, hs, rfl⟩
      have hd := Ck.sorted_stays hl (by simpa using hp) (by simpa using hs)
      subst hd
      have hself : Sort.putRowK Ck.fenc 2 (Sort.ahead w n) g 0 l.toArray = Sort.ahead w n := Sort.putRow_self _ _ _ _ _ hH
      unfold sortWorldK
      rw [hself]
      have hbl : Below w.heap.size w (Sort.grow (Sort.ahead w n) os) := ⟨rfl, rfl, rfl, by rw [Sort.size_grow]; exact Nat.le_add_right _ _, fun k hk => Sort.heap_grow_old (Sort.ahead w n) os hk⟩
      refine ⟨rfl, ?_, hbl⟩
      refine own_keep (W := w) ⟨hlen, .inr ⟨g, cap, cur, rfl, hB, hh, hnc, hcap, hcur, htake⟩⟩ (fun g' hg' => ?_)
      obtain rfl : g = g' := by simpa [Value.ownBlock] using hg'
      exact hbl.block g hblk

end Go.Proofs.YtamencnachmhoaaGreatDoor
