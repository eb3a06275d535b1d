/-
  Arguments: slices of bytes as numbers.
-/
import Derived.WalkKit
import Derived.Lib.Hide
import Derived.OpenShut
namespace Go.Proofs.YthijakidnkhbnaaGreatDoor
open Go.ChangeShapes Go.WideShapes Go.RowKit

/-- a slice of bytes, its numbers -/
def U8At (W : World) (v : Value) (zs : List Nat) : Prop := (zs = [] ∧ ∃ a c, v = .slice a 0 c) ∨ ∃ b off c, v = .slice (some ⟨b, off, none⟩) zs.length c ∧ zs.length ≤ c ∧ c ≤ maxLen ∧ b < W.heap.size ∧ ∀ (i z : Nat), zs[i]? = some z → z < 256 ∧ W.cell? ⟨b, off + i, none⟩ = some (.int .u8 (z : Int))

theorem u8_add (g o j : Nat) : (⟨g, o, none⟩ : Addr).add j = ⟨g, o + j, none⟩ := by
  unfold Addr.add
  split
  · rename_i h; simp_all
  · rfl
theorem u8_of_ints (W : World) (a : Addr) (len cap : Nat) (zs : List Int) (hl : len ≤ cap) (hz : zs.length = cap) (hm : cap ≤ maxLen) (hc : ∀ i, i < cap → W.cell? (a.add i) = some (.int .u8 (zs.getD i 0))) (hw : ∀ n ∈ zs, (Lit.int .u8 n).wf = true) :
    U8At W (.slice (some a) len cap) ((zs.take len).map Int.toNat) := by
  have hlen : ((zs.take len).map Int.toNat).length = len := by rw [List.length_map, List.length_take]; omega
  rcases Nat.eq_zero_or_pos len with h0 | h0
  · subst h0
    exact .inl ⟨List.eq_nil_of_length_eq_zero hlen, _, _, rfl⟩
  · obtain ⟨b, off, spot⟩ := a
    have hspot : spot = none := by simpa [Addr.add] using World.cell?_spot (hc 0 (by omega))
    subst hspot
    have hb : b < W.heap.size := by have := World.block_lt_of_cell? W _ (hc 0 (by omega)); simpa [Addr.add] using this
    refine .inr ⟨b, off, cap, by rw [hlen], by omega, hm, hb, fun i z hi => ?_⟩
    have hi' : i < len := by rw [← hlen]; exact (List.getElem?_eq_some_iff.1 hi).1
    have hiz : i < zs.length := by omega
    have hci := hc i (by omega)
    rw [u8_add] at hci
    rw [List.getElem?_map, List.getElem?_take, if_pos hi', List.getElem?_eq_getElem hiz] at hi
    simp only [Option.map_some, Option.some.injEq] at hi
    have hwz := hw zs[i] (List.getElem_mem hiz)
    have e1 : IntKind.u8.min = 0 := rfl
    have e2 : IntKind.u8.max = 255 := rfl
    simp [Lit.wf, e1, e2] at hwz
    have e3 : zs.getD i 0 = zs[i] := by simp [List.getD, List.getElem?_eq_getElem hiz]
    rw [e3] at hci
    rw [hci, ← hi]
    exact ⟨by omega, by congr 2; omega⟩
end Go.Proofs.YthijakidnkhbnaaGreatDoor
