/-
  (*Store).Sequences.
-/
import Derived.Test.YtamencnachmhoaaGreatDoorCkFiles
namespace Go.Proofs.YtamencnachmhoaaGreatDoor
open Go.RowKit

namespace Ck
def intCells (l : List Nat) : List Value := l.map fun (n : Nat) => Value.int .i64 (n : Int)
def seqsL (D : Dk.D) (l : List (Bs × Nat)) : List Nat := (l.filter fun x => (loadF D x).isSome).map (·.2)
theorem seqsL_snoc {D : Dk.D} {l : List (Bs × Nat)} {k : Nat} {x : Bs × Nat} (h : l[k]? = some x) : seqsL D (l.take (k + 1)) = seqsL D (l.take k) ++ (if (loadF D x).isSome then [x.2] else []) := by
  unfold seqsL
  rw [List.take_add_one, h, List.filter_append, List.map_append]
  congr 1
  cases hn : (loadF D x).isSome <;> simp [hn]
theorem seqsL_length (D : Dk.D) (l : List (Bs × Nat)) : (seqsL D l).length ≤ l.length := by unfold seqsL; rw [List.length_map]; exact List.length_filter_le _ _
theorem seqs_eq (D : Dk.D) (nm : Bs) : seqs D nm = seqsL D (filesF D nm) := rfl
theorem filesF_len {D : Dk.D} {nm : Bs} (hnm : nm.length ≤ 900) : ∀ x ∈ filesF D nm, x.1.length ≤ 1000 := by
  intro x hx
  unfold filesF at hx
  obtain ⟨y, -, hy⟩ := List.mem_filterMap.1 hx
  cases hn : numOf nm y with
  | none => rw [hn] at hy; cases hy
  | some n =>
    rw [hn] at hy
    obtain rfl := Option.some.inj hy
    rw [numOf_iff] at hn
    obtain ⟨q, rfl, h10, -⟩ := hn
    show (nm ++ [45] ++ q ++ ckpt).length ≤ 1000
    rw [List.length_append, List.length_append, List.length_append, h10]
    show nm.length + 1 + 10 + 5 ≤ 1000
    omega
theorem filesF_num {D : Dk.D} {nm : Bs} : ∀ x ∈ filesF D nm, x.2 ≤ 1000000000 := by
  intro x hx
  unfold filesF at hx
  obtain ⟨y, -, hy⟩ := List.mem_filterMap.1 hx
  cases hn : numOf nm y with
  | none => rw [hn] at hy; cases hy
  | some n =>
    rw [hn] at hy
    obtain rfl := Option.some.inj hy
    rw [numOf_iff] at hn
    obtain ⟨q, rfl, h10, -, -, h⟩ := hn
    exact h
end Ck

theorem infoInt : (Tryz.prog.info? 3).map (fun i => (i.zero, i.size, i.bytes)) = some (some (.int .i64 0), 1, 8) := by kernel_rfl

theorem ck_Sequences_nil (W : World) : Calls Tryz.prog 21 #[.pointer none] W fun e W' => e = .returned (.slice none 0 0) ∧ W = W' := by
  go_enter Tryz.func21, Tryz.ntmps21
  go_wp2_with fail
  go_ret
  exact ⟨rfl, rfl⟩

/-- the row of files in memory: what a loop over it reads -/
theorem files_cells {W : World} {B : Nat} {v : Value} {F : List (Ck.Bs × Nat)} (h : W.ownsRow B 113 2 v F.length (Ck.fileCells F)) :
    0 < F.length → ∃ sb cap, v = .slice (some ⟨sb, 0, none⟩) F.length cap ∧ B ≤ sb ∧ sb < W.heap.size ∧ ∀ (k : Nat) (x : Ck.Bs × Nat), F[k]? = some x → W.cell? ⟨sb, k * 2, none⟩ = some (.string ⟨x.1.toArray⟩) ∧ W.cell? ⟨sb, k * 2 + 1, none⟩ = some (.int .i64 x.2) := by
  intro hp
  obtain ⟨sb, cap, h1, h2, h3⟩ := own_formT h hp
  exact ⟨sb, cap, h1, (h.lt sb (by rw [h1]; rfl)).1, h2, fun k x hx => ⟨h3 _ _ (Ck.fileCells_get F k x hx).1, h3 _ _ (Ck.fileCells_get F k x hx).2⟩⟩

set_option maxRecDepth 100000 in
set_option maxHeartbeats 1000000 in
theorem ck_Sequences {i : Nat} {c : Nat → Nat} {W : World} {s g : Nat} {D : Dk.D} {nm : Ck.Bs} (hd : DiskAt i c W g D) (hs : StIs c W s g nm) (hi : i ≠ 0) (hmany : D.fs.length ≤ 1000000) (hnm : nm.length ≤ 900)
    (hx : ∀ x ∈ D.names, x.length ≤ 1000000000) (ht : Ck.Tame nm D.names) (hord : (Ck.filesF D nm).Pairwise fun a b => a.2 < b.2) :
    Calls Tryz.prog 21 #[.pointer (some ⟨s, 0, none⟩)] W fun e W' => ∃ v, e = .returned v ∧ W'.ownsRow W.heap.size 3 1 v (Ck.seqs D nm).length (Ck.intCells (Ck.seqs D nm)) ∧ Below W.heap.size W W' := by
  have n1 := ck_files hd hs hi hmany (by omega) hx ht hord
  have hlen := Ck.filesF_len (D := D) hnm
  have hFL : (Ck.filesF D nm).length ≤ 1000000 := by
    refine Nat.le_trans (List.length_filterMap_le _ _) ?_
    unfold Dk.D.names
    split
    · simp
    · simpa using hmany
  rw [Ck.seqs_eq]
  obtain ⟨F, hF⟩ : ∃ F, F = Ck.filesF D nm := ⟨_, rfl⟩
  rw [← hF] at n1 hlen hFL ⊢
  have HLEN := Lib.hid hlen
  have HD := Lib.hid hd
  have HS := Lib.hid hs
  clear hd hs hx ht hnm hord hF hlen hmany
  go_enter Tryz.func21, Tryz.ntmps21
  go_wp2_with fail
  refine n1.mono ?_
  rintro e W1 ⟨v1, rfl, o1, b1⟩
  have HCELL := Lib.hid (files_cells o1)
  obtain ⟨a1, c1, rfl⟩ := own_slice o1
  have HB1 := Lib.hid b1
  have HD1 := Lib.hid (HD.out.chg (Chg.of_belowSame (i := i + 1) b1) (by omega) (by omega))
  have HS1 := Lib.hid (HS.out.below b1)
  obtain ⟨L, hL⟩ : ∃ L, L = F.length := ⟨_, rfl⟩
  rw [← hL] at hFL HCELL ⊢
  have HL := Lib.hid hL
  clear n1 o1 b1 hL
  go_wp2_with fail
  go_loopw [3, 13] (fun ov kv wr => ∃ k : Nat, kv = .int .i64 k ∧ k ≤ L ∧ Hid (wr.ownsRow W1.heap.size 3 1 ov (Ck.seqsL D (F.take k)).length (Ck.intCells (Ck.seqsL D (F.take k)))) ∧ Hid (Below W1.heap.size W1 wr)) (fun _ kv _ => L - (RowKit.intOf kv).toNat)
  case atStart => exact ⟨0, rfl, Nat.zero_le _, Lib.hid (by rw [List.take_zero]; exact World.ownsRow_nil _ _ _ _), Lib.hid (Below.refl _ _)⟩
  case round =>
    obtain ⟨k, rfl, hk, HO, HB⟩ := hrel
    obtain ⟨oa, oc, rfl⟩ := own_slice HO.out
    by_cases hlt : k < L
    · obtain ⟨x, hxk⟩ : ∃ x, F[k]? = some x := ⟨_, List.getElem?_eq_getElem (by have := HL.out; omega)⟩
      have hx1 := HLEN.out x (List.mem_of_getElem? hxk)
      have HSTEP := Lib.hid (Ck.seqsL_snoc (D := D) hxk)
      obtain ⟨sb, cap, hva, -, hsb, hcl⟩ := HCELL.out (by omega)
      cases hva
      obtain ⟨z0, z1⟩ := hcl k x hxk
      have y0 : wr.cell? ⟨sb, k * 2, none⟩ = some (.string ⟨x.1.toArray⟩) := (HB.out.cell (p := ⟨sb, k * 2, none⟩) hsb).trans z0
      have y1 : wr.cell? ⟨sb, k * 2 + 1, none⟩ = some (.int .i64 x.2) := (HB.out.cell (p := ⟨sb, k * 2 + 1, none⟩) hsb).trans z1
      obtain ⟨xn, xq⟩ := x
      simp only [] at y0 y1 hx1 HSTEP
      obtain ⟨X, hX⟩ : ∃ X : ByteArray, X = ⟨xn.toArray⟩ := ⟨_, rfl⟩
      rw [← hX] at y0
      obtain ⟨wa, hwa⟩ : ∃ wa, wa = wr.alloc (.cells #[.string X, .int .i64 xq] 113) := ⟨_, rfl⟩
      have ba : Below wr.heap.size wr wa := by rw [hwa]; exact (Below.refl _ _).alloc (Nat.le_refl _) _
      have hrow : wa.heap[wr.heap.size]? = some (.cells #[.string X, .int .i64 xq] 113 (0, 0)) := by rw [hwa]; exact heap_alloc_new _ _
      have hBa := HB.out.trans (ba.mono HB.out.size)
      have n2 := ck_load (HD1.out.chg (Chg.of_belowSame (i := i + 1) hBa) (by omega) (by omega)) (HS1.out.below hBa) hi hx1 (n := xq)
      rw [← hX] at n2
      have HBA := Lib.hid ba
      have HWA := Lib.hid hwa
      have HROW := Lib.hid hrow
      have j0 : (k : Int) < (L : Int) := by omega
      have hkF : k < F.length := by have := HL.out; omega
      clear hx1 hcl hX hxk z0 z1 ba hwa hrow hBa
      go_upto_region 7 with fail
      rw [← HWA.out]
      have q0 : wa.cell? ⟨wr.heap.size, 0, none⟩ = some (.string X) := by rw [cell_of_row _ _ _ _ _ _ HROW.out]; rfl
      have q1 : wa.cell? ⟨wr.heap.size, 1, none⟩ = some (.int .i64 xq) := by rw [cell_of_row _ _ _ _ _ _ HROW.out]; rfl
      go_upto_region 8 with (go_at_call 70; refine n2.mono ?_; rintro e w2 ⟨b2, hcase⟩; rcases hcase with ⟨dd, vd, hl, rfl, o2⟩ | ⟨hl, da, dk, dc, rfl⟩)
      · have HB2 := Lib.hid (HBA.out.trans (b2.mono HBA.out.size))
        have r1 : w2.cell? ⟨wr.heap.size, 1, none⟩ = some (.int .i64 xq) := (b2.cell (p := ⟨wr.heap.size, 1, none⟩) (Array.getElem?_eq_some_iff.1 HROW.out).1).trans q1
        have HN0 : Hid (Ck.seqsL D (F.take (k + 1)) = Ck.seqsL D (F.take k) ++ [xq]) := Lib.hid (by rw [HSTEP.out, hl]; rfl)
        obtain ⟨i0, hii, hz0, hz1, hz2⟩ := info_parts infoInt
        have hown2 := own_keep HO.out (fun g hg => HB2.out.block g (HO.out.lt g hg).2)
        have hsz1 : W1.heap.size ≤ w2.heap.size := Nat.le_trans HB.out.size HB2.out.size
        have hsz3 : W1.heap.size ≤ (w2.alloc (.cells #[.int .i64 xq] 3)).heap.size := Nat.le_trans hsz1 ((Below.refl w2.heap.size w2).alloc (Nat.le_refl _) (.cells #[.int .i64 xq] 3)).size
        have hrow3 := heap_alloc_new w2 (.cells #[.int .i64 xq] 3)
        have hnlen := Ck.seqsL_length D (F.take k)
        rw [List.length_take] at hnlen
        obtain ⟨v9, w9, hr9, ho9, hg9, hat9⟩ := wl_append_at (w := w2.alloc (.cells #[.int .i64 xq] 3)) 46 46 3 i0 (.int .i64 0) 1 8 Tryz.underlying46 hii hz0 hz1 hz2 rfl (by decide) W1.heap.size (.slice oa (Ck.seqsL D (F.take k)).length oc) (Ck.seqsL D (F.take k)).length (Ck.intCells (Ck.seqsL D (F.take k)))
          (own_keep hown2 (fun g hg => ((Below.refl w2.heap.size w2).alloc (Nat.le_refl _) _).block g (hown2.lt g hg).2)) (some ⟨w2.heap.size, 0, none⟩) 1 1 [.int .i64 xq] rfl (fun ad ha => by cases ha; exact World.news_of_block hrow3) (fun e => by cases e) (by intro u hu; simp at hu; rcases hu with rfl; rfl) (by unfold maxLen; omega) (by omega) hsz3
        have HN : Hid (w9.ownsRow W1.heap.size 3 1 v9 (Ck.seqsL D (F.take (k + 1))).length (Ck.intCells (Ck.seqsL D (F.take (k + 1))))) := Lib.hid (by
          rw [HN0.out, List.length_append]
          unfold Ck.intCells at ho9 ⊢
          rw [List.map_append]
          exact ho9)
        have HB9 : Hid (Below W1.heap.size W1 w9) := Lib.hid (((HB.out.trans (HB2.out.mono HB.out.size)).alloc hsz1 _).grown hg9 hsz3 (fun g hg => (HO.out.lt g hg).1))
        obtain ⟨va, vk, rfl⟩ := own_slice o2
        obtain ⟨a9, c9, rfl⟩ := own_slice ho9
        clear hsz1 hsz3 hown2 hrow3 hnlen ho9 hg9 hat9 hii hz0 hz1 hz2 o2 b2 hl q0 q1 n2
        go_wp2_with (at_builtin; refine wpList_append_eq rfl _ _ _ rfl _ _ _ _ rfl rfl hr9 ?_)
        refine ⟨⟨k + 1, rfl, by omega, HN, HB9⟩, ?_⟩
        show L - ((k : Int) + 1).toNat < L - ((k : Int)).toNat
        omega
      · have HB2 := Lib.hid (HBA.out.trans (b2.mono HBA.out.size))
        have HN : Hid (w2.ownsRow W1.heap.size 3 1 (.slice oa (Ck.seqsL D (F.take k)).length oc) (Ck.seqsL D (F.take (k + 1))).length (Ck.intCells (Ck.seqsL D (F.take (k + 1))))) := Lib.hid (by
          rw [HSTEP.out, hl]
          simpa using own_keep HO.out (fun g hg => HB2.out.block g (HO.out.lt g hg).2))
        have HB9 := Lib.hid (HB.out.trans (HB2.out.mono HB.out.size))
        clear b2 hl q0 q1 n2
        go_wp2_with fail
        refine ⟨⟨k + 1, rfl, by omega, HN, HB9⟩, ?_⟩
        show L - ((k : Int) + 1).toNat < L - ((k : Int)).toNat
        omega
    · obtain rfl : k = L := by omega
      have HO2 : Hid (wr.ownsRow W1.heap.size 3 1 (.slice oa (Ck.seqsL D (F.take k)).length oc) (Ck.seqsL D F).length (Ck.intCells (Ck.seqsL D F))) := Lib.hid (by
        have h := HO.out
        rw [List.take_of_length_le (by have := HL.out; omega)] at h ⊢
        exact h)
      have hjL : ¬ ((k : Int) < (k : Int)) := by omega
      go_wp2_with fail
      go_ret
      exact ⟨_, rfl, owns_mono HO2.out HB1.out.size, HB1.out.trans (HB.out.mono HB1.out.size)⟩

end Go.Proofs.YtamencnachmhoaaGreatDoor
