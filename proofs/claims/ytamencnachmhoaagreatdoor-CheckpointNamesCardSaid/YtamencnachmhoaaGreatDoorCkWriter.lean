/-
  codec.Writer, as checkpoints use it.
-/
import Derived.Test.YtamencnachmhoaaGreatDoorCkMem
import Derived.Test.YtamencnachmhoaaGreatDoorCkLaws
import Derived.Test.YtamencnachmhoaaGreatDoorDkFile
import Derived.Laws.BitsAllLaws
namespace Go.Proofs.YtamencnachmhoaaGreatDoor
open Go.RowKit

set_option maxRecDepth 100000 in
theorem or128n : ∀ n : Fin 256, n.val ||| 128 = n.val % 128 + 128 := by decide
set_option maxRecDepth 100000 in
theorem and128n : ∀ n : Fin 256, n.val &&& 128 = if n.val < 128 then 0 else 128 := by decide
theorem or128 (n : Fin 256) : bits .or .u8 ((n.val : Nat) : Int) 128 = ((n.val % 128 + 128 : Nat) : Int) := by
  rw [show (128 : Int) = ((128 : Nat) : Int) from rfl, u8_or_nat _ _ n.isLt (by decide), or128n]
theorem and127 (n : Fin 256) : bits .and .u8 ((n.val : Nat) : Int) 127 = ((n.val % 128 : Nat) : Int) := by
  rw [show (127 : Int) = ((127 : Nat) : Int) from rfl, u8_and_nat _ _ n.isLt (by decide), nat_mask7]
theorem and128 (n : Fin 256) : bits .and .u8 ((n.val : Nat) : Int) 128 = ((if n.val < 128 then 0 else 128 : Nat) : Int) := by
  rw [show (128 : Int) = ((128 : Nat) : Int) from rfl, u8_and_nat _ _ n.isLt (by decide), and128n]
theorem wrapU64 {n : Nat} (h : n < 18446744073709551616) : IntKind.u64.wrap (n : Int) = (n : Int) := by simp [IntKind.wrap, IntKind.bits, IntKind.signed]; omega

/-- a writer that has written l; all of it lies at B or above -/
def WrIs (B : Nat) (W : World) (b : Nat) (l : Ck.Bs) : Prop :=
  ∃ v, B ≤ b ∧ W.heap[b]? = some (.cells #[v] 156 (0, 0)) ∧ W.ownsRow B 5 1 v l.length (dkCells l) ∧ v.ownBlock ≠ some b

theorem cd_NewWriter (W : World) : Calls Tryz.prog 37 #[] W fun e W' => ∃ b, e = .returned (.pointer (some ⟨b, 0, none⟩)) ∧ WrIs W.heap.size W' b [] ∧ Below W.heap.size W W' := by
  go_enter Tryz.func37, Tryz.ntmps37
  go_wp2_with fail
  go_ret
  exact ⟨W.heap.size, rfl, ⟨.slice none 0 0, Nat.le_refl _, heap_alloc_new _ _, World.ownsRow_nil _ _ _ _, by simp [Value.ownBlock]⟩, (Below.refl _ _).alloc (Nat.le_refl _) _⟩

/-- bytes are written behind -/
theorem WrIs.more {B : Nat} {W W1 : World} {b : Nat} {l m : Ck.Bs} {v : Value} (hB : B ≤ b) (hrow : W.heap[b]? = some (.cells #[v] 156 (0, 0))) (hown : W.ownsRow B 5 1 v l.length (dkCells l)) (hne : v.ownBlock ≠ some b)
    (hb1 : Below W.heap.size W W1) (hBW : B ≤ W.heap.size) (a2 : Option Addr) (c : Nat) (hm : ∀ ad, a2 = some ad → ∀ j u, (dkCells m)[j]? = some u → W1.cell? (ad.add j) = some u) (h0 : a2 = none → m.length = 0) (hlen : l.length + m.length ≤ 1000000000) :
    ∃ v1 w1, (Builtin.append_ #[22, 22] 22 #[v, .slice a2 m.length c]).run Tryz.prog W1 = .ok v1 w1 ∧ (∃ a cp, v1 = .slice a (l.length + m.length) cp) ∧ w1.cell? ⟨b, 0, none⟩ = some v ∧ w1.frozen? ⟨b, 0, none⟩ = false ∧
      WrIs B (w1.setCell ⟨b, 0, none⟩ v1) b (l ++ m) ∧ Below B W (w1.setCell ⟨b, 0, none⟩ v1) := by
  obtain ⟨i0, hi, hz0, hz1, hz2⟩ := info_parts dk_infoByte
  have hbl := (Array.getElem?_eq_some_iff.1 hrow).1
  have hs1 := hb1.size
  obtain ⟨v1, w1, hr1, ho1, hg1, hat1⟩ := wl_append_at (w := W1) 22 22 5 i0 (.int .u8 0) 1 1 Tryz.underlying22 hi hz0 hz1 hz2 rfl (by decide) B v l.length (dkCells l)
    (own_keep hown (fun g hg => hb1.block g (hown.lt g hg).2)) a2 m.length c (dkCells m) (by simp [dkCells_length]) hm h0 (fun u hu => dkCells_one m u hu) (by unfold maxLen; omega) (by omega) (by omega)
  have r1 : w1.heap[b]? = some (.cells #[v] 156 (0, 0)) := (hg1.block b (by omega) (fun e => hne e.symm)).trans ((hb1.block b hbl).trans hrow)
  have r2 := dk_setCell w1 b 0 _ _ v1 r1
  have g2 := wl_set w1 b 0 v1
  have hne1 : v1.ownBlock ≠ some b := fun e => by
    rcases hat1 with h | h
    · exact hne (h.symm.trans e)
    · rw [h] at e; cases e; omega
  refine ⟨v1, w1, hr1, own_slice ho1, ?_, dk_frozen _ _ _ _ _ r1, ⟨v1, hB, ?_, ?_, hne1⟩, ?_⟩
  · rw [cell_of_row _ _ _ _ _ _ r1]; rfl
  · rw [r2]; simp
  · have h2 : w1.ownsRow B 5 1 v1 (l ++ m).length (dkCells (l ++ m)) := by
      rw [List.length_append, dkCells_append]
      exact ho1
    exact own_keep h2 (fun g hg => g2.block g (ho1.lt g hg).2 (fun e => hne1 (by rw [hg]; exact e)))
  · have hBelow : Below B W w1 := (hb1.mono hBW).grown hg1 (by omega) (fun g hg => (hown.lt g hg).1)
    exact ⟨g2.os.trans hBelow.os, g2.tape.trans hBelow.tape, g2.output.trans hBelow.output, Nat.le_trans hBelow.size g2.size, fun g hg => (g2.block g (by have := hBelow.size; omega) (fun e => by cases e; omega)).trans (hBelow.block g hg)⟩

theorem byte_cells (W : World) (c : UInt8) : ∀ ad, some (⟨W.heap.size, 0, none⟩ : Addr) = some ad → ∀ j u, (dkCells [c])[j]? = some u → (W.alloc (.cells #[.int .u8 c.toNat] 5)).cell? (ad.add j) = some u := fun ad h j u hu => by
  cases h
  have e : dkCells [c] = [Value.int .u8 c.toNat] := rfl
  rw [e] at hu
  rw [dk_add, cell_of_row _ _ _ _ _ _ (heap_alloc_new W _)]
  simpa using hu

set_option maxRecDepth 100000 in
set_option maxHeartbeats 1000000 in
theorem cd_wUint {B : Nat} {W : World} {b : Nat} {l : Ck.Bs} (h : WrIs B W b l) (hBW : B ≤ W.heap.size) (n : Nat) (hn : n < 18446744073709551616) (hl : l.length ≤ 100000000) :
    Calls Tryz.prog 38 #[.pointer (some ⟨b, 0, none⟩), .int .u64 n] W fun e W' => e = .returned (.tuple #[]) ∧ WrIs B W' b (l ++ Ck.uint n) ∧ Below B W W' := by
  have HH := Lib.hid h
  have hn2 : n < 128 ^ 9 * 2 := by
    have : (128 : Nat) ^ 9 * 2 = 18446744073709551616 := by decide
    omega
  clear h
  go_enter Tryz.func38, Tryz.ntmps38
  go_wp2_with fail
  go_loopw [1] (fun xv wr => ∃ (k n' : Nat) (l' : Ck.Bs), xv = .int .u64 n' ∧ Hid (l' ++ Ck.uintF k n' = l ++ Ck.uint n) ∧ Hid (n' < 128 ^ k * 2) ∧ Hid (WrIs B wr b l') ∧ Hid (Below B W wr) ∧ Hid (l'.length + k ≤ 100000009) ∧ Hid (k ≤ 9)) (fun xv _ => (RowKit.intOf xv).toNat)
  case atStart => exact ⟨9, n, l, rfl, Lib.hid rfl, Lib.hid hn2, HH, Lib.hid (Below.refl _ _), Lib.hid (by omega), Lib.hid (Nat.le_refl _)⟩
  case round =>
    obtain ⟨k, n', l', rfl, HE, HN, HWR, HB, HLE, HK⟩ := hrel
    obtain ⟨v, hvB, hrow, hown, hne⟩ := HWR.out
    have y0 : wr.cell? ⟨b, 0, none⟩ = some v := by rw [cell_of_row _ _ _ _ _ _ hrow]; rfl
    have hBr : B ≤ wr.heap.size := by have := HB.out.size; omega
    by_cases hgt : 127 < n'
    · have hgI : (127 : Int) < (n' : Int) := by omega
      have hk : 0 < k := by
        rcases Nat.eq_zero_or_pos k with h0 | h0
        · have := HN.out
          rw [h0] at this
          simp at this
          omega
        · exact h0
      obtain ⟨j, rfl⟩ : ∃ j, k = j + 1 := ⟨k - 1, by omega⟩
      obtain ⟨c, hc⟩ : ∃ c, c = UInt8.ofNat (n' % 128 + 128) := ⟨_, rfl⟩
      have hct : c.toNat = n' % 128 + 128 := by rw [hc]; exact Ck.toNat_of (by omega)
      have hor : bits .or .u8 ((n' : Int) % 256) 128 = (c.toNat : Int) := by
        have := or128 ⟨n' % 256, Nat.mod_lt _ (by decide)⟩
        simp only [] at this
        rw [show ((n' : Int) % 256) = ((n' % 256 : Nat) : Int) from by omega, this, hct]
        congr 1
        omega
      obtain ⟨v1, w1, hr1, ⟨a1, c1, rfl⟩, z0, z1, hw1, hb1⟩ := WrIs.more (m := [c]) hvB hrow hown hne (hb1 := (Below.refl _ _).alloc (Nat.le_refl _) (.cells #[.int .u8 c.toNat] 5)) hBr (some ⟨wr.heap.size, 0, none⟩) 1 (byte_cells wr c) (by intro h; cases h) (by simp; have := HLE.out; omega)
      have HW1 := Lib.hid hw1
      have HB1 := Lib.hid (HB.out.trans hb1)
      have HC := Lib.hid hc
      obtain ⟨m2, hm2⟩ : ∃ m2, m2 = n' / 128 := ⟨_, rfl⟩
      have hmI : (n' : Int) / 128 = (m2 : Int) := by omega
      have HM := Lib.hid hm2
      clear hw1 hb1 hc hct hrow hown hne hm2
      go_wp2_with (at_builtin; refine wpList_append_eq rfl _ _ _ rfl _ _ _ _ rfl rfl hr1 ?_)
      refine ⟨⟨j, m2, l' ++ [c], ?_, Lib.hid ?_, Lib.hid ?_, HW1, HB1, Lib.hid ?_, Lib.hid ?_⟩, ?_⟩
      · first | rfl | go_num
      · have e := HE.out
        rw [Ck.uintF, if_neg (by omega)] at e
        rw [HM.out, HC.out, List.append_assoc]
        exact e
      · have e := HN.out
        rw [HM.out]
        rw [Nat.pow_succ] at e
        have e2 : 128 ^ j * 128 * 2 = (128 ^ j * 2) * 128 := by rw [Nat.mul_assoc, Nat.mul_assoc, Nat.mul_comm 128 2]
        rw [e2] at e
        exact Nat.div_lt_of_lt_mul (by rw [Nat.mul_comm]; exact e)
      · have := HLE.out
        rw [List.length_append, List.length_singleton]
        omega
      · have := HK.out
        omega
      · have := HM.out
        simp [RowKit.intOf]
        omega
    · have hgI : ¬ (127 : Int) < (n' : Int) := by omega
      obtain ⟨c, hc⟩ : ∃ c, c = UInt8.ofNat n' := ⟨_, rfl⟩
      have hct : c.toNat = n' := by rw [hc]; exact Ck.toNat_of (by omega)
      have hcI : (c.toNat : Int) = (n' : Int) := by rw [hct]
      have hfin : l' ++ [c] = l ++ Ck.uint n := by
        have e := HE.out
        rw [← e, hc]
        cases k with
        | zero => rw [Ck.uintF]
        | succ k => rw [Ck.uintF, if_pos (by omega)]
      obtain ⟨v1, w1, hr1, ⟨a1, c1, rfl⟩, z0, z1, hw1, hb1⟩ := WrIs.more (m := [c]) hvB hrow hown hne (hb1 := (Below.refl _ _).alloc (Nat.le_refl _) (.cells #[.int .u8 c.toNat] 5)) hBr (some ⟨wr.heap.size, 0, none⟩) 1 (byte_cells wr c) (by intro h; cases h) (by simp; have := HLE.out; omega)
      rw [hfin] at hw1
      rw [hcI] at hr1
      have HW1 := Lib.hid hw1
      have HB1 := Lib.hid (HB.out.trans hb1)
      clear hw1 hb1 hc hct hrow hown hne hfin hcI
      go_wp2_with (at_builtin; refine wpList_append_eq rfl _ _ _ rfl _ _ _ _ rfl rfl hr1 ?_)
      go_end0
      exact ⟨rfl, HW1.out, HB1.out⟩

theorem RdB.parts {W : World} {B : Nat} {v : Value} {l : Dk.Bs} (h : RdB W B v l) : ∃ a cap, v = .slice a l.length cap ∧ (∀ ad, a = some ad → ∀ j u, (dkCells l)[j]? = some u → W.cell? (ad.add j) = some u) ∧ (a = none → l.length = 0) := by
  rcases h with ⟨rfl, a, cap, rfl⟩ | ⟨g, off, cap, rfl, hc, hg, hgs, hx⟩
  · exact ⟨a, cap, rfl, fun ad _ j u hu => by simp [dkCells, Lib.byteCells] at hu, fun _ => rfl⟩
  · refine ⟨_, cap, rfl, fun ad h j u hu => ?_, fun h => by cases h⟩
    cases h
    obtain ⟨c, h1, rfl⟩ := dkCells_get l j u hu
    rw [dk_add]
    exact hx j c h1

set_option maxRecDepth 100000 in
set_option maxHeartbeats 1000000 in
theorem cd_wBlob {B : Nat} {W : World} {b : Nat} {l : Ck.Bs} (h : WrIs B W b l) (hBW : B ≤ W.heap.size) (bv : Value) (d : Ck.Bs) (hd : RdB W B bv d) (hdl : d.length ≤ 10000000) (hl : l.length ≤ 1000000) :
    Calls Tryz.prog 39 #[.pointer (some ⟨b, 0, none⟩), bv] W fun e W' => e = .returned (.tuple #[]) ∧ WrIs B W' b (l ++ (Ck.uint d.length ++ d)) ∧ Below B W W' := by
  obtain ⟨a0, cap0, rfl⟩ := hd.form
  have n1 := cd_wUint h hBW d.length (by omega) (by omega)
  have hw64 : IntKind.u64.wrap (d.length : Int) = (d.length : Int) := wrapU64 (by omega)
  have hm64 : (d.length : Int) % 18446744073709551616 = (d.length : Int) := by omega
  have HD := Lib.hid hd
  clear h hd
  go_enter Tryz.func39, Tryz.ntmps39
  go_wp2_with fail
  refine n1.mono ?_
  rintro e W1 ⟨rfl, hw1, b1⟩
  obtain ⟨v, hvB, hrow, hown, hne⟩ := hw1
  have y0 : W1.cell? ⟨b, 0, none⟩ = some v := by rw [cell_of_row _ _ _ _ _ _ hrow]; rfl
  obtain ⟨a1, cap1, e1, hc1, hz1⟩ := (HD.out.below b1).parts
  injection e1 with e11 _ e13
  subst e11 e13
  have hul := Ck.uint_length d.length
  obtain ⟨v1, w1, hr1, ⟨a2, c2, rfl⟩, z0, z1, hw2, hb2⟩ := WrIs.more (m := d) hvB hrow hown hne (hb1 := Below.refl W1.heap.size W1) (by have := b1.size; omega) a0 cap0 hc1 hz1 (by rw [List.length_append]; omega)
  rw [List.append_assoc] at hw2
  simp only [List.length_append] at hr1 hw2 hb2
  have HW2 := Lib.hid hw2
  have HB2 := Lib.hid (b1.trans hb2)
  clear n1 hw2 hb2 b1 hrow hown hne hc1 hz1 hw64 hm64 hvB
  go_wp2_with (at_builtin; refine wpList_append_eq rfl _ _ _ rfl _ _ _ _ rfl rfl hr1 ?_)
  go_end0
  exact ⟨rfl, HW2.out, HB2.out⟩

theorem cd_wBytes {B : Nat} {W : World} {b : Nat} {l : Ck.Bs} (h : WrIs B W b l) (hl : l.length ≤ 100000000) :
    Calls Tryz.prog 41 #[.pointer (some ⟨b, 0, none⟩)] W fun e W' => ∃ v, e = .returned v ∧ W'.ownsRow W.heap.size 5 1 v l.length (dkCells l) ∧ Below W.heap.size W W' := by
  obtain ⟨v, hvB, hrow, hown, hne⟩ := h
  have y0 : W.cell? ⟨b, 0, none⟩ = some v := by rw [cell_of_row _ _ _ _ _ _ hrow]; rfl
  have n1 := dk_cloneB v l W (RdB.of_own hown) (by omega)
  clear hrow hown hne
  go_enter Tryz.func41, Tryz.ntmps41
  go_wp2_with fail
  refine n1.mono ?_
  rintro e W1 ⟨v1, rfl, h1, h2⟩
  clear n1
  go_wp2_with fail
  go_ret
  exact ⟨v1, rfl, h1, h2⟩

end Go.Proofs.YtamencnachmhoaaGreatDoor
