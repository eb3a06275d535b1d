/-
  A FILE OF THE DISK: slices.Clone, write.apply, contents, size.
-/
import Derived.Test.YtamencnachmhoaaGreatDoorDkHeap
import Derived.Deep.RegionHeld3
import Derived.Deep.RegionWith
import Derived.Deep.RegionLaw
import Derived.Deep.QuietTactic
import Derived.BigQuiet
import Derived.Outline
import Derived.StillTailTactics
namespace Go.Proofs.YtamencnachmhoaaGreatDoor
open Go.RowKit

set_option maxHeartbeats 1000000 in
theorem dk_cloneB (v : Value) (l : Dk.Bs) (w : World) (h : RdB w w.heap.size v l) (hl : l.length ≤ 1099511627776) :
    Calls Tryz.prog 96 #[v] w fun e w' => ∃ v', e = .returned v' ∧ w'.ownsRow w.heap.size 5 1 v' l.length (dkCells l) ∧ Below w.heap.size w w' := by
  obtain ⟨i0, hi, hz0, hz1, hz2⟩ := info_parts dk_infoByte
  have q22 : ∀ (w : World) (a : Option Addr) (n c n' c' : Nat), (binOp .eql 22 (.slice a n c) (.slice none n' c')).run Tryz.prog w = .ok (.bool a.isNone) w := fun w a n c n' c' => Lib.run_eql_slice_nil w _ _ a n c n' c' Tryz.underlying22
  have main : ∀ (ad : Addr) (c : Nat), (∀ j u, (dkCells l)[j]? = some u → w.cell? (ad.add j) = some u) → Calls Tryz.prog 96 #[.slice (some ad) l.length c] w fun e w' => ∃ v', e = .returned v' ∧ w'.ownsRow w.heap.size 5 1 v' l.length (dkCells l) ∧ Below w.heap.size w w' := by
    intro ad c hc
    have A := Lib.hid hc
    clear hc h
    go_enter Tryz.func96, Tryz.ntmps96
    go_wp2_with (at_builtin; refine wpList_append_own _ rfl _ _ 22 rfl w.heap.size 5 i0 (.int .u8 0) 1 1 Tryz.underlying22 hi hz0 hz1 hz2 rfl (by decide) _ _ _ rfl (World.ownsRow_made w #[] 0 (Nat.le_refl _) (Nat.zero_le _) (by simp)) ad l.length c (dkCells l) rfl ?qc1 ?qc2 ?qc3 ?qc4 ?qc5 ?qc6 ?_)
    case qc1 => simp [dkCells_length]
    case qc2 =>
      intro j u hj
      exact Lib.cell?_alloc_some _ (A.out j u hj)
    case qc3 => exact dkCells_one l
    case qc4 => unfold maxLen; omega
    case qc5 => omega
    case qc6 => simp
    intro v' w1 hown hgrow hnil
    go_wp2
    go_ret
    exact ⟨v', rfl, by simpa using hown, ((Below.refl _ w).alloc (Nat.le_refl _) _).grown hgrow (by simp) (by intro k hk; simp [Value.ownBlock] at hk; omega)⟩
  have nil : ∀ n c : Nat, l = [] → Calls Tryz.prog 96 #[.slice none n c] w fun e w' => ∃ v', e = .returned v' ∧ w'.ownsRow w.heap.size 5 1 v' l.length (dkCells l) ∧ Below w.heap.size w w' := by
    rintro n c rfl
    clear main h
    go_enter Tryz.func96, Tryz.ntmps96
    go_wp2
    go_ret
    exact ⟨_, rfl, World.ownsRow_nil _ _ _ _, Below.refl _ _⟩
  rcases h with ⟨rfl, a, c, rfl⟩ | ⟨g, off, cap, rfl, hc, hg, hs, hx⟩
  · cases a with
    | none => exact nil 0 c rfl
    | some ad => exact main ad c (fun j u hj => by simp [dkCells, Lib.byteCells] at hj)
  · refine main _ cap (fun j u hj => ?_)
    obtain ⟨c, hc1, rfl⟩ := dkCells_get l j u hj
    rw [dk_add]
    exact hx j c hc1

theorem dk_splice_take (cur cs xs : List Value) (off n : Nat) (h1 : off + cs.length ≤ n) (h2 : n ≤ cur.length) (htake : cur.take n = xs) : (splice cur off cs).take n = splice xs off cs := by
  subst htake
  have e : cur = cur.take n ++ cur.drop n := (List.take_append_drop n cur).symm
  unfold splice
  rw [List.take_append, List.take_append, List.length_take, List.take_of_length_le (l := cur.take off) (by simp; omega), List.take_of_length_le (l := cs) (by omega), List.take_take, Nat.min_eq_left (by omega : off ≤ n), List.drop_take, Nat.min_eq_left (by omega : off ≤ cur.length)]
  congr 3
  omega
theorem dk_splice_over (c b : Dk.Bs) (off : Nat) : splice (dkCells (c ++ List.replicate (off + b.length - c.length) 0)) off (dkCells b) = dkCells (Dk.over c off b) := by
  unfold splice Dk.over
  rw [dkCells_append (List.take _ _ ++ _), dkCells_append (List.take _ _), dkCells_length, List.append_assoc]
  simp only [dkCells, Lib.byteCells, List.map_take, List.map_drop]

theorem dk_infoByteSize : (Tryz.prog.info? 5).map (·.size) = some 1 := by kernel_rfl

set_option maxRecDepth 100000 in
set_option maxHeartbeats 2000000 in
/-- the end of apply: the copy -/
theorem dk_apply_has (off : Nat) (b : Dk.Bs) (wb v : Value) (c : Dk.Bs) (B : Nat) (w : World) (hb : RdB w B wb b) (hpos : 0 < b.length) (hown : w.ownsRow B 5 1 v c.length (dkCells c)) (hbd : off + b.length ≤ c.length) (hc : c.length ≤ 1073741824) (hBw : B ≤ w.heap.size) :
    Calls Tryz.prog 131 #[.agg #[.int .i64 off, wb], v] w fun e w' => ∃ v', e = .returned v' ∧ w'.ownsRow B 5 1 v' (Dk.over c off b).length (dkCells (Dk.over c off b)) ∧ Below B w w' := by
  obtain ⟨g, o, cap, rfl, hcap, hg, hgs, hx⟩ : ∃ g off cap, wb = .slice (some ⟨g, off, none⟩) b.length cap ∧ b.length ≤ cap ∧ g < B ∧ g < w.heap.size ∧ ∀ j c, b[j]? = some c → w.cell? ⟨g, off + j, none⟩ = some (.int .u8 c.toNat) := by
    rcases hb with ⟨rfl, _⟩ | hb
    · simp at hpos
    · exact hb
  obtain ⟨g1, cap1, cur, rfl, hB1, hh1, hn1, hcm, hcs, htake⟩ : ∃ g cap cur, v = .slice (some ⟨g, 0, none⟩) c.length cap ∧ B ≤ g ∧ w.heap[g]? = some (.cells cur 5 (0, 0)) ∧ c.length ≤ cap ∧ cap ≤ maxLen ∧ cur.size = cap * 1 ∧ cur.toList.take (c.length * 1) = dkCells c := by
    rcases hown.2 with ⟨_, h0⟩ | h
    · omega
    · exact h
  have HX := Lib.hid hx
  have HO := Lib.hid hh1
  clear hx hh1 hown hb
  unfold maxLen at hcm
  have hfit : ¬ (c.length : Int) < off + b.length := by omega
  have hs1 : ((c.length : Int) - off).toNat = c.length - off := by omega
  go_enter Tryz.func131, Tryz.ntmps131
  go_wp2
  have hab : (w.alloc (.cells #[.int .i64 off, .slice (some ⟨g, o, none⟩) b.length cap] 183)).heap[g1]? = some (.cells cur.toList.toArray 5 (0, 0)) := by
    rw [Below.heap_alloc _ _ _ (Array.getElem?_eq_some_iff.1 HO.out).1, Array.toArray_toList]; exact HO.out
  have hbl : Below B w (w.alloc (.cells #[.int .i64 off, .slice (some ⟨g, o, none⟩) b.length cap] 183)) := (Below.refl _ _).alloc hBw _
  have hn : (dkCells b).length = Nat.min b.length (c.length - off) := by rw [dkCells_length]; exact (Nat.min_eq_left (by omega)).symm
  have hcl : off + (dkCells b).length ≤ cur.toList.length := by have e : cur.toList.length = cur.size := Array.length_toList; rw [dkCells_length, e]; omega
  have hsrc : ∀ j u, (dkCells b)[j]? = some u → (w.alloc (.cells #[.int .i64 off, .slice (some ⟨g, o, none⟩) b.length cap] 183)).cell? ((⟨g, o, none⟩ : Addr).add j) = some u := by
    intro j u hj
    obtain ⟨c', hc1, rfl⟩ := dkCells_get b j u hj
    rw [dk_add]
    exact Lib.cell?_alloc_some _ (HX.out j c' hc1)
  have HN := Lib.hid hn
  have HCL := Lib.hid hcl
  have HSR := Lib.hid hsrc
  have HAB := Lib.hid hab
  clear hn hcl hsrc hab
  have hoff : (off : Int) ≤ c.length := by omega
  have hoff2 : ¬ cap1 = off := by omega
  have hoff3 : (off : Int) ≤ cap1 := by omega
  refine wp_region_still_tail 6 (by kernel_rfl) (by kernel_rfl) ?_
  simp only [List.take_succ_cons, List.take_zero, List.drop_succ_cons, List.drop_zero]
  change wpStill _ _ (World.drew _) _ _ _
  repeat still_step
  refine wpStill_nil ?_
  refine wpList_copy_splice rfl _ _ _ _ rfl 5 Tryz.underlying22 dk_infoByteSize (some ⟨g1, off, none⟩) (some ⟨g, o, none⟩) (c.length - off) (cap1 - off) b.length cap rfl rfl g1 off cur.toList 5 HAB.out (dkCells b) HN.out (fun _ => ⟨rfl, _, rfl, HSR.out⟩) HCL.out (dkCells_one b) B w hbl.drew hB1 ?_
  intro w2 hg2 hb2
  go_wp2
  go_ret
  have HH := hg2.out
  refine ⟨_, rfl, ?_, hb2⟩
  have hlen : (Dk.over c off b).length = c.length := by rw [Dk.over_length]; omega
  have hx0 : dkCells c = dkCells (c ++ List.replicate (off + b.length - c.length) 0) := by rw [show off + b.length - c.length = 0 by omega]; simp
  rw [hlen]
  refine ⟨by rw [dkCells_length]; omega, .inr ⟨g1, cap1, _, rfl, hB1, HH, hn1, by unfold maxLen; omega, ?_, ?_⟩⟩
  · have := length_splice cur.toList off (dkCells b) HCL.out
    have e : cur.toList.length = cur.size := Array.length_toList
    simp only [List.size_toArray]
    omega
  · rw [List.toList_toArray, Nat.mul_one, dk_splice_take cur.toList (dkCells b) (dkCells c) off c.length (by rw [dkCells_length]; omega) (by have e : cur.toList.length = cur.size := Array.length_toList; omega) (by simpa using htake), hx0, dk_splice_over]

set_option maxRecDepth 100000 in
set_option maxHeartbeats 2000000 in
theorem dk_apply_grow (off : Nat) (b : Dk.Bs) (wb v : Value) (c : Dk.Bs) (B : Nat) (w : World) (hb : RdB w B wb b) (hpos : 0 < b.length) (hown : w.ownsRow B 5 1 v c.length (dkCells c)) (hbd : c.length < off + b.length) (hc : off + b.length ≤ 1073741824) (hBw : B ≤ w.heap.size) :
    Calls Tryz.prog 131 #[.agg #[.int .i64 off, wb], v] w fun e w' => ∃ v', e = .returned v' ∧ w'.ownsRow B 5 1 v' (Dk.over c off b).length (dkCells (Dk.over c off b)) ∧ Below B w w' := by
  obtain ⟨g, o, cap, rfl, hcap, hg, hgs, hx⟩ : ∃ g off cap, wb = .slice (some ⟨g, off, none⟩) b.length cap ∧ b.length ≤ cap ∧ g < B ∧ g < w.heap.size ∧ ∀ j c, b[j]? = some c → w.cell? ⟨g, off + j, none⟩ = some (.int .u8 c.toNat) := by
    rcases hb with ⟨rfl, _⟩ | hb
    · simp at hpos
    · exact hb
  obtain ⟨ao, vc, rfl⟩ : ∃ ao vc, v = .slice ao c.length vc := by
    rcases hown.2 with ⟨h1, h0⟩ | ⟨g, cap, cur, h1, _⟩
    · exact ⟨none, 0, by rw [h1, h0]⟩
    · exact ⟨_, _, h1⟩
  obtain ⟨k, hk⟩ : ∃ k, c.length + k = off + b.length := ⟨off + b.length - c.length, by omega⟩
  obtain ⟨g1, cap1, w1, hrun, hown1, hgrow, hat⟩ := dk_append_zeros (w.alloc (.cells #[.int .i64 off, .slice (some ⟨g, o, none⟩) b.length cap] 183)) 22 B (.slice ao c.length vc) c.length (dkCells c) (hown.alloc _) k (by omega) (by omega) (by simp; omega)
  have hvb := hown.lt
  have hB1 : B ≤ g1 := by
    rcases hat with h | h
    · exact (hvb g1 h).1
    · rw [h]; simp; omega
  have hbl : Below B w w1 := ((Below.refl _ _).alloc hBw _).grown hgrow (by simp; omega) (fun j hj => (hvb j hj).1)
  have e0 : w1.heap[w.heap.size]? = some (.cells #[.int .i64 off, .slice (some ⟨g, o, none⟩) b.length cap] 183 (0, 0)) := by
    rw [hgrow.block w.heap.size (by simp) (fun e => by have := (hvb _ e.symm).2; omega)]
    exact heap_alloc_new w _
  have d0 : w1.cell? ⟨w.heap.size, 0, none⟩ = some (.int .i64 off) := by rw [cell_of_row w1 _ _ _ _ _ e0]; rfl
  have d1 : w1.cell? ⟨w.heap.size, 1, none⟩ = some (.slice (some ⟨g, o, none⟩) b.length cap) := by rw [cell_of_row w1 _ _ _ _ _ e0]; rfl
  obtain ⟨cap1', cur, hcc, hh1, hn1, hcm, hcs, htake⟩ : ∃ cap' cur, cap1 = cap' ∧ w1.heap[g1]? = some (.cells cur 5 (0, 0)) ∧ c.length + k ≤ cap' ∧ cap' ≤ maxLen ∧ cur.size = cap' * 1 ∧ cur.toList.take ((c.length + k) * 1) = dkCells c ++ List.replicate k (.int .u8 0) := by
    rcases hown1.2 with ⟨h0, _⟩ | ⟨g', cap', cur, hv, _, h1, h2, h3, h4, h5⟩
    · cases h0
    · cases hv
      exact ⟨_, cur, rfl, h1, h2, h3, h4, h5⟩
  subst hcc
  have hab : w1.heap[g1]? = some (.cells cur.toList.toArray 5 (0, 0)) := by rw [Array.toArray_toList]; exact hh1
  have hn : (dkCells b).length = Nat.min b.length (c.length + k - off) := by rw [dkCells_length]; exact (Nat.min_eq_left (by omega)).symm
  unfold maxLen at hcm
  have hcl : off + (dkCells b).length ≤ cur.toList.length := by have e : cur.toList.length = cur.size := Array.length_toList; rw [dkCells_length, e]; omega
  have hsrc : ∀ j u, (dkCells b)[j]? = some u → w1.cell? ((⟨g, o, none⟩ : Addr).add j) = some u := by
    intro j u hj
    obtain ⟨c', hc1, rfl⟩ := dkCells_get b j u hj
    rw [dk_add]
    exact (hbl.cell (p := ⟨g, o + j, none⟩) hg).trans (hx j c' hc1)
  have HN := Lib.hid hn
  have HCL := Lib.hid hcl
  have HSR := Lib.hid hsrc
  have HAB := Lib.hid hab
  have HK := Lib.hid hk
  have ek : ((k : Nat) : Int) = (off : Int) + (b.length : Int) - (c.length : Int) := by omega
  rw [ek] at hrun
  have hfit : (c.length : Int) < off + b.length := by omega
  have hs1 : ((c.length : Int) + k - off).toNat = c.length + k - off := by omega
  have hoff2 : ¬ cap1 = off := by omega
  have hoff3 : (off : Int) ≤ cap1 := by omega
  have hoff4 : (off : Int) ≤ (c.length : Int) + k := by omega
  clear hown hown1 hx hn hcl hsrc hab hb hgrow hat hh1 e0 hk ek hvb
  go_enter Tryz.func131, Tryz.ntmps131
  go_wp2_with (at_builtin; refine Lib.wpList_append_run _ rfl _ _ _ _ rfl _ _ rfl rfl _ _ hrun ?_)
  refine wp_region_still_tail 6 (by kernel_rfl) (by kernel_rfl) ?_
  simp only [List.take_succ_cons, List.take_zero, List.drop_succ_cons, List.drop_zero]
  change wpStill _ _ (World.drew _) _ _ _
  repeat still_step
  refine wpStill_nil ?_
  refine wpList_copy_splice rfl _ _ _ _ rfl 5 Tryz.underlying22 dk_infoByteSize (some ⟨g1, off, none⟩) (some ⟨g, o, none⟩) (c.length + k - off) (cap1 - off) b.length cap rfl rfl g1 off cur.toList 5 HAB.out (dkCells b) HN.out (fun _ => ⟨rfl, _, rfl, HSR.out⟩) HCL.out (dkCells_one b) B w hbl.drew hB1 ?_
  intro w2 hg2 hb2
  go_wp2
  go_ret
  have HH := hg2.out
  refine ⟨_, rfl, ?_, hb2⟩
  have hlen : (Dk.over c off b).length = c.length + k := by have := HK.out; rw [Dk.over_length]; omega
  have hx0 : dkCells c ++ List.replicate k (Value.int .u8 0) = dkCells (c ++ List.replicate (off + b.length - c.length) 0) := by rw [show off + b.length - c.length = k by have := HK.out; omega, dkCells_append, dkCells_zeros]
  rw [hlen]
  refine ⟨by rw [dkCells_length]; omega, .inr ⟨g1, cap1, _, rfl, hB1, HH, hn1, by unfold maxLen; omega, ?_, ?_⟩⟩
  · have := length_splice cur.toList off (dkCells b) HCL.out
    have e : cur.toList.length = cur.size := Array.length_toList
    simp only [List.size_toArray]
    omega
  · rw [List.toList_toArray, Nat.mul_one, dk_splice_take cur.toList (dkCells b) (dkCells c ++ List.replicate k (Value.int .u8 0)) off (c.length + k) (by have := HK.out; rw [dkCells_length]; omega) (by have e : cur.toList.length = cur.size := Array.length_toList; omega) (by simpa using htake), hx0, dk_splice_over]

theorem dk_apply (off : Nat) (b : Dk.Bs) (wb v : Value) (c : Dk.Bs) (B : Nat) (w : World) (hb : RdB w B wb b) (hpos : 0 < b.length) (hown : w.ownsRow B 5 1 v c.length (dkCells c)) (hc : max c.length (off + b.length) ≤ 1073741824) (hBw : B ≤ w.heap.size) :
    Calls Tryz.prog 131 #[.agg #[.int .i64 off, wb], v] w fun e w' => ∃ v', e = .returned v' ∧ w'.ownsRow B 5 1 v' (Dk.over c off b).length (dkCells (Dk.over c off b)) ∧ Below B w w' := by
  by_cases h : c.length < off + b.length
  · exact dk_apply_grow off b wb v c B w hb hpos hown h (by omega) hBw
  · exact dk_apply_has off b wb v c B w hb hpos hown (by omega) (by omega) hBw

/-- pending writes that are read: each in a block below B -/
def PendRd (W : World) (B : Nat) (pv : Value) (l : List Dk.Wr) : Prop :=
  ∃ ao cap, pv = .slice ao l.length cap ∧ l.length ≤ 4398046511103 ∧ ∀ k (h : k < l.length), ∃ g v, ao = some ⟨g, 0, none⟩ ∧ g < B ∧ W.cell? ⟨g, k * 2, none⟩ = some (.int .i64 l[k].off) ∧ W.cell? ⟨g, k * 2 + 1, none⟩ = some v ∧ RdB W B v l[k].b ∧ 0 < l[k].b.length ∧ l[k].off + l[k].b.length ≤ 1073741824

theorem PendRd.below {W W' : World} {B : Nat} {v : Value} {l : List Dk.Wr} (h : PendRd W B v l) (hb : Below B W W') : PendRd W' B v l := by
  obtain ⟨ao, cap, hv, hl, hx⟩ := h
  refine ⟨ao, cap, hv, hl, fun k hk => ?_⟩
  obtain ⟨g, v, h1, h2, h3, h4, h5, h6⟩ := hx k hk
  exact ⟨g, v, h1, h2, (hb.cell (p := ⟨g, k * 2, none⟩) h2).trans h3, (hb.cell (p := ⟨g, k * 2 + 1, none⟩) h2).trans h4, h5.below hb, h6⟩

set_option maxRecDepth 100000 in
set_option maxHeartbeats 2000000 in
theorem dk_contents (fg : Nat) (dv pv : Value) (d : Dk.Bs) (l : List Dk.Wr) (w : World) (hf : w.heap[fg]? = some (.cells #[dv, pv] 131 (0, 0))) (hd : RdB w w.heap.size dv d) (hp : PendRd w w.heap.size pv l) (hbd : (Dk.contents d l).length ≤ 1073741824) :
    Calls Tryz.prog 76 #[.pointer (some ⟨fg, 0, none⟩)] w fun e w' => ∃ v', e = .returned v' ∧ w'.ownsRow w.heap.size 5 1 v' (Dk.contents d l).length (dkCells (Dk.contents d l)) ∧ Below w.heap.size w w' := by
  have hfs : fg < w.heap.size := (Array.getElem?_eq_some_iff.1 hf).1
  have c0 : w.cell? ⟨fg, 0, none⟩ = some dv := by rw [cell_of_row w _ _ _ _ _ hf]; rfl
  have c1 : w.cell? ⟨fg, 1, none⟩ = some pv := by rw [cell_of_row w _ _ _ _ _ hf]; rfl
  have hsz : ∀ k, (Dk.contents d (l.take k)).length ≤ 1073741824 := fun k => by
    have := Dk.sizeOf_le d.length l k
    rw [← Dk.sizeOf_contents, ← Dk.sizeOf_contents] at this
    omega
  have HD := Lib.hid hd
  have hd0 := hsz 0
  rw [List.take_zero, Dk.contents_nil] at hd0
  have HS := Lib.hid hsz
  obtain ⟨ao, cap, rfl, hl, hx⟩ := hp
  have HX := Lib.hid hx
  clear hsz hd hx hf
  go_enter Tryz.func76, Tryz.ntmps76
  go_wp2_with fail
  refine (dk_cloneB dv d w HD.out (by omega)).mono ?_
  rintro e w1 ⟨v1, rfl, hown1, hb1⟩
  have d1 := (hb1.cell (p := ⟨fg, 1, none⟩) hfs).trans c1
  clear c0 c1
  go_wp2_with fail
  go_loopw [3, 16] (fun v i wr => ∃ k : Nat, k ≤ l.length ∧ i = .int .i64 k ∧ wr.ownsRow w.heap.size 5 1 v (Dk.contents d (l.take k)).length (dkCells (Dk.contents d (l.take k))) ∧ Below w.heap.size w wr) (fun _ i _ => l.length - (RowKit.intOf i).toNat)
  case atStart => exact ⟨0, Nat.zero_le _, rfl, hown1, hb1⟩
  case round =>
    obtain ⟨k, hk, rfl, hown, hbel⟩ := hrel
    clear hown1 d1
    by_cases hlt : k < l.length
    · obtain ⟨g, v, rfl, hg, e0, e1, hrd, hpos, hbb⟩ := HX.out k hlt
      obtain ⟨va, vc, rfl⟩ := hrd.form
      have e0' := (hbel.cell (p := ⟨g, k * 2, none⟩) hg).trans e0
      have e1' := (hbel.cell (p := ⟨g, k * 2 + 1, none⟩) hg).trans e1
      have hap := fun W vv (hW : Below w.heap.size w W) (ho : W.ownsRow w.heap.size 5 1 vv (Dk.contents d (l.take k)).length (dkCells (Dk.contents d (l.take k)))) => dk_apply l[k].off l[k].b (.slice va l[k].b.length vc) vv (Dk.contents d (l.take k)) w.heap.size W (hrd.below hW) hpos ho (by have := HS.out k; omega) hW.size
      have HT := Lib.hid (Dk.contents_take d l k hlt)
      have HAP := Lib.hid hap
      have HO := Lib.hid hown
      clear e0 e1 hap hown HX HD HS
      go_wp2_with fail
      refine (HAP.out _ _ (hbel.alloc hbel.size _) (HO.out.alloc _)).mono ?_
      rintro e w2 ⟨v2, rfl, hown2, hb2⟩
      have hbel2 := (hbel.alloc hbel.size (.cells #[.int .i64 l[k].off, .slice va l[k].b.length vc] 183)).trans hb2
      clear hb2
      go_wp2_with fail
      go_roundw
      case rel => exact ⟨k + 1, by omega, by go_num, by rw [HT.out]; exact hown2, hbel2⟩
      case measure => simp [RowKit.intOf]; omega
    · obtain rfl : k = l.length := by omega
      rw [List.take_length] at hown
      go_wp2_with fail
      go_ret
      exact ⟨_, rfl, hown, hbel⟩

end Go.Proofs.YtamencnachmhoaaGreatDoor
