/-
  THE REFERENCE: apply, Contents.
-/
import Derived.Test.YtamencnachmhoaaGreatDoorRfHeap
import Derived.Deep.RegionWith
import Derived.Deep.QuietTactic
import Derived.BigQuiet
import Derived.Outline
import Derived.StillTailTactics
namespace Go.Proofs.YtamencnachmhoaaGreatDoor
open Go.RowKit

theorem rf_own_form {w : World} {B : Nat} {t : TypeId} {sz : Nat} {v : Value} {n : Nat} {xs : List Value} (h : w.ownsRow B t sz v n xs) : ∃ a cap, v = .slice a n cap := by
  rcases h.2 with ⟨rfl, rfl⟩ | ⟨g, cap, cur, hv, _⟩
  · exact ⟨_, _, rfl⟩
  · exact ⟨_, _, hv⟩
theorem dk_cellLt {l : Dk.Bs} {k : Nat} (h : k < l.length) : ((l[k].toNat : Nat) : Int) < 256 := by have := l[k].toNat_lt; omega

/-- 'append([]byte{}, v...)': a fresh row -/
theorem rf_copyB {W : World} {v : Value} {l : Dk.Bs} (h : RdB W W.heap.size v l) (hl : l.length ≤ 1099511627776) (ty : TypeId) : ∃ v' w', (Builtin.append_ #[22, 22] ty #[.slice (some ⟨W.heap.size, 0, none⟩) 0 0, v]).run Tryz.prog (W.alloc (.cells #[] 5)) = .ok v' w' ∧
    w'.ownsRow W.heap.size 5 1 v' l.length (dkCells l) ∧ Below W.heap.size W w' := by
  obtain ⟨i0, hi, hz0, hz1, hz2⟩ := info_parts dk_infoByte
  obtain ⟨a, c, rfl, h0, hs⟩ := h.source
  have bA : Below W.heap.size W (W.alloc (.cells #[] 5)) := (Below.refl _ _).alloc (Nat.le_refl _) _
  obtain ⟨v', w', hr, ho, hg⟩ := rf_append (w := W.alloc (.cells #[] 5)) 22 ty 5 i0 (.int .u8 0) 1 1 Tryz.underlying22 hi hz0 hz1 hz2 rfl (by decide) W.heap.size _ 0 [] (World.ownsRow_made W #[] 0 (Nat.le_refl _) (Nat.zero_le _) (by simp))
    a l.length c (dkCells l) (by simp [dkCells_length]) (fun ad ha => hs _ bA ad ha) h0 (dkCells_one l) (by unfold maxLen; omega) (by omega) (by simp)
  rw [Nat.zero_add, List.nil_append] at ho
  exact ⟨v', w', hr, ho, bA.grown hg (by simp) (by intro k hk; simp [Value.ownBlock] at hk; omega)⟩

def lenOfV : Value → Nat
  | .slice _ n _ => n
  | _ => 0

/-- one zero more -/
theorem rf_zero1 {W wr : World} {v : Value} {n : Nat} {l : Dk.Bs} (hown : wr.ownsRow W.heap.size 5 1 v n (dkCells l)) (hb : Below W.heap.size W wr) (hn : n ≤ 1099511627776) (ty : TypeId) :
    ∃ v' w', (Builtin.append_ #[22, 22] ty #[v, .slice (some ⟨wr.heap.size, 0, none⟩) 1 1]).run Tryz.prog (wr.alloc (.cells #[.int .u8 0] 5)) = .ok v' w' ∧
      w'.ownsRow W.heap.size 5 1 v' (n + 1) (dkCells (l ++ [0])) ∧ Below W.heap.size W w' := by
  obtain ⟨i0, hi, hz0, hz1, hz2⟩ := info_parts dk_infoByte
  obtain ⟨v', w', hr, ho, hg⟩ := rf_append (w := wr.alloc (.cells #[.int .u8 0] 5)) 22 ty 5 i0 (.int .u8 0) 1 1 Tryz.underlying22 hi hz0 hz1 hz2 rfl (by decide) W.heap.size v n (dkCells l) (hown.alloc _)
    (some ⟨wr.heap.size, 0, none⟩) 1 1 [.int .u8 0] rfl (fun ad ha => by cases ha; exact World.news_of_block (heap_alloc_new wr _)) (fun e => by cases e) (by intro u hu; simp at hu; subst hu; rfl) (by unfold maxLen; omega) (by omega) (by have := hb.size; simp; omega)
  refine ⟨v', w', hr, ?_, (hb.alloc hb.size _).grown hg (by have := hb.size; simp; omega) (fun k hk => (hown.lt k hk).1)⟩
  rw [dkCells_append]
  exact ho

set_option maxRecDepth 100000 in
set_option maxHeartbeats 4000000 in
theorem rf_apply (W : World) (v bv : Value) (l b : Dk.Bs) (off : Nat) (h : RdB W W.heap.size v l) (hb : RdB W W.heap.size bv b) (hl : l.length ≤ 1073741824) (hbd : off + b.length ≤ 1073741824) :
    Calls Tryz.prog 179 #[v, .int .i64 off, bv] W fun e W' => ∃ v', e = .returned v' ∧ W'.ownsRow W.heap.size 5 1 v' (Dk.rapply l off b).length (dkCells (Dk.rapply l off b)) ∧ Below W.heap.size W W' := by
  obtain ⟨v1, w1, hrun, hown, hb1⟩ := rf_copyB h (by omega) 22
  obtain ⟨a, c, rfl⟩ := h.form
  obtain ⟨ba, bc, rfl⟩ := hb.form
  have HRUN := Lib.hid hrun
  have HB := Lib.hid hb
  have HO := Lib.hid hown
  clear hrun h hb hown
  by_cases h0 : b = []
  · subst h0
    obtain ⟨a1, c1, rfl⟩ := rf_own_form HO.out
    simp only [List.length_nil]
    have hr : Dk.rapply l off [] = l := by unfold Dk.rapply; rw [if_pos rfl]
    rw [hr]
    clear hr
    go_enter Tryz.func179, Tryz.ntmps179
    go_wp2_with (at_builtin; refine Lib.wpList_append_run _ rfl _ _ _ _ rfl _ _ rfl rfl _ _ HRUN.out ?_)
    go_ret
    exact ⟨_, rfl, HO.out, hb1⟩
  · have hp : 0 < b.length := List.length_pos_iff.2 h0
    rw [Dk.rapply_pos l off b hp]
    have e0 : ((b.length : Int) == 0) = false := by simp; omega
    go_enter Tryz.func179, Tryz.ntmps179
    go_wp2_with (at_builtin; refine Lib.wpList_append_run _ rfl _ _ _ _ rfl _ _ rfl rfl _ _ HRUN.out ?_)
    have HN : Hid (Dk.padded l (off + b.length) = l ++ List.replicate (off + b.length - l.length) 0) := Lib.hid rfl
    have HS0 : Hid (Below W.heap.size W w1) := Lib.hid hb1
    clear hb1 HRUN
    go_loopw [7] (fun ov wr => ∃ k : Nat, k ≤ off + b.length - l.length ∧ (∃ ao cp, ov = .slice ao (l.length + k) cp) ∧ Hid (wr.ownsRow W.heap.size 5 1 ov (l.length + k) (dkCells (l ++ List.replicate k 0))) ∧ Hid (Below W.heap.size W wr)) (fun ov _ => off + b.length - lenOfV ov)
    case atStart =>
      refine ⟨0, Nat.zero_le _, rf_own_form HO.out, Lib.hid ?_, HS0⟩
      simpa using HO.out
    case round =>
      obtain ⟨k, hk, ⟨ao, cp, rfl⟩, HOW, HBL⟩ := hrel
      by_cases hlt : l.length + k < off + b.length
      · obtain ⟨v2, w2, hrun2, hown2, hb2⟩ := rf_zero1 HOW.out HBL.out (by omega) 22
        obtain ⟨a2, c2, rfl⟩ := rf_own_form hown2
        have HR2 := Lib.hid hrun2
        have HO2 := Lib.hid hown2
        have HB2 := Lib.hid hb2
        clear hrun2 hown2 hb2
        go_wp2_with (at_builtin; refine Lib.wpList_append_run _ rfl _ _ _ _ rfl _ _ rfl rfl _ _ HR2.out ?_)
        refine ⟨⟨k + 1, by omega, ⟨_, _, rfl⟩, Lib.hid ?_, HB2⟩, by simp [lenOfV]; omega⟩
        have e : l ++ List.replicate (k + 1) 0 = l ++ List.replicate k 0 ++ [0] := by rw [List.append_assoc, List.replicate_succ']
        rw [e]
        exact HO2.out
      · obtain rfl : k = off + b.length - l.length := by omega
        rw [← HN.out, ← Dk.part_zero] at HOW
        have hm : l.length + (off + b.length - l.length) = max l.length (off + b.length) := by omega
        rw [hm] at HOW
        obtain ⟨n, hn⟩ : ∃ n, n = max l.length (off + b.length) := ⟨_, rfl⟩
        rw [← hn] at HOW
        obtain ⟨g, cp2, hv, hg, hgl⟩ := HOW.out.form (by omega)
        have HE : Hid (l.length + (off + b.length - l.length) = n) := Lib.hid (by omega)
        injection hv with e1 e2 e3
        subst e1 e3
        rw [HE.out]
        have hn1 : l.length ≤ n := by omega
        have hn2 : off + b.length ≤ n := by omega
        have hn3 : n ≤ 1073741824 := by omega
        have HNN : Hid (n = max l.length (off + b.length)) := Lib.hid hn
        clear hk e2 hm hn hlt HE HN HS0 HO
        go_wp2_with fail
        go_loopw [8] (fun iv wr => ∃ i : Nat, i ≤ b.length ∧ iv = .int .i64 i ∧ Hid (wr.ownsRow W.heap.size 5 1 (.slice (some ⟨g, 0, none⟩) n cp) n (dkCells (Dk.part l b off i))) ∧ Hid (Below W.heap.size W wr)) (fun iv _ => b.length - (RowKit.intOf iv).toNat)
        case atStart => exact ⟨0, Nat.zero_le _, rfl, HOW, HBL⟩
        case round =>
          obtain ⟨i, hi, rfl, HOW2, HBL2⟩ := hrel
          clear HOW HBL
          by_cases hlt : i < b.length
          · obtain ⟨bg, bo, bcap, hbv, hcap, hbg, hbgs, hx⟩ : ∃ g off cap, Value.slice ba b.length bc = .slice (some ⟨g, off, none⟩) b.length cap ∧ b.length ≤ cap ∧ g < W.heap.size ∧ g < W.heap.size ∧ ∀ j c, b[j]? = some c → W.cell? ⟨g, off + j, none⟩ = some (.int .u8 c.toNat) := by
              rcases HB.out with ⟨h, _⟩ | h
              · exact absurd h h0
              · exact h
            injection hbv with hb1 _ hb2
            subst hb1 hb2
            have c0 := (HBL2.out.cell (p := ⟨bg, bo + i, none⟩) hbg).trans (hx i b[i] (List.getElem?_eq_getElem hlt))
            have c1 := HOW2.out.frozenAt (off + i)
            have hc2 := HOW2.out.cellAt (off + i) (by omega)
            obtain ⟨z, hz⟩ : ∃ z : UInt8, (Dk.part l b off i)[off + i]? = some z := by
              have hlen := Dk.part_length l b off i (by omega)
              exact ⟨_, List.getElem?_eq_getElem (by rw [hlen]; omega)⟩
            rw [dkCells_at _ _ _ hz] at hc2
            obtain ⟨s3, g3⟩ := HOW2.out.stored (off + i) (.int .u8 b[i].toNat)
            have hset : (dkCells (Dk.part l b off i)).set (off + i) (.int .u8 b[i].toNat) = dkCells (Dk.part l b off (i + 1)) := by
              rw [← Dk.part_step l b off i hlt]
              unfold dkCells Lib.byteCells
              rw [List.map_set]
            rw [hset] at s3
            have HO3 := Lib.hid s3
            have HB3 : Hid (Below W.heap.size W (wr.setCell ⟨g, off + i, none⟩ (.int .u8 b[i].toNat))) := Lib.hid (HBL2.out.grown g3 HBL2.out.size (by intro k hk; cases hk; exact hg))
            have hb256 := dk_cellLt hlt
            clear s3 g3 hset hz hx HB
            go_wp2_with fail
            refine ⟨⟨i + 1, by omega, by go_num, HO3, HB3⟩, by simp [RowKit.intOf]; omega⟩
          · obtain rfl : i = b.length := by omega
            rw [Dk.part_full] at HOW2
            go_wp2_with fail
            go_ret
            refine ⟨_, rfl, ?_, HBL2.out⟩
            rw [Dk.over_length, ← HNN.out]
            exact HOW2.out

theorem RdB.at_drew {W : World} {v : Value} {l : Dk.Bs} (h : RdB W W.heap.size v l) : RdB W.drew W.drew.heap.size v l := (h.below ((Below.refl _ _).drew))
theorem rf_own_mono {w : World} {B B' : Nat} {t : TypeId} {sz : Nat} {v : Value} {n : Nat} {xs : List Value} (h : w.ownsRow B t sz v n xs) (hb : B' ≤ B) : w.ownsRow B' t sz v n xs := by
  refine ⟨h.1, ?_⟩
  rcases h.2 with h | ⟨g, cap, cur, hv, hB, r⟩
  · exact .inl h
  · exact .inr ⟨g, cap, cur, hv, Nat.le_trans hb hB, r⟩
theorem Dk.contents_take_le (d : Dk.Bs) (l : List Dk.Wr) (k : Nat) : (Dk.contents d (l.take k)).length ≤ (Dk.contents d l).length := by
  rw [Dk.sizeOf_contents, Dk.sizeOf_contents]
  exact Dk.sizeOf_le _ _ _
theorem Dk.contents_dur_le (d : Dk.Bs) (l : List Dk.Wr) : d.length ≤ (Dk.contents d l).length := Dk.contents_take_le d l 0

set_option maxRecDepth 100000 in
set_option maxHeartbeats 400000 in
theorem rf_contents {c : Nat → Nat} {W : World} {x : Re} (h : ReAt c W x) :
    Calls Tryz.prog 144 #[x.val] W fun e W' => ∃ v', e = .returned v' ∧ W'.ownsRow W.heap.size 5 1 v' x.f.contents.length (dkCells x.f.contents) ∧ Below W.heap.size W W' := by
  obtain ⟨nm, dv, wv, vs, ⟨d, l⟩⟩ := x
  have hsz := h.size
  have hmany := h.many
  have hwr := h.wr
  obtain ⟨⟨wo, wc, hwv, hwcap, hwx⟩, _⟩ := h.pend
  have hdr := h.dur.1
  unfold Dk.Fl.contents at *
  simp only [] at hsz hmany hwr hwv hwcap hwx hdr ⊢
  subst hwv
  have hdl := Dk.contents_dur_le d l
  obtain ⟨W1, hW1⟩ : ∃ W1, W1 = W.alloc (.cells #[.string ⟨nm.toArray⟩, dv, .slice wo l.length wc] 199) := ⟨_, rfl⟩
  have hb01 : Below W.heap.size W W1 := by rw [hW1]; exact (Below.refl _ _).alloc (Nat.le_refl _) _
  have hrow : W1.heap[W.heap.size]? = some (.cells #[.string ⟨nm.toArray⟩, dv, .slice wo l.length wc] 199 (0, 0)) := by rw [hW1]; exact heap_alloc_new W _
  have hs1 : W1.heap.size = W.heap.size + 1 := by rw [hW1]; simp
  obtain ⟨v2, w2, hrun, hown, hb2⟩ := rf_copyB ((hdr.below hb01).mono hb01.size) (by omega) 22
  have c1 : (W1.alloc (.cells #[] 5)).cell? ⟨W.heap.size, 1, none⟩ = some dv := by
    rw [cell_of_row _ _ _ _ _ _ ((Below.heap_alloc W1 _ _ (by omega)).trans hrow)]; rfl
  obtain ⟨da, dc, rfl⟩ := hdr.form
  have HW := Lib.hid hW1
  have HRUN := Lib.hid hrun
  have HOW := Lib.hid hown
  have HB2 := Lib.hid hb2
  have HB01 := Lib.hid hb01
  have HROW := Lib.hid hrow
  have HS1 := Lib.hid hs1
  have HWX := Lib.hid hwx
  have HWR := Lib.hid hwr
  have hszk := fun k => Dk.contents_take_le d l k
  have HZ := Lib.hid hszk
  rw [hs1, hW1] at HRUN
  rw [hW1] at c1
  clear hW1 hrun hown hb2 hb01 hrow hs1 hwx hwr hdr h hszk
  unfold Re.val
  simp only []
  go_enter Tryz.func144, Tryz.ntmps144
  go_wp2_with (at_builtin; refine Lib.wpList_append_run _ rfl _ _ _ _ rfl _ _ rfl rfl _ _ HRUN.out ?_)
  clear c1
  go_loopw [3, 4] (fun ov iv wr => ∃ k : Nat, k ≤ l.length ∧ iv = .int .i64 k ∧ Hid (wr.ownsRow W1.heap.size 5 1 ov (Dk.contents d (l.take k)).length (dkCells (Dk.contents d (l.take k)))) ∧ Hid (Below W1.heap.size W1 wr)) (fun _ iv _ => l.length - (RowKit.intOf iv).toNat)
  case atStart => exact ⟨0, Nat.zero_le _, rfl, HOW, HB2⟩
  case round =>
    obtain ⟨k, hk, rfl, HO, HBL⟩ := hrel
    have r1 := (HBL.out.block W.heap.size (by rw [HS1.out]; omega)).trans HROW.out
    have c1 : wr.cell? ⟨W.heap.size, 1, none⟩ = some (.slice da d.length dc) := by rw [cell_of_row _ _ _ _ _ _ r1]; rfl
    have c2 : wr.cell? ⟨W.heap.size, 2, none⟩ = some (.slice wo l.length wc) := by rw [cell_of_row _ _ _ _ _ _ r1]; rfl
    clear r1
    by_cases hlt : k < l.length
    · obtain ⟨wg, rfl, hwg, hwc⟩ := HWX.out (by omega)
      have hb0w : Below W.heap.size W wr := HB01.out.trans (HBL.out.mono (by rw [HS1.out]; omega))
      have hvk : k < vs.length := by rw [HWR.out.1]; exact hlt
      obtain ⟨e1, e2⟩ := wrCells_at l vs k l[k] vs[k] (List.getElem?_eq_getElem hlt) (List.getElem?_eq_getElem hvk)
      obtain ⟨o1, o2, o3⟩ := HWR.out.2 k l[k] vs[k] (List.getElem?_eq_getElem hlt) (List.getElem?_eq_getElem hvk)
      have d1 := (hb0w.cell (p := ⟨wg, k * 2, none⟩) hwg).trans (hwc _ _ e1)
      have d2 := (hb0w.cell (p := ⟨wg, k * 2 + 1, none⟩) hwg).trans (hwc _ _ e2)
      have hz := HZ.out k
      have hap := rf_apply wr.drew _ vs[k] (Dk.contents d (l.take k)) l[k].b l[k].off (RdB.of_own HO.out).at_drew ((o1.1.below hb0w).mono hb0w.size).at_drew (by omega) (by omega)
      rw [Dk.rapply_pos _ _ _ o2, show Dk.over (Dk.contents d (l.take k)) l[k].off l[k].b = Dk.contents d (l.take (k + 1)) from (Dk.contents_take d l k hlt).symm] at hap
      obtain ⟨oa, oc, rfl⟩ := rf_own_form HO.out
      obtain ⟨ba, bc, hbv⟩ := o1.1.form
      rw [hbv] at d2 hap
      have HAP := Lib.hid hap
      have HD := Lib.hid HBL.out.drew
      generalize l[k].off = off at *
      generalize l[k].b.length = bl at *
      clear e1 e2 o1 o2 o3 hap hbv hb0w hwc
      go_wp2_with fail
      refine wp_region_still_tail 13 (by kernel_rfl) (by kernel_rfl) ?_
      simp only [List.take_succ_cons, List.take_zero, List.drop_succ_cons, List.drop_zero]
      change wpStill _ _ (World.drew _) _ _ _
      repeat still_step
      refine wpStill_nil ?_
      go_wp2_with fail
      refine HAP.out.mono ?_
      rintro e w3 ⟨v3, rfl, hown3, hb3⟩
      have hs3 : W1.heap.size ≤ wr.heap.size := HBL.out.size
      have HO3 := Lib.hid (rf_own_mono hown3 hs3)
      have HB3 := Lib.hid (HD.out.trans (hb3.mono hs3))
      clear hown3 hb3
      go_wp2_with fail
      refine ⟨⟨k + 1, by omega, by go_num, HO3, HB3⟩, by simp [RowKit.intOf]; omega⟩
    · obtain rfl : k = l.length := by omega
      rw [List.take_length] at HO
      obtain ⟨oa, oc, rfl⟩ := rf_own_form HO.out
      go_wp2_with fail
      go_ret
      have hs := HS1.out
      exact ⟨_, rfl, rf_own_mono HO.out (by omega), HB01.out.trans (HBL.out.mono (by omega))⟩

end Go.Proofs.YtamencnachmhoaaGreatDoor
