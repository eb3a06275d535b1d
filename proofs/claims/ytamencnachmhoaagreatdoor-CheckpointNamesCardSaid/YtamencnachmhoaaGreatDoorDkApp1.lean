/-
  known: the example of the chapter.
  A file to which was only appended: what survives an even choice; append onto an empty slice.
-/
import Derived.Test.YtamencnachmhoaaGreatDoorDkRestart3
import Derived.Laws.AppendOwnNone
namespace Go.Proofs.YtamencnachmhoaaGreatDoor
open Go.RowKit

/-- 'string(b)' over bytes that are read -/
theorem dk_conv {W : World} {B : Nat} {v : Value} {l : Dk.Bs} (h : RdB W B v l) : ∀ W' : World, W'.heap = W.heap → (convert 22 9 v).run Tryz.prog W' = .ok (.string ⟨l.toArray⟩) W' := by
  intro W' hW
  rcases h with ⟨rfl, a, cap, rfl⟩ | ⟨g, off, cap, rfl, _, _, _, hx⟩
  · cases a with
    | none => exact run_convert_bytes_nil W' _ _ Tryz.underlying22 Tryz.underlying5 0 cap _ Tryz.underlying9
    | some a => exact run_convert_bytes_back W' _ _ _ a cap [] Tryz.underlying22 Tryz.underlying5 Tryz.underlying9 (fun j hj => by simp at hj)
  · refine run_convert_bytes_back W' _ _ _ ⟨g, off, none⟩ cap l Tryz.underlying22 Tryz.underlying5 Tryz.underlying9 (fun j hj => ?_)
    rw [dk_add, World.cell?_of_block (w := W) (w' := W') (a := ⟨g, off + j, none⟩) (by rw [hW])]
    exact hx j _ (List.getElem?_eq_getElem hj)

/-- what is ahead of W is untouched, and of colour 0 -/
def Kn (W Wk : World) (c : Nat → Nat) : Prop := Below W.heap.size W Wk ∧ ∀ b, b < W.heap.size → c b = 0
theorem Kn.chg {W Wk W' : World} {c c' : Nat → Nat} {i : Nat} (h : Kn W Wk c) (hc : Chg i c c' Wk W') (hi : i ≠ 0) : Kn W W' c' :=
  ⟨h.1.trans (hc.below h.1.size (fun b hb => by rw [h.2 b hb]; omega)), fun b hb => (hc.col b (Nat.lt_of_lt_of_le hb h.1.size)).trans (h.2 b hb)⟩

/-- bytes that are laid now -/
theorem RdC.made {W : World} {c : Nat → Nat} (l : Dk.Bs) (cs : Array Value) (hcs : cs.toList = dkCells l) (t : TypeId) : RdC (pnt c W.heap.size 0) (W.alloc (.cells cs t)) (.slice (some ⟨W.heap.size, 0, none⟩) l.length l.length) l := by
  refine ⟨.inr ⟨W.heap.size, 0, l.length, rfl, Nat.le_refl _, by simp, by simp, fun j x hj => ?_⟩, fun _ g hg => ?_⟩
  · rw [cell_of_row _ _ _ _ _ _ (heap_alloc_new W _), Nat.zero_add, ← Array.getElem?_toList, hcs]
    exact dkCells_at l j x hj
  · simp only [Value.ownBlock, Option.some.injEq] at hg
    subst hg
    exact pnt_new (Nat.le_refl _)

def kd (f : Dk.Fl) (dn : Bool) : Dk.D := ⟨[([102], f)], -1, dn⟩
theorem kn1 : Dk.D.create ⟨[], -1, false⟩ [102] = (kd ⟨[], []⟩ false, 0) := by kernel_rfl
theorem kn2 : Dk.D.write (kd ⟨[], []⟩ false) [102] (fun n => n) [1, 2, 3] = (kd ⟨[], [⟨0, [1, 2, 3]⟩]⟩ false, 0) := by kernel_rfl
theorem kn3 : Dk.D.sync (kd ⟨[], [⟨0, [1, 2, 3]⟩]⟩ false) [102] = (kd ⟨[1, 2, 3], []⟩ false, 0) := by kernel_rfl
theorem kn4 : Dk.D.write (kd ⟨[1, 2, 3], []⟩ false) [102] (fun n => n) [4, 5, 6] = (kd ⟨[1, 2, 3], [⟨3, [4, 5, 6]⟩]⟩ false, 0) := by kernel_rfl
theorem kn5 : Dk.D.crash (kd ⟨[1, 2, 3], [⟨3, [4, 5, 6]⟩]⟩ false) = (kd ⟨[1, 2, 3], [⟨3, [4, 5, 6]⟩]⟩ true, 0) := by kernel_rfl
theorem kn6 : Dk.D.restart (kd ⟨[1, 2, 3], [⟨3, [4, 5, 6]⟩]⟩ true) [0, 0, 2] = (kd ⟨[1, 2, 3, 4, 5], []⟩ false, 0) := by kernel_rfl
theorem kn7 : Dk.D.restart (kd ⟨[1, 2, 3], [⟨3, [4, 5, 6]⟩]⟩ true) [0, 1] = (kd ⟨[1, 2, 3, 4, 5, 6], []⟩ false, 0) := by kernel_rfl
theorem kn8 : Dk.D.read (kd ⟨[1, 2, 3, 4, 5], []⟩ false) [102] = ([1, 2, 3, 4, 5], 0) := by kernel_rfl
theorem kn9 : Dk.D.read (kd ⟨[1, 2, 3, 4, 5, 6], []⟩ false) [102] = ([1, 2, 3, 4, 5, 6], 0) := by kernel_rfl

theorem dk_bw {c c' : Nat → Nat} {W W' : World} (hb : Below W.heap.size W W') (hc : ∀ k, k < W.heap.size → c' k = c k) : Chg 3 c c' W W' := Chg.of_below' hb hc

end Go.Proofs.YtamencnachmhoaaGreatDoor

namespace Go.Proofs.YtamencnachmhoaaGreatDoor
open Go.RowKit

namespace Dk
/-- every pending write stands at the end of what is ahead of it -/
def AppD (d : Bs) (l : List Wr) : Prop := ∀ n w, l[n]? = some w → w.off = (contents d (l.take n)).length

theorem AppD.nil (d : Bs) : AppD d [] := fun n w h => by simp at h
theorem AppD.snoc {d : Bs} {l : List Wr} (h : AppD d l) (b : Bs) : AppD d (l ++ [⟨(contents d l).length, b⟩]) := by
  intro n w hw
  rcases Nat.lt_or_ge n l.length with hn | hn
  · rw [List.getElem?_append_left hn] at hw
    rw [List.take_append_of_le_length (by omega)]
    exact h n w hw
  · rw [List.getElem?_append_right hn] at hw
    have h0 : n - l.length = 0 := by
      rcases Nat.eq_zero_or_pos (n - l.length) with h0 | h0
      · exact h0
      · rw [List.getElem?_eq_none (by simp; omega)] at hw; cases hw
    rw [h0] at hw
    simp at hw
    subst hw
    have : n = l.length := by omega
    subst this
    simp
theorem AppD.step {d : Bs} {l : List Wr} (h : AppD d l) (n : Nat) (w : Wr) (hw : l[n]? = some w) (k : Nat) : contents d (l.take n ++ [⟨w.off, w.b.take k⟩]) = contents d (l.take n) ++ w.b.take k := by
  rw [contents_snoc, Wr.apply]
  show over _ w.off _ = _
  rw [h n w hw, over_end]
theorem AppD.next {d : Bs} {l : List Wr} (h : AppD d l) (n : Nat) (w : Wr) (hw : l[n]? = some w) : contents d (l.take (n + 1)) = contents d (l.take n) ++ w.b := by
  have e : l.take (n + 1) = l.take n ++ [w] := by rw [List.take_add_one, hw]; rfl
  rw [e, contents_snoc, Wr.apply, h n w hw, over_end]
theorem AppD.front {d : Bs} {l : List Wr} (h : AppD d l) : ∀ k, k ≤ l.length → contents d (l.take (l.length - k)) <+: contents d l
  | 0, _ => by rw [Nat.sub_zero, List.take_length]; exact List.prefix_refl _
  | k + 1, hk => by
    have ih := AppD.front h k (by omega)
    have hn : l.length - (k + 1) < l.length := by omega
    have e := h.next (l.length - (k + 1)) l[l.length - (k + 1)] (List.getElem?_eq_getElem hn)
    rw [show l.length - (k + 1) + 1 = l.length - k by omega] at e
    rw [e] at ih
    exact (List.prefix_append _ _).trans ih
theorem AppD.pre {d : Bs} {l : List Wr} (h : AppD d l) (n : Nat) (hn : n ≤ l.length) : contents d (l.take n) <+: contents d l := by
  have := h.front (l.length - n) (by omega)
  rwa [show l.length - (l.length - n) = n by omega] at this
theorem AppD.dur {d : Bs} {l : List Wr} (h : AppD d l) : ∀ n, n ≤ l.length → d <+: contents d (l.take n)
  | 0, _ => by rw [List.take_zero]; exact List.prefix_refl _
  | n + 1, hn => by
    have ih := AppD.dur h n (by omega)
    rw [h.next n l[n] (List.getElem?_eq_getElem (by omega))]
    exact ih.trans (List.prefix_append _ _)

theorem AppD.even {d : Bs} {l : List Wr} (h : AppD d l) (ch : Bs) (hev : hd ch % 2 = 0) : d <+: contents d (surv l ch).1 ∧ contents d (surv l ch).1 <+: contents d l := by
  unfold surv
  rw [if_pos hev]
  obtain ⟨n, hn⟩ : ∃ n, n = hd ch.tail % (l.length + 1) := ⟨_, rfl⟩
  have hnl : n ≤ l.length := by have := Nat.mod_lt (hd ch.tail) (show 0 < l.length + 1 by omega); omega
  unfold evenS
  rw [← hn]
  cases hw : l[n]? with
  | none =>
    simp only [List.append_nil]
    exact ⟨h.dur n hnl, h.pre n hnl⟩
  | some w =>
    simp only []
    split
    · rw [h.step n w hw]
      have hlt : n < l.length := (List.getElem?_eq_some_iff.1 hw).1
      refine ⟨(h.dur n hnl).trans (List.prefix_append _ _), ?_⟩
      have := h.pre (n + 1) hlt
      rw [h.next n w hw] at this
      refine List.IsPrefix.trans ?_ this
      exact (List.prefix_append_right_inj _).2 (List.take_prefix _ _)
    · rw [List.append_nil]
      exact ⟨h.dur n hnl, h.pre n hnl⟩

/-- the disk of the law: one file -/
def ld (f : Fl) (dn : Bool) : D := ⟨[([108, 111, 103], f)], -1, dn⟩
theorem ld_find (f : Fl) (dn : Bool) : find [108, 111, 103] (ld f dn).fs = some f := by kernel_rfl
theorem ld_upd (f f' : Fl) : upd [108, 111, 103] f' (ld f false).fs = (ld f' false).fs := by kernel_rfl
theorem ld_new : D.create ⟨[], -1, false⟩ [108, 111, 103] = (ld ⟨[], []⟩ false, 0) := by kernel_rfl
theorem ld_write (f : Fl) (b : Bs) (h : f.contents.length + b.length ≤ 16777216) : D.write (ld f false) [108, 111, 103] (fun n => n) b = (if b = [] then ld f false else ld ⟨f.dur, f.pend ++ [⟨f.contents.length, b⟩]⟩ false, 0) := by
  have hc : writeCheck (ld f false) [108, 111, 103] (fun n => n) b = 0 := by
    unfold writeCheck
    rw [ld_find]
    simp only []
    rw [if_neg (by omega)]
  unfold D.write
  rw [if_neg (by simp [ld]), if_neg (by rw [hc]; simp), ld_find]
  split
  · rfl
  · simp only [Int.toNat_natCast]
    unfold D.modify
    rw [if_neg (by simp [ld]), ld_upd]
    rfl
theorem ld_sync (f : Fl) : D.sync (ld f false) [108, 111, 103] = (ld ⟨f.contents, []⟩ false, 0) := by
  unfold D.sync
  rw [if_neg (by simp [ld]), ld_find]
  simp only []
  unfold D.modify
  rw [if_neg (by simp [ld]), ld_upd]
  rfl
theorem ld_read (f : Fl) : D.read (ld f false) [108, 111, 103] = (f.contents, 0) := by
  unfold D.read
  rw [if_neg (by simp [ld]), ld_find]
theorem ld_crash (f : Fl) : D.crash (ld f false) = (ld f true, 0) := rfl
theorem ld_restart (f : Fl) (ch : Bs) : D.restart (ld f true) ch = (ld (if f.pend = [] then f else ⟨contents f.dur (surv f.pend ch).1, []⟩) false, 0) := by
  unfold D.restart
  rw [if_pos (show (ld f true).down = true from rfl)]
  show ((⟨(restartFs [([108, 111, 103], f)] ch).1, -1, false⟩ : D), (0 : Int)) = _
  rw [restartFs_cons]
  split <;> rfl

/-- what the restart leaves of a file to which was only appended -/
theorem ld_after (f : Fl) (ch : Bs) (h : AppD f.dur f.pend) (hev : hd ch % 2 = 0) : ∃ f', D.restart (ld f true) ch = (ld f' false, 0) ∧ f.dur <+: f'.contents ∧ f'.contents <+: f.contents := by
  refine ⟨_, ld_restart f ch, ?_⟩
  split
  · rename_i hp
    have e : f.contents = f.dur := by unfold Fl.contents; rw [hp]; rfl
    rw [e]
    exact ⟨List.prefix_refl _, List.prefix_refl _⟩
  · exact h.even ch hev
end Dk

/-- append onto an empty slice of the call's own -/
theorem dk_append_any (w : World) (ty : TypeId) (B : Nat) (hB : B ≤ w.heap.size) (v0 v2 : Value) (hown : w.ownsRow B 5 1 v0 0 []) (l : Dk.Bs) (h : RdB w w.heap.size v2 l) (hv : v2 = .slice none 0 0 ∨ ∃ ad n c, v2 = .slice (some ad) n c) (hl : l.length ≤ 140737488355328) :
    ∃ v' w', (Builtin.append_ #[22, 22] ty #[v0, v2]).run Tryz.prog w = .ok v' w' ∧ w'.ownsRow B 5 1 v' l.length (dkCells l) ∧ w.grownBy w' v0.ownBlock := by
  obtain ⟨i0, hi, hz0, hz1, hz2⟩ := info_parts dk_infoByte
  rcases hv with rfl | ⟨ad, n, c, rfl⟩
  · obtain rfl : l = [] := by
      rcases h with ⟨h, _⟩ | ⟨g, off, cap, hv, _⟩
      · exact h
      · cases hv
    exact ⟨_, _, run_append_owned_none (P := Tryz.prog) (w := w) B 22 ty 5 i0 1 Tryz.underlying22 hi v0 0 [] hown, hown, ⟨rfl, rfl, rfl, Nat.le_refl _, fun _ _ _ => rfl⟩⟩
  · have hx : n = l.length ∧ ∀ j u, (dkCells l)[j]? = some u → w.cell? (ad.add j) = some u := by
      rcases h with ⟨rfl, a', c', hv⟩ | ⟨g, off, cap, hv, _, _, _, hx⟩
      · injection hv with _ e2 _
        exact ⟨e2, fun j u hj => by simp [Lib.byteCells] at hj⟩
      · injection hv with e1 e2 _
        injection e1 with e1
        subst e1
        refine ⟨e2, fun j u hj => ?_⟩
        obtain ⟨x, hx1, rfl⟩ := dkCells_get l j u hj
        rw [dk_add]
        exact hx j x hx1
    obtain ⟨rfl, hx⟩ := hx
    obtain ⟨v', w', hr, ho, hg, _⟩ := run_append_own (P := Tryz.prog) (w := w) B 22 ty 5 i0 (.int .u8 0) 1 1 Tryz.underlying22 hi hz0 hz1 hz2 rfl (by decide) v0 0 [] hown ad l.length c (dkCells l) (by simp [dkCells_length]) hx (dkCells_one l) (by unfold maxLen; omega) (by omega) hB
    rw [Nat.zero_add, List.nil_append] at ho
    exact ⟨v', w', hr, ho, hg⟩

end Go.Proofs.YtamencnachmhoaaGreatDoor
