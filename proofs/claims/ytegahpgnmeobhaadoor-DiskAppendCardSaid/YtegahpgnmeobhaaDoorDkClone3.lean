/-
  Clone of a disk: the walk.
-/
import Derived.Test.YtegahpgnmeobhaaDoorDkClone2
namespace Go.Proofs.YtegahpgnmeobhaaDoor
open Go.RowKit

/-- the world behind the new disk's row -/
def clWorld (W : World) (D : Dk.D) : World := (W.alloc (.map #[] 0)).alloc (.cells #[.map (some W.heap.size), .int .i64 D.bud, .bool D.down] 37)

theorem ClLoop.start {i j : Nat} {W : World} {c : Nat → Nat} {g : Nat} {D : Dk.D} {m : Nat} {xs : List Fe} (h : DiskIs i c W g D m xs) (hj : j ≠ 0) (hij : i ≠ j) {w0 : World} {Wd : World} (hWd : Wd.heap = (clWorld W D).heap) (hos : Wd.os = W.os) (htape : Wd.tape = W.tape) (hout : Wd.output = W.output)
    (hrg : w0.ranges Tryd.prog 9 ptrElem m (W.heap.size + 1 + 1) xs.length (.map (xs.map Fe.key)) (Maps.has (DataW.map (xs.map Fe.key))) (Maps.size (DataW.map (xs.map Fe.key)))) (hg : Wd.grownBy w0 none) (hs : w0.heap.size = W.heap.size + 3) :
    ClLoop i j W c g D m xs (W.heap.size + 1 + 1) (W.heap.size + 1) W.heap.size w0 (Maps.has (DataW.map (xs.map Fe.key))) (Maps.size (DataW.map (xs.map Fe.key)))
      (fun k => if k = W.heap.size + 2 then i + j + 1 else if W.heap.size ≤ k then j else c k) [] := by
  have hsz : Wd.heap.size = W.heap.size + 2 := by rw [hWd]; simp [clWorld]
  have hb0 : Below W.heap.size W Wd := ⟨hos, htape, hout, by omega, fun k hk => by rw [hWd]; unfold clWorld; rw [Below.heap_alloc _ _ _ (by simp; omega), Below.heap_alloc _ _ _ hk]⟩
  have hbel : Below W.heap.size W w0 := hb0.grown hg (by omega) (fun k hk => by cases hk)
  have hcol : ∀ b, b < W.heap.size → (fun k => if k = W.heap.size + 2 then i + j + 1 else if W.heap.size ≤ k then j else c k) b = c b := fun b hb => by
    show (if b = W.heap.size + 2 then i + j + 1 else if W.heap.size ≤ b then j else c b) = c b
    rw [if_neg (by omega), if_neg (by omega)]
  have hrow : w0.heap[W.heap.size + 1]? = some (.cells #[.map (some W.heap.size), .int .i64 D.bud, .bool D.down] 37 (0, 0)) := by
    rw [hg.block _ (by omega) (by simp), hWd]
    have := heap_alloc_new (W.alloc (.map #[] 0)) (.cells #[.map (some W.heap.size), .int .i64 D.bud, .bool D.down] 37)
    simpa [clWorld] using this
  have hmap : w0.ownsMap Tryd.prog 9 ptrElem W.heap.size 0 (.map []) := by
    refine ownsMap_block (World.ownsMap_made W Tryd.prog 9 ptrElem) ?_
    rw [hg.block _ (by omega) (by simp), hWd]
    unfold clWorld
    rw [Below.heap_alloc _ _ _ (by simp)]
  refine ⟨h.chg (j := i + 1) (Chg.of_below' hbel hcol) (by omega) (by omega), hrg, ⟨hrow, hmap, rfl, by simp, by simp, ?_, hj⟩, ?_, hcol, by simp, hbel, ⟨by omega, by omega, Nat.le_refl _⟩, by simp [Maps.size], hij⟩
  · intro b hb
    simp at hb
    rcases hb with rfl | rfl
    · simp; omega
    · simp; omega
  · intro n f
    simp only [List.map_nil, List.not_mem_nil, false_iff, not_and]
    intro hm hl
    rw [h.fs] at hm
    obtain ⟨x, hx, hxe⟩ := List.mem_map.1 hm
    have : Maps.has (DataW.map (xs.map Fe.key)) (.string n) = true := by
      unfold Maps.has
      rw [List.any_eq_true]
      refine ⟨x.key, List.mem_map.2 ⟨x, hx, rfl⟩, ?_⟩
      have hn : x.nm = n := congrArg Prod.fst hxe
      simp [Fe.key, Lit.sameKey, hn]
    rw [this] at hl
    cases hl

/-- at the end the disk that was made has the same files -/
theorem ClLoop.done {i j : Nat} {W : World} {c : Nat → Nat} {g : Nat} {D : Dk.D} {m : Nat} {xs : List Fe} {r go mo : Nat} {wr : World} {left : Lit → Bool} {cnt : Nat} {c' : Nat → Nat} {ys : List Fe} (h : ClLoop i j W c g D m xs r go mo wr left cnt c' ys) (hl : ∀ kl, left kl = false) : DiskAt j c' wr go D := by
  have e : ys.map Fe.ent = D.fs := by
    refine eq_of_rising (f := Prod.fst) ?_ h.src.rising_fs (fun p => ?_)
    · have := h.out.rising_fs
      exact this
    · obtain ⟨n, f⟩ := p
      rw [h.mem n f, hl]
      simp
  have := h.out
  rw [e] at this
  exact ⟨mo, ys, this⟩

set_option maxRecDepth 100000 in
set_option maxHeartbeats 4000000 in
theorem dk_Clone {i : Nat} {c : Nat → Nat} {W : World} {g : Nat} {D : Dk.D} (h : DiskAt i c W g D) (j : Nat) (hj : j ≠ 0) (hij : i ≠ j) (hmany : D.fs.length ≤ 1073741824) :
    Calls Tryd.prog 16 #[.pointer (some ⟨g, 0, none⟩)] W fun e W' => ∃ g' c', e = .returned (.pointer (some ⟨g', 0, none⟩)) ∧ DiskAt j c' W' g' D ∧ Below W.heap.size W W' ∧ ∀ b, b < W.heap.size → c' b = c b := by
  obtain ⟨m, xs, h⟩ := h
  have hxs : xs.length ≤ 1073741824 := by rw [h.fs] at hmany; simpa using hmany
  obtain ⟨c0, c1, c2, _, _⟩ := h.cells
  have hmm := @run_makeMap Tryd.prog
  have H := Lib.hid h
  have hgl := (h.col g (by simp)).2
  have hml := (h.col m (by simp)).2
  have hown := Lib.hid (ownsMap_block (W' := (clWorld W D).drew) h.map (by show (clWorld W D).heap[m]? = _; unfold clWorld; rw [Below.heap_alloc _ _ _ (by simp; omega), Below.heap_alloc _ _ _ hml]))
  clear h hmany
  unfold clWorld at hown
  go_enter Tryd.func16, Tryd.ntmps16
  go_wp2_with fail
  go_region_held3 (fun w' => w'.cell? ⟨g, 1, none⟩ = some (.int .i64 D.bud) ∧ w'.cell? ⟨g, 2, none⟩ = some (.bool D.down)) (go_keep) (fail)
  go_wp2_with (at_range; refine wpList_range_own _ rfl _ 35 rfl 9 40 dk_law Tryd.underlying35 ptrElem m xs.length (.map (xs.map Fe.key)) rfl hown.out ?_; intro w0 hrg0 hg0 hs0)
  go_frame
  clear c0 c1 c2
  have hst := ClLoop.start H.out hj hij (Wd := (clWorld W D).drew) rfl rfl rfl rfl (by simpa [clWorld] using hrg0) hg0 (by rw [hs0]; simp)
  have HST := Lib.hid hst
  clear hrg0 hg0 hs0 hst
  have e1 : ((W.alloc (.map #[] 0)).alloc (.cells #[.map (some W.heap.size), .int .i64 D.bud, .bool D.down] 37)).drew.heap.size = W.heap.size + 1 + 1 := by simp
  rw [e1]
  clear e1
  go_loopw [4] (fun _ wr => ∃ left cnt c' ys, Hid (ClLoop i j W c g D m xs (W.heap.size + 1 + 1) (W.heap.size + 1) W.heap.size wr left cnt c' ys)) (fun _ wr => wr.rangeLeft m (W.heap.size + 1 + 1))
  case atStart => exact ⟨_, _, _, _, HST⟩
  case round =>
    obtain ⟨left, cnt, c', ys, hL⟩ := hrel
    clear hown HST
    go_wp2_with (at_next; (refine wpList_next_ranges _ rfl _ rfl 9 dk_law ptrElem Value.string Value.pointer (fun key kl hk => by obtain ⟨s, h1, _⟩ := keyOf_string_inv hk; exact ⟨s, h1⟩) (fun v y hv => by obtain ⟨p, h1, _⟩ := ptrElem_inv hv; exact ⟨p, h1⟩) m (W.heap.size + 1 + 1) xs.length (.map (xs.map Fe.key)) left cnt rfl hL.out.rng ?_ ?_))
    · intro hc0 hl0
      go_wp2_with fail
      go_ret
      exact ⟨_, c', rfl, hL.out.done hl0, hL.out.bel, hL.out.col⟩
    · intro s p kl y1 y2 w1 cnt1 hk hlx hpy hat hrg1 hlt hg1 hs1 hen
      obtain ⟨rfl, hsl, l1, x, l2, rfl, hnm, rfl, hnew⟩ := hL.out.came (y := (y1, y2)) hk hlx hpy hat
      obtain ⟨hsrc, hout, hbel1⟩ := hL.out.turned hg1
      have hF1 := (hsrc.file x (by simp)).same (W' := w1.drew) rfl
      have hcl := dk_fclone hF1
      have k0 := hout.cells.1
      have hgo1 := (hout.col (W.heap.size + 1) (by simp)).2
      have HF1 := Lib.hid hF1
      have HSRC := Lib.hid hsrc
      have HOUT := Lib.hid hout
      have HLEN := Lib.hid hL.out.cntle
      have HRG := Lib.hid hrg1
      have HG1 := Lib.hid hg1
      have HNEW := Lib.hid hnew
      have HNM := Lib.hid hnm
      have HLT := Lib.hid hlt
      clear hsrc hout hF1 hrg1 hg1 hnew hnm hs1 hat hk hlx hpy
      go_wp2_with fail
      go_region_with (go_at_call 30; refine hcl.mono ?_; intro e w2 hcf; obtain ⟨y, c2, rfl, hyn, hyf, hFy, hynd, hyb, hcc, hb2⟩ := ClFile.feAt HF1.out hcf j; have hb2' : Below w1.heap.size w1 w2 := ⟨hb2.os, hb2.tape, hb2.output, hb2.size, hb2.block⟩; have k2 := (hb2'.cell (p := ⟨W.heap.size + 1, 0, none⟩) hgo1).trans k0; have hm2 := ownsMap_block (W' := w2) HOUT.out.map (hb2'.block W.heap.size (HOUT.out.col W.heap.size (by simp)).2); obtain ⟨w3, hrun, hown3, hturn3⟩ := hm2.store dk_law Tryd.underlying35 (by have := HLEN.out; unfold maxLen; omega) (key := .string s) (val := .pointer (some ⟨y.g, 0, none⟩)) (Go.WideMaps.keyOf_string_mk Tryd.underlying9 hsl) (d := .held (some ⟨y.g, 0, none⟩)) (ps := []) rfl; have HY := Lib.hid (And.intro hyn (And.intro hyf (And.intro hFy (And.intro hynd (And.intro hyb (And.intro hcc hb2')))))); have HO3 := Lib.hid hown3; have HT3 := Lib.hid hturn3; clear hcf hyn hyf hFy hynd hyb hcc hb2 hb2' hm2 hown3 hturn3)
      all_goals
        obtain ⟨q1, q2, q3, q4, q5, q6, q7⟩ := HY.out
        have hput := ClLoop.put hL.out HG1.out HLT.out HNM.out HNEW.out HRG.out q1 q2 q3 q4 q5 q6 q7 HO3.out HT3.out
        have HP := Lib.hid hput
        clear q1 q2 q3 q4 q5 q6 q7 hput
        go_wp2_with fail
        go_roundw
        case rel => exact ⟨_, _, _, _, HP⟩
        case measure => rw [HP.out.rng.left_eq, hL.out.rng.left_eq]; exact HLT.out

end Go.Proofs.YtegahpgnmeobhaaDoor
