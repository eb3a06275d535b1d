/-
  write's do-closure.
-/
import Derived.Test.YtegahpgnmeobhaaDoorDkStep
namespace Go.Proofs.YtegahpgnmeobhaaDoor
open Go.RowKit

theorem dk_ent34 : ∀ args w, (callFunc 34 args).run Tryd.prog w = .ok (.enter 34 args) w := enters_of Tryd.func34 (by kernel_rfl) rfl

theorem Fe.nodup {i : Nat} {c : Nat → Nat} {W : World} {g : Nat} {D : Dk.D} {m : Nat} {l1 l2 : List Fe} {x : Fe} (h : DiskIs i c W g D m (l1 ++ x :: l2)) : x.pv.ownBlock ≠ some x.g := by
  have hnd := h.nd
  have e0 : g :: m :: (l1 ++ x :: l2).flatMap Fe.blks = (g :: m :: l1.flatMap Fe.blks) ++ (x.blks ++ l2.flatMap Fe.blks) := by simp
  rw [e0] at hnd
  have h0 : x.blks.Nodup := (List.nodup_append.1 (List.nodup_append.1 hnd).2.1).1
  intro e
  unfold Fe.blks at h0
  rw [e] at h0
  simp at h0

/-- a write more, in memory: what the do-closure leaves -/
theorem DiskIs.wrote {i : Nat} {c : Nat → Nat} {W w1 w2 : World} {g : Nat} {D : Dk.D} {m : Nat} {l1 l2 : List Fe} {x : Fe} (h : DiskIs i c W g D m (l1 ++ x :: l2)) (a : Nat) (b : Dk.Bs) (v' : Value) (g2 cap2 : Nat)
    (hpos : 0 < b.length) (hbd : a + b.length ≤ 16777216) (hmany : x.f.pend.length < 65536)
    (hown1 : w1.ownsRow W.heap.size 5 1 v' b.length (dkCells b)) (hb1 : Below W.heap.size W w1)
    (hown2 : w2.ownsRow 0 61 2 (.slice (some ⟨g2, 0, none⟩) (x.f.pend.length + 1) cap2) (x.f.pend.length + 1) (wrCells x.f.pend x.vs ++ [.int .i64 a, v']))
    (hgrow : (w1.alloc (.cells #[.int .i64 a, v'] 61)).grownBy w2 x.pv.ownBlock) (hat : x.pv.ownBlock = some g2 ∨ g2 = w1.heap.size + 1) (hlt : g2 < w2.heap.size) :
    ∃ c', DiskAt i c' (w2.setCell ⟨x.g, 1, none⟩ (.slice (some ⟨g2, 0, none⟩) (x.f.pend.length + 1) cap2)) g { D with fs := Dk.upd x.nm ⟨x.f.dur, x.f.pend ++ [⟨a, b⟩]⟩ D.fs } ∧ Chg i c c' W (w2.setCell ⟨x.g, 1, none⟩ (.slice (some ⟨g2, 0, none⟩) (x.f.pend.length + 1) cap2)) := by
  have hF := h.file x (by simp)
  have hxg := h.col x.g (mem_blks (x := x) (by simp) (by simp [Fe.blks]) g m)
  have hpvb : ∀ k, x.pv.ownBlock = some k → c k = i ∧ k < W.heap.size := fun k hk => h.col k (mem_blks (x := x) (by simp) (by simp [Fe.blks, hk]) g m)
  have hs1 := hb1.size
  have hs2 : w1.heap.size + 1 ≤ w2.heap.size := by have := hgrow.size; simpa using this
  have hw2 : ∀ k, k < W.heap.size → some k ≠ x.pv.ownBlock → w2.heap[k]? = W.heap[k]? := fun k hk hne =>
    (hgrow.block k (by simp; omega) hne).trans ((Below.heap_alloc _ _ _ (by omega)).trans (hb1.block k hk))
  have hrow2 : w2.heap[x.g]? = some (.cells #[x.dv, x.pv] 43 (0, 0)) := (hw2 x.g hxg.2 (Ne.symm (Fe.nodup h))).trans hF.row
  have hrow3 := dk_setCell w2 x.g 1 _ _ (.slice (some ⟨g2, 0, none⟩) (x.f.pend.length + 1) cap2) hrow2
  have hs3 : (w2.setCell ⟨x.g, 1, none⟩ (.slice (some ⟨g2, 0, none⟩) (x.f.pend.length + 1) cap2)).heap.size = w2.heap.size := by simp [World.setCell]
  have hg3 : w2.grownBy (w2.setCell ⟨x.g, 1, none⟩ (.slice (some ⟨g2, 0, none⟩) (x.f.pend.length + 1) cap2)) (some x.g) :=
    dk_grown_setCell w2 w2 x.g 1 _ ⟨rfl, rfl, rfl, Nat.le_refl _, fun _ _ _ => rfl⟩
  generalize w2.setCell ⟨x.g, 1, none⟩ (.slice (some ⟨g2, 0, none⟩) (x.f.pend.length + 1) cap2) = w3 at *
  have hW : ∀ k, k < W.heap.size → k ∉ x.blks → w3.heap[k]? = W.heap[k]? := by
    intro k hk hn
    simp only [Fe.blks, List.mem_cons, Option.mem_toList, not_or] at hn
    exact (hg3.block k (by omega) (fun e => hn.1 (by cases e; rfl))).trans (hw2 k hk (fun e => hn.2 e.symm))
  obtain ⟨c', hc'⟩ : ∃ c' : Nat → Nat, c' = fun k => if W.heap.size ≤ k then (if k = g2 then i else 0) else c k := ⟨_, rfl⟩
  have hcold : ∀ k, k < W.heap.size → c' k = c k := fun k hk => by rw [hc']; simp only []; rw [if_neg (by omega)]
  have hg2x : g2 ≠ x.g := by
    rcases hat with e | e
    · intro e'; exact Fe.nodup h (by rw [e, e'])
    · have := hxg.2; omega
  have hv'lt := hown1.lt
  have hread : ∀ k, k < W.heap.size → c k = 0 → w3.heap[k]? = W.heap[k]? ∧ c' k = 0 := fun k hk h0 => by
    refine ⟨hW k hk (fun hb => ?_), (hcold k hk).trans h0⟩
    have := (h.col k (mem_blks (x := x) (by simp) hb g m)).1
    exact h.ne (by omega)
  have hv3 : w3.ownsRow W.heap.size 5 1 v' b.length (dkCells b) := by
    refine ((hown1.alloc (.cells #[.int .i64 a, v'] 61)).kept hgrow ?_).kept hg3 ?_
    · cases hv : v'.ownBlock with
      | none => exact .inl rfl
      | some k => exact .inr (fun e => by have := (hv'lt k hv).1; have := (hpvb k e.symm).2; omega)
    · cases hv : v'.ownBlock with
      | none => exact .inl rfl
      | some k => exact .inr (fun e => by cases e; have := (hv'lt x.g hv).1; have := hxg.2; omega)
  have hv'c : ∀ k, v'.ownBlock = some k → c' k = 0 := fun k hk => by
    have h1 := hv'lt k hk
    rw [hc']
    simp only []
    rw [if_pos h1.1, if_neg]
    rcases hat with e | e
    · have := (hpvb g2 e).2; omega
    · omega
  have hx1 : FeAt c' w3 ⟨x.nm, x.g, x.dv, .slice (some ⟨g2, 0, none⟩) (x.f.pend.length + 1) cap2, x.vs ++ [v'], ⟨x.f.dur, x.f.pend ++ [⟨a, b⟩]⟩⟩ := by
    refine ⟨hrow3, hF.dur.keep (by omega) hread, ?_, ?_, ?_, by simp; omega⟩
    · have e := wrCells_append x.f.pend [⟨a, b⟩] x.vs [v'] hF.wr.1
      simp only [List.length_append, List.length_cons, List.length_nil]
      rw [e]
      exact hown2.kept hg3 (.inr (fun e => hg2x (by simpa [Value.ownBlock] using e)))
    · refine (hF.wr.keep (by omega) hread).snoc ⟨RdB.of_own hv3, fun _ k hk => hv'c k hk⟩ hpos hbd
    · show (Dk.contents x.f.dur (x.f.pend ++ [⟨a, b⟩])).length ≤ _
      rw [Dk.contents_snoc, Dk.Wr.apply, Dk.over_length]
      have := hF.size
      unfold Dk.Fl.contents at this
      simp only []
      omega
  refine ⟨c', ⟨m, _, h.turn (x0 := x) (x1 := ⟨x.nm, x.g, x.dv, .slice (some ⟨g2, 0, none⟩) (x.f.pend.length + 1) cap2, x.vs ++ [v'], ⟨x.f.dur, x.f.pend ++ [⟨a, b⟩]⟩⟩) rfl rfl (by omega) hW hcold hx1 (fun k hk => ?_)⟩,
    h.turn_chg (hg3.os.trans (hgrow.os.trans hb1.os)) (hg3.tape.trans (hgrow.tape.trans hb1.tape)) (hg3.output.trans (hgrow.output.trans hb1.output)) (by omega) hW hcold⟩
  simp only [Value.ownBlock, Option.some.injEq] at hk
  subst hk
  rcases hat with e | e
  · exact .inl e
  · refine .inr ⟨by omega, by omega, ?_⟩
    rw [hc']
    simp only []
    rw [if_pos (by omega)]
    simp

theorem dk_behind {w1 w2 : World} {o : Obj} {row : Option Nat} {xg : Nat} {dv pv : Value} (hg : (w1.alloc o).grownBy w2 row) (hx : w1.heap[xg]? = some (.cells #[dv, pv] 43 (0, 0))) (hne : row ≠ some xg) :
    w2.cell? ⟨xg, 1, none⟩ = some pv ∧ w2.frozen? ⟨xg, 1, none⟩ = false := by
  have hlt := (Array.getElem?_eq_some_iff.1 hx).1
  have h2 : w2.heap[xg]? = some (.cells #[dv, pv] 43 (0, 0)) := (hg.block xg (by simp; omega) (Ne.symm hne)).trans ((Below.heap_alloc _ _ _ hlt).trans hx)
  exact ⟨by rw [cell_of_row w2 _ _ _ _ _ h2]; rfl, dk_frozen w2 xg 1 _ _ h2⟩

set_option maxRecDepth 100000 in
set_option maxHeartbeats 4000000 in
theorem dk_write2 {i : Nat} {c : Nat → Nat} {W : World} {g : Nat} {D : Dk.D} {m : Nat} {xs : List Fe} (h : DiskIs i c W g D m xs) (s : ByteArray) (hs : s.size ≤ 9223372036854775807) (nb db ab bb : Nat) (f : Dk.Fl) (hf : Dk.find s.data.toList D.fs = some f)
    (a : Nat) (b : Dk.Bs) (bv : Value) (hpos : 0 < b.length) (hbd : a + b.length ≤ 16777216) (hmany : f.pend.length < 65536) (hrd : RdB W W.heap.size bv b)
    (hn : W.cell? ⟨nb, 0, none⟩ = some (.string s)) (hd : W.cell? ⟨db, 0, none⟩ = some (.pointer (some ⟨g, 0, none⟩))) (ha : W.cell? ⟨ab, 0, none⟩ = some (.int .i64 a)) (hb : W.cell? ⟨bb, 0, none⟩ = some bv) :
    Calls Tryd.prog 33 #[.pointer (some ⟨db, 0, none⟩), .pointer (some ⟨nb, 0, none⟩), .pointer (some ⟨ab, 0, none⟩), .pointer (some ⟨bb, 0, none⟩)] W fun e W' => ∃ c', e = .returned (.tuple #[]) ∧ DiskAt i c' W' g { D with fs := Dk.upd s.data.toList ⟨f.dur, f.pend ++ [⟨a, b⟩]⟩ D.fs } ∧ Chg i c c' W W' := by
  obtain ⟨l1, x, l2, rfl, hnm, rfl⟩ := h.find_some hf
  obtain ⟨i0, hi, hz0, hz1, hz2⟩ := info_parts dk_infoWrite
  have c0 := h.cells.1
  have hF := h.file x (by simp)
  have hxg := (h.col x.g (mem_blks (x := x) (by simp) (by simp [Fe.blks]) g m)).2
  have hpvl : ∀ k, x.pv.ownBlock = some k → k < W.heap.size := fun k hk => (h.col k (mem_blks (x := x) (by simp) (by simp [Fe.blks, hk]) g m)).2
  have hl := fun n => DiskIs.look_some h s (by unfold maxLen; omega) hnm (W.drewN n) rfl
  have p1 : W.cell? ⟨x.g, 1, none⟩ = some x.pv := by rw [cell_of_row W _ _ _ _ _ hF.row]; rfl
  have hnbs := World.block_lt_of_cell? W _ ha
  have hbbs := World.block_lt_of_cell? W _ hb
  have hcl := fun W' (hh : W'.heap = W.heap) => dk_cloneB bv b W' (by rcases hrd with hr | ⟨g, off, cap, hv, h1, h2, h3, h4⟩; (exact .inl hr); (exact .inr ⟨g, off, cap, hv, h1, by rw [hh]; exact h2, by rw [hh]; exact h3, fun j c hj => by rw [World.cell?_of_block (w := W) (w' := W') (by rw [hh])]; exact h4 j c hj⟩)) (by omega)
  have hown0 := fun (w1 : World) (hb1 : Below W.heap.size W w1) => (show w1.ownsRow 0 61 2 x.pv x.f.pend.length (wrCells x.f.pend x.vs) from hF.own.kept (dk_grown_of_below none hb1) (by cases hv : x.pv.ownBlock <;> simp))
  have hrowx := fun (w1 : World) (hb1 : Below W.heap.size W w1) => (hb1.block x.g hxg).trans hF.row
  obtain ⟨pa, pc, hpv⟩ : ∃ pa pc, x.pv = .slice pa x.f.pend.length pc := by
    obtain ⟨ao, cap, hv, _⟩ := hF.is
    exact ⟨_, _, hv⟩
  have H := Lib.hid h
  have HNM := Lib.hid hnm
  have HCL := Lib.hid hcl
  have HOW := Lib.hid hown0
  have HRX := Lib.hid hrowx
  have HPL := Lib.hid hpvl
  have HND := Lib.hid (Fe.nodup h)
  have HMN := Lib.hid hmany
  have HPV := Lib.hid hpv
  clear h hf hnm hcl hown0 hrowx hpvl hF hpv hrd hmany
  go_enter Tryd.func33, Tryd.ntmps33
  go_wp2_with fail
  go_quiet (fail)
  go_wp2_with fail
  clear hl hn hd c0
  have hcl := HCL.out (W.drewN (nq + 1)) rfl
  go_region_law (first
    | (refine dk_step_call (by rfl) _ _ _ (by rfl) dk_ent34 #[bv] (by simp [Act.eval]) (hcl.mono ?_); rintro e w1 ⟨v', rfl, hown1, hb1'⟩; have hb1 : Below W.heap.size W w1 := ⟨hb1'.os, hb1'.tape, hb1'.output, hb1'.size, hb1'.block⟩; clear hb1'; obtain ⟨a1, n1, rfl⟩ := (RdB.of_own hown1).form; have HB1 := Lib.hid hb1; have HO1 := Lib.hid hown1; have k1 := (hb1.cell (p := ⟨x.g, 1, none⟩) hxg).trans p1; have k2 := (hb1.cell (p := ⟨ab, 0, none⟩) hnbs).trans ha; have k6 := fun o => Lib.cell?_alloc_some (W := w1) o k1; clear hb1 hown1; refine ⟨_, rfl, ?_⟩)
    | (refine step_append_lies _ (by rfl) _ _ _ (by rfl) 0 61 i0 _ 2 32 Tryd.underlying41 hi hz0 hz1 hz2 rfl (by decide) x.pv x.f.pend.length (wrCells x.f.pend x.vs) (by rfl) ((HOW.out w1 HB1.out).alloc _) ⟨w1.heap.size, 0, none⟩ 1 1 [.int .i64 a, .slice a1 b.length n1] (by rfl) rfl (World.news_of_block (heap_alloc_new w1 _)) (by intro u hu; simp at hu; rcases hu with rfl | rfl <;> rfl) (by decide) (by unfold maxLen; have := HMN.out; omega) (by have := HMN.out; omega) (Nat.zero_le _) _ rfl ?_; intro g2 cap2 w2 hown2 hgrow2 hat2 hlt2; have k3 := dk_behind hgrow2 (HRX.out w1 HB1.out) HND.out; obtain ⟨k4, k5⟩ := k3; have HW2 := Lib.hid hown2; have HG2 := Lib.hid hgrow2; have HA2 := Lib.hid hat2; clear hown2 hgrow2 hat2)
    | fail)
  all_goals
    go_end0
    obtain ⟨c', h1, h2⟩ := H.out.wrote a b (.slice a1 b.length n1) g2 cap2 hpos hbd HMN.out HO1.out HB1.out HW2.out HG2.out (by have := HA2.out; rw [World.size_alloc] at this; exact this) hlt2
    rw [HNM.out] at h1
    exact ⟨c', rfl, h1, h2⟩

end Go.Proofs.YtegahpgnmeobhaaDoor
