/-
  write's do-closure.
  write's check-closure.
  write, Append.
  Read, Crash.
-/
import Derived.Test.YtamencnachmhoaaGreatDoorDkStep
import Derived.Shelf.Abstract
namespace Go.Proofs.YtamencnachmhoaaGreatDoor
open Go.RowKit

theorem dk_ent34 : ∀ args w, (callFunc 96 args).run Tryz.prog w = .ok (.enter 96 args) w := enters_of Tryz.func96 (by kernel_rfl) rfl

theorem Fe.nodup {i : Nat} {c : Nat → Nat} {W : World} {g : Nat} {D : Dk.D} {m : Nat} {l1 l2 : List Fe} {x : Fe} (h : DiskIs i c W g D m (l1 ++ x :: l2)) : x.pv.ownBlock ≠ some x.g := by
  have hnd := h.nd
  have e0 : g :: m :: (l1 ++ x :: l2).flatMap Fe.blks = (g :: m :: l1.flatMap Fe.blks) ++ (x.blks ++ l2.flatMap Fe.blks) := by simp
  rw [e0] at hnd
  have h0 : x.blks.Nodup := (List.nodup_append.1 (List.nodup_append.1 hnd).2.1).1
  intro e
  unfold Fe.blks at h0
  rw [e] at h0
  simp at h0

/-- a write more, in memory: what the do-closure leaves -/
theorem DiskIs.wrote {i : Nat} {c : Nat → Nat} {W w1 w2 : World} {g : Nat} {D : Dk.D} {m : Nat} {l1 l2 : List Fe} {x : Fe} (h : DiskIs i c W g D m (l1 ++ x :: l2)) (a : Nat) (b : Dk.Bs) (v' : Value) (g2 cap2 : Nat)
    (hpos : 0 < b.length) (hbd : a + b.length ≤ 16777216) (hmany : x.f.pend.length < 65536)
    (hown1 : w1.ownsRow W.heap.size 5 1 v' b.length (dkCells b)) (hb1 : Below W.heap.size W w1)
    (hown2 : w2.ownsRow 0 183 2 (.slice (some ⟨g2, 0, none⟩) (x.f.pend.length + 1) cap2) (x.f.pend.length + 1) (wrCells x.f.pend x.vs ++ [.int .i64 a, v']))
    (hgrow : (w1.alloc (.cells #[.int .i64 a, v'] 183)).grownBy w2 x.pv.ownBlock) (hat : x.pv.ownBlock = some g2 ∨ g2 = w1.heap.size + 1) (hlt : g2 < w2.heap.size) :
    ∃ c', DiskAt i c' (w2.setCell ⟨x.g, 1, none⟩ (.slice (some ⟨g2, 0, none⟩) (x.f.pend.length + 1) cap2)) g { D with fs := Dk.upd x.nm ⟨x.f.dur, x.f.pend ++ [⟨a, b⟩]⟩ D.fs } ∧ Chg i c c' W (w2.setCell ⟨x.g, 1, none⟩ (.slice (some ⟨g2, 0, none⟩) (x.f.pend.length + 1) cap2)) := by
  have hF := h.file x (by simp)
  have hxg := h.col x.g (mem_blks (x := x) (by simp) (by simp [Fe.blks]) g m)
  have hpvb : ∀ k, x.pv.ownBlock = some k → c k = i ∧ k < W.heap.size := fun k hk => h.col k (mem_blks (x := x) (by simp) (by simp [Fe.blks, hk]) g m)
  have hs1 := hb1.size
  have hs2 : w1.heap.size + 1 ≤ w2.heap.size := by have := hgrow.size; simpa using this
  have hw2 : ∀ k, k < W.heap.size → some k ≠ x.pv.ownBlock → w2.heap[k]? = W.heap[k]? := fun k hk hne =>
    (hgrow.block k (by simp; omega) hne).trans ((Below.heap_alloc _ _ _ (by omega)).trans (hb1.block k hk))
  have hrow2 : w2.heap[x.g]? = some (.cells #[x.dv, x.pv] 131 (0, 0)) := (hw2 x.g hxg.2 (Ne.symm (Fe.nodup h))).trans hF.row
  have hrow3 := dk_setCell w2 x.g 1 _ _ (.slice (some ⟨g2, 0, none⟩) (x.f.pend.length + 1) cap2) hrow2
  have hs3 : (w2.setCell ⟨x.g, 1, none⟩ (.slice (some ⟨g2, 0, none⟩) (x.f.pend.length + 1) cap2)).heap.size = w2.heap.size := by simp [World.setCell]
  have hg3 : w2.grownBy (w2.setCell ⟨x.g, 1, none⟩ (.slice (some ⟨g2, 0, none⟩) (x.f.pend.length + 1) cap2)) (some x.g) :=
    dk_grown_setCell w2 w2 x.g 1 _ ⟨rfl, rfl, rfl, Nat.le_refl _, fun _ _ _ => rfl⟩
  generalize w2.setCell ⟨x.g, 1, none⟩ (.slice (some ⟨g2, 0, none⟩) (x.f.pend.length + 1) cap2) = w3 at *
  have hW : ∀ k, k < W.heap.size → k ∉ x.blks → w3.heap[k]? = W.heap[k]? := by
    intro k hk hn
    simp only [Fe.blks, List.mem_cons, Option.mem_toList, not_or] at hn
    exact (hg3.block k (by omega) (fun e => hn.1 (by cases e; rfl))).trans (hw2 k hk (fun e => hn.2 e.symm))
  obtain ⟨c', hc'⟩ : ∃ c' : Nat → Nat, c' = fun k => if W.heap.size ≤ k then (if k = g2 then i else 0) else c k := ⟨_, rfl⟩
  have hcold : ∀ k, k < W.heap.size → c' k = c k := fun k hk => by rw [hc']; simp only []; rw [if_neg (by omega)]
  have hg2x : g2 ≠ x.g := by
    rcases hat with e | e
    · intro e'; exact Fe.nodup h (by rw [e, e'])
    · have := hxg.2; omega
  have hv'lt := hown1.lt
  have hread : ∀ k, k < W.heap.size → c k = 0 → w3.heap[k]? = W.heap[k]? ∧ c' k = 0 := fun k hk h0 => by
    refine ⟨hW k hk (fun hb => ?_), (hcold k hk).trans h0⟩
    have := (h.col k (mem_blks (x := x) (by simp) hb g m)).1
    exact h.ne (by omega)
  have hv3 : w3.ownsRow W.heap.size 5 1 v' b.length (dkCells b) := by
    refine ((hown1.alloc (.cells #[.int .i64 a, v'] 183)).kept hgrow ?_).kept hg3 ?_
    · cases hv : v'.ownBlock with
      | none => exact .inl rfl
      | some k => exact .inr (fun e => by have := (hv'lt k hv).1; have := (hpvb k e.symm).2; omega)
    · cases hv : v'.ownBlock with
      | none => exact .inl rfl
      | some k => exact .inr (fun e => by cases e; have := (hv'lt x.g hv).1; have := hxg.2; omega)
  have hv'c : ∀ k, v'.ownBlock = some k → c' k = 0 := fun k hk => by
    have h1 := hv'lt k hk
    rw [hc']
    simp only []
    rw [if_pos h1.1, if_neg]
    rcases hat with e | e
    · have := (hpvb g2 e).2; omega
    · omega
  have hx1 : FeAt c' w3 ⟨x.nm, x.g, x.dv, .slice (some ⟨g2, 0, none⟩) (x.f.pend.length + 1) cap2, x.vs ++ [v'], ⟨x.f.dur, x.f.pend ++ [⟨a, b⟩]⟩⟩ := by
    refine ⟨hrow3, hF.dur.keep (by omega) hread, ?_, ?_, ?_, by simp; omega⟩
    · have e := wrCells_append x.f.pend [⟨a, b⟩] x.vs [v'] hF.wr.1
      simp only [List.length_append, List.length_cons, List.length_nil]
      rw [e]
      exact hown2.kept hg3 (.inr (fun e => hg2x (by simpa [Value.ownBlock] using e)))
    · refine (hF.wr.keep (by omega) hread).snoc ⟨RdB.of_own hv3, fun _ k hk => hv'c k hk⟩ hpos hbd
    · show (Dk.contents x.f.dur (x.f.pend ++ [⟨a, b⟩])).length ≤ _
      rw [Dk.contents_snoc, Dk.Wr.apply, Dk.over_length]
      have := hF.size
      unfold Dk.Fl.contents at this
      simp only []
      omega
  refine ⟨c', ⟨m, _, h.turn (x0 := x) (x1 := ⟨x.nm, x.g, x.dv, .slice (some ⟨g2, 0, none⟩) (x.f.pend.length + 1) cap2, x.vs ++ [v'], ⟨x.f.dur, x.f.pend ++ [⟨a, b⟩]⟩⟩) rfl rfl (by omega) hW hcold hx1 (fun k hk => ?_)⟩,
    h.turn_chg (hg3.os.trans (hgrow.os.trans hb1.os)) (hg3.tape.trans (hgrow.tape.trans hb1.tape)) (hg3.output.trans (hgrow.output.trans hb1.output)) (by omega) hW hcold⟩
  simp only [Value.ownBlock, Option.some.injEq] at hk
  subst hk
  rcases hat with e | e
  · exact .inl e
  · refine .inr ⟨by omega, by omega, ?_⟩
    rw [hc']
    simp only []
    rw [if_pos (by omega)]
    simp

theorem dk_behind {w1 w2 : World} {o : Obj} {row : Option Nat} {xg : Nat} {dv pv : Value} (hg : (w1.alloc o).grownBy w2 row) (hx : w1.heap[xg]? = some (.cells #[dv, pv] 131 (0, 0))) (hne : row ≠ some xg) :
    w2.cell? ⟨xg, 1, none⟩ = some pv ∧ w2.frozen? ⟨xg, 1, none⟩ = false := by
  have hlt := (Array.getElem?_eq_some_iff.1 hx).1
  have h2 : w2.heap[xg]? = some (.cells #[dv, pv] 131 (0, 0)) := (hg.block xg (by simp; omega) (Ne.symm hne)).trans ((Below.heap_alloc _ _ _ hlt).trans hx)
  exact ⟨by rw [cell_of_row w2 _ _ _ _ _ h2]; rfl, dk_frozen w2 xg 1 _ _ h2⟩

set_option maxRecDepth 100000 in
set_option maxHeartbeats 4000000 in
theorem dk_write2 {i : Nat} {c : Nat → Nat} {W : World} {g : Nat} {D : Dk.D} {m : Nat} {xs : List Fe} (h : DiskIs i c W g D m xs) (s : ByteArray) (hs : s.size ≤ 9223372036854775807) (nb db ab bb : Nat) (f : Dk.Fl) (hf : Dk.find s.data.toList D.fs = some f)
    (a : Nat) (b : Dk.Bs) (bv : Value) (hpos : 0 < b.length) (hbd : a + b.length ≤ 16777216) (hmany : f.pend.length < 65536) (hrd : RdB W W.heap.size bv b)
    (hn : W.cell? ⟨nb, 0, none⟩ = some (.string s)) (hd : W.cell? ⟨db, 0, none⟩ = some (.pointer (some ⟨g, 0, none⟩))) (ha : W.cell? ⟨ab, 0, none⟩ = some (.int .i64 a)) (hb : W.cell? ⟨bb, 0, none⟩ = some bv) :
    Calls Tryz.prog 134 #[.pointer (some ⟨db, 0, none⟩), .pointer (some ⟨nb, 0, none⟩), .pointer (some ⟨ab, 0, none⟩), .pointer (some ⟨bb, 0, none⟩)] W fun e W' => ∃ c', e = .returned (.tuple #[]) ∧ DiskAt i c' W' g { D with fs := Dk.upd s.data.toList ⟨f.dur, f.pend ++ [⟨a, b⟩]⟩ D.fs } ∧ Chg i c c' W W' := by
  obtain ⟨l1, x, l2, rfl, hnm, rfl⟩ := h.find_some hf
  obtain ⟨i0, hi, hz0, hz1, hz2⟩ := info_parts dk_infoWrite
  have c0 := h.cells.1
  have hF := h.file x (by simp)
  have hxg := (h.col x.g (mem_blks (x := x) (by simp) (by simp [Fe.blks]) g m)).2
  have hpvl : ∀ k, x.pv.ownBlock = some k → k < W.heap.size := fun k hk => (h.col k (mem_blks (x := x) (by simp) (by simp [Fe.blks, hk]) g m)).2
  have hl := fun n => DiskIs.look_some h s (by unfold maxLen; omega) hnm (W.drewN n) rfl
  have p1 : W.cell? ⟨x.g, 1, none⟩ = some x.pv := by rw [cell_of_row W _ _ _ _ _ hF.row]; rfl
  have hnbs := World.block_lt_of_cell? W _ ha
  have hbbs := World.block_lt_of_cell? W _ hb
  have hcl := fun W' (hh : W'.heap = W.heap) => dk_cloneB bv b W' (by rcases hrd with hr | ⟨g, off, cap, hv, h1, h2, h3, h4⟩; (exact .inl hr); (exact .inr ⟨g, off, cap, hv, h1, by rw [hh]; exact h2, by rw [hh]; exact h3, fun j c hj => by rw [World.cell?_of_block (w := W) (w' := W') (by rw [hh])]; exact h4 j c hj⟩)) (by omega)
  have hown0 := fun (w1 : World) (hb1 : Below W.heap.size W w1) => (show w1.ownsRow 0 183 2 x.pv x.f.pend.length (wrCells x.f.pend x.vs) from hF.own.kept (dk_grown_of_below none hb1) (by cases hv : x.pv.ownBlock <;> simp))
  have hrowx := fun (w1 : World) (hb1 : Below W.heap.size W w1) => (hb1.block x.g hxg).trans hF.row
  obtain ⟨pa, pc, hpv⟩ : ∃ pa pc, x.pv = .slice pa x.f.pend.length pc := by
    obtain ⟨ao, cap, hv, _⟩ := hF.is
    exact ⟨_, _, hv⟩
  have H := Lib.hid h
  have HNM := Lib.hid hnm
  have HCL := Lib.hid hcl
  have HOW := Lib.hid hown0
  have HRX := Lib.hid hrowx
  have HPL := Lib.hid hpvl
  have HND := Lib.hid (Fe.nodup h)
  have HMN := Lib.hid hmany
  have HPV := Lib.hid hpv
  clear h hf hnm hcl hown0 hrowx hpvl hF hpv hrd hmany
  go_enter Tryz.func134, Tryz.ntmps134
  go_wp2_with fail
  go_quiet (fail)
  go_wp2_with fail
  clear hl hn hd c0
  have hcl := HCL.out (W.drewN (nq + 1)) rfl
  go_region_law (first
    | (refine dk_step_call (by rfl) _ _ _ (by rfl) dk_ent34 #[bv] (by simp [Act.eval]) (hcl.mono ?_); rintro e w1 ⟨v', rfl, hown1, hb1'⟩; have hb1 : Below W.heap.size W w1 := ⟨hb1'.os, hb1'.tape, hb1'.output, hb1'.size, hb1'.block⟩; clear hb1'; obtain ⟨a1, n1, rfl⟩ := (RdB.of_own hown1).form; have HB1 := Lib.hid hb1; have HO1 := Lib.hid hown1; have k1 := (hb1.cell (p := ⟨x.g, 1, none⟩) hxg).trans p1; have k2 := (hb1.cell (p := ⟨ab, 0, none⟩) hnbs).trans ha; have k6 := fun o => Lib.cell?_alloc_some (W := w1) o k1; clear hb1 hown1; refine ⟨_, rfl, ?_⟩)
    | (refine step_append_lies _ (by rfl) _ _ _ (by rfl) 0 183 i0 _ 2 32 Tryz.underlying129 hi hz0 hz1 hz2 rfl (by decide) x.pv x.f.pend.length (wrCells x.f.pend x.vs) (by rfl) ((HOW.out w1 HB1.out).alloc _) ⟨w1.heap.size, 0, none⟩ 1 1 [.int .i64 a, .slice a1 b.length n1] (by rfl) rfl (World.news_of_block (heap_alloc_new w1 _)) (by intro u hu; simp at hu; rcases hu with rfl | rfl <;> rfl) (by decide) (by unfold maxLen; have := HMN.out; omega) (by have := HMN.out; omega) (Nat.zero_le _) _ rfl ?_; intro g2 cap2 w2 hown2 hgrow2 hat2 hlt2; have k3 := dk_behind hgrow2 (HRX.out w1 HB1.out) HND.out; obtain ⟨k4, k5⟩ := k3; have HW2 := Lib.hid hown2; have HG2 := Lib.hid hgrow2; have HA2 := Lib.hid hat2; clear hown2 hgrow2 hat2)
    | fail)
  all_goals
    go_end0
    obtain ⟨c', h1, h2⟩ := H.out.wrote a b (.slice a1 b.length n1) g2 cap2 hpos hbd HMN.out HO1.out HB1.out HW2.out HG2.out (by have := HA2.out; rw [World.size_alloc] at this; exact this) hlt2
    rw [HNM.out] at h1
    exact ⟨c', rfl, h1, h2⟩

end Go.Proofs.YtamencnachmhoaaGreatDoor

namespace Go.Proofs.YtamencnachmhoaaGreatDoor
open Go.RowKit

/-- one cell of a block of one cell is written: the block, the others -/
theorem dk_one {W W1 : World} {ab : Nat} {v : Value} {t : TypeId} (u : Value) (hb : Below W.heap.size W W1) (ha : W.heap[ab]? = some (.cells #[v] t (0, 0))) :
    W.grownBy (W1.setCell ⟨ab, 0, none⟩ u) (some ab) ∧ (W1.setCell ⟨ab, 0, none⟩ u).heap[ab]? = some (.cells #[u] t (0, 0)) := by
  have hlt := (Array.getElem?_eq_some_iff.1 ha).1
  exact ⟨dk_grown_setCell W W1 ab 0 u (dk_grown_of_below _ hb), dk_setCell W1 ab 0 _ _ u ((hb.block ab hlt).trans ha)⟩

set_option maxRecDepth 100000 in
set_option maxHeartbeats 2000000 in
theorem dk_write1 {i : Nat} {c : Nat → Nat} {W : World} {g : Nat} {D : Dk.D} {m : Nat} {xs : List Fe} (h : DiskIs i c W g D m xs) (s : ByteArray) (hs : s.size ≤ 9223372036854775807) (nb db ob ab bb : Nat) (pos : Nat → Int) (k : FuncId) (cap : Array Value)
    (b : Dk.Bs) (ba : Option Addr) (bc : Nat) (hblen : b.length ≤ 1073741824)
    (hent : ∀ args w, (callFunc k args).run Tryz.prog w = .ok (.enter k args) w)
    (hfn : ∀ (n : Nat) (W' : World), Below W.heap.size W W' → Calls Tryz.prog k (#[.int .i64 n] ++ cap) W' fun e w' => e = .returned (.int .i64 (pos n)) ∧ W' = w')
    (hn : W.cell? ⟨nb, 0, none⟩ = some (.string s)) (hd : W.cell? ⟨db, 0, none⟩ = some (.pointer (some ⟨g, 0, none⟩))) (ho : W.cell? ⟨ob, 0, none⟩ = some (.func (.func k) #[] cap))
    (ha : W.heap[ab]? = some (.cells #[.int .i64 0] 3 (0, 0))) (hb : W.cell? ⟨bb, 0, none⟩ = some (.slice ba b.length bc)) (hne : ab ≠ bb ∧ ab ≠ ob) :
    Calls Tryz.prog 132 #[.pointer (some ⟨db, 0, none⟩), .pointer (some ⟨nb, 0, none⟩), .pointer (some ⟨ob, 0, none⟩), .pointer (some ⟨ab, 0, none⟩), .pointer (some ⟨bb, 0, none⟩)] W fun e W' =>
      e = .returned (.int .i64 (Dk.writeCheck D s.data.toList pos b)) ∧ W.grownBy W' (some ab) ∧ ∀ f, Dk.find s.data.toList D.fs = some f → W'.heap[ab]? = some (.cells #[.int .i64 (pos f.contents.length)] 3 (0, 0)) := by
  have c0 := h.cells.1
  have hal := (Array.getElem?_eq_some_iff.1 ha).1
  have HB := Lib.hid hb
  cases hf : Dk.find s.data.toList D.fs with
  | none =>
    have HW : Hid (Dk.writeCheck D s.data.toList pos b = 9) := by show _ = _; unfold Dk.writeCheck; rw [hf]
    have hl := fun n => DiskIs.look_none h s (by unfold maxLen; omega) hf (W.drewN n) rfl
    clear h hf hfn hb
    go_enter Tryz.func132, Tryz.ntmps132
    go_wp2_with fail
    go_quiet (fail)
    go_wp2_with fail
    go_ret
    rw [HW.out]
    exact ⟨rfl, ⟨rfl, rfl, rfl, Nat.le_refl _, fun _ _ _ => rfl⟩, fun f h => by cases h⟩
  | some f =>
    obtain ⟨l1, x, l2, rfl, hnm, rfl⟩ := h.find_some hf
    have hl := fun n => DiskIs.look_some h s (by unfold maxLen; omega) hnm (W.drewN n) rfl
    have hF := h.file x (by simp)
    have hsz := fun n => dk_size x.g x.dv x.pv x.f.dur x.f.pend (W.drewN n) hF.row (hF.same (W' := W.drewN n) rfl).dur.1 (hF.same (W' := W.drewN n) rfl).rd (by have := hF.size; unfold Dk.Fl.contents at this; omega)
    have hctn := hF.size
    have HFN := Lib.hid hfn
    have HW : Hid (Dk.writeCheck D s.data.toList pos b = if pos x.f.contents.length < 0 ∨ 16777216 - (b.length : Int) < pos x.f.contents.length then 2 else 0) := by show _ = _; unfold Dk.writeCheck; rw [hf]
    have HA := Lib.hid ha
    simp only [show Dk.contents x.f.dur x.f.pend = x.f.contents from rfl] at hsz
    have hol := World.block_lt_of_cell? W _ ho
    have hbl := World.block_lt_of_cell? W _ hb
    generalize hcl : x.f.contents.length = N at *
    have HSZ := Lib.hid hsz
    have HN := Lib.hid hcl
    clear h hf hfn hnm hF hsz ha hb hcl
    -- the rest, at whatever offset comes out
    go_enter Tryz.func132, Tryz.ntmps132
    go_wp2_with fail
    go_quiet (fail)
    go_wp2_with fail
    clear hl hn hd c0
    have hsz1 := HSZ.out (nq + 1)
    have hfacts : ∀ w1, Below W.heap.size W w1 → w1.cell? ⟨ob, 0, none⟩ = some (.func (.func k) #[] cap) ∧ w1.cell? ⟨ab, 0, none⟩ = some (.int .i64 0) ∧ w1.frozen? ⟨ab, 0, none⟩ = false ∧ w1.cell? ⟨bb, 0, none⟩ = some (.slice ba b.length bc) ∧ ∀ u, (w1.setCell ⟨ab, 0, none⟩ u).cell? ⟨bb, 0, none⟩ = some (.slice ba b.length bc) := by
      intro w1 hb1
      have h1 := (hb1.block ab hal).trans HA.out
      exact ⟨(hb1.cell (p := ⟨ob, 0, none⟩) hol).trans ho, by rw [cell_of_row w1 _ _ _ _ _ h1]; rfl, dk_frozen w1 ab 0 _ _ h1, (hb1.cell (p := ⟨bb, 0, none⟩) hbl).trans HB.out, fun u => (World.cell?_of_block (w := w1) (w' := w1.setCell ⟨ab, 0, none⟩ u) (a := ⟨bb, 0, none⟩) (Below.heap_setCell w1 _ u bb (fun e => hne.1 e.symm))).trans ((hb1.cell (p := ⟨bb, 0, none⟩) hbl).trans HB.out)⟩
    have HF := Lib.hid hfacts
    clear hfacts
    go_region_with (first
      | (go_at_call 133; refine hsz1.mono ?_; rintro e w1 ⟨rfl, hb1'⟩; have hb1 : Below W.heap.size W w1 := ⟨hb1'.os, hb1'.tape, hb1'.output, hb1'.size, hb1'.block⟩; clear hb1'; obtain ⟨q1, q2, q3, q4, q5⟩ := HF.out w1 hb1; have HB1 := Lib.hid hb1; have hf1 := HFN.out N w1 hb1; clear hb1)
      | (go_at_fn k; refine hf1.mono ?_; rintro e w' ⟨rfl, rfl⟩))
    all_goals
      obtain ⟨r1, r2⟩ := dk_one (.int .i64 (pos N)) HB1.out HA.out
      have R1 := Lib.hid r1
      have R2 := Lib.hid r2
      clear r1 r2 hsz1 hf1 q1 q4
      by_cases hp1 : pos N < 0
      · have hd1 : decide (pos N < 0) = true := by simpa using hp1
        have HC : Hid (Dk.writeCheck D s.data.toList pos b = 2) := by show _ = _; rw [HW.out, if_pos (Or.inl hp1)]
        clear hp1
        go_wp2_with fail
        go_ret
        rw [HC.out]
        exact ⟨rfl, R1.out, fun f hf => by cases hf; rw [HN.out]; exact R2.out⟩
      · have hd1 : decide (pos N < 0) = false := by simpa using hp1
        by_cases hp2 : 16777216 - (b.length : Int) < pos N
        · have HC : Hid (Dk.writeCheck D s.data.toList pos b = 2) := by show _ = _; rw [HW.out, if_pos (Or.inr hp2)]
          have hd2 : decide (16777216 - (b.length : Int) < pos N) = true := by simpa using hp2
          clear hp1 hp2
          go_wp2_with fail
          go_ret
          rw [HC.out]
          exact ⟨rfl, R1.out, fun f hf => by cases hf; rw [HN.out]; exact R2.out⟩
        · have HC : Hid (Dk.writeCheck D s.data.toList pos b = 0) := by show _ = _; rw [HW.out, if_neg (by omega)]
          have hd2 : decide (16777216 - (b.length : Int) < pos N) = false := by simpa using hp2
          clear hp1 hp2
          go_wp2_with fail
          go_ret
          rw [HC.out]
          exact ⟨rfl, R1.out, fun f hf => by cases hf; rw [HN.out]; exact R2.out⟩

end Go.Proofs.YtamencnachmhoaaGreatDoor

namespace Go.Proofs.YtamencnachmhoaaGreatDoor
open Go.RowKit

theorem Chg.of_below' {i : Nat} {c c' : Nat → Nat} {W W' : World} (hb : Below W.heap.size W W') (hc : ∀ k, k < W.heap.size → c' k = c k) : Chg i c c' W W' :=
  ⟨hb.os, hb.tape, hb.output, hb.size, fun b h _ => hb.block b h, hc⟩

/-- bytes in a block that neither disk i nor colour i + 1 may turn -/
def RdN (i : Nat) (c : Nat → Nat) (W : World) (v : Value) (l : Dk.Bs) : Prop := RdB W W.heap.size v l ∧ (l ≠ [] → ∀ g, v.ownBlock = some g → c g ≠ i ∧ c g ≠ i + 1)
theorem RdC.toN {i : Nat} {c : Nat → Nat} {W : World} {v : Value} {l : Dk.Bs} (h : RdC c W v l) (hi : i ≠ 0) : RdN i c W v l :=
  ⟨h.1, fun hne g hg => by have := h.2 hne g hg; omega⟩
theorem RdN.chg {i j : Nat} {c c' : Nat → Nat} {W W' : World} {v : Value} {l : Dk.Bs} (h : RdN i c W v l) (hc : Chg j c c' W W') (hj : j = i ∨ j = i + 1) : RdN i c' W' v l := by
  obtain ⟨h1, h2⟩ := h
  rcases h1 with h1 | ⟨g, off, cap, rfl, hcp, hg, hs', hx⟩
  · exact ⟨.inl h1, fun hne => absurd h1.1 hne⟩
  · by_cases hl : l = []
    · subst hl
      exact ⟨.inl ⟨rfl, _, _, rfl⟩, fun hne => absurd rfl hne⟩
    · obtain ⟨n1, n2⟩ := h2 hl g rfl
      have e1 := hc.block g hg (by rcases hj with rfl | rfl <;> assumption)
      have e2 := hc.col g hg
      have hsz := hc.size
      refine ⟨.inr ⟨g, off, cap, rfl, hcp, by omega, by omega, fun j u hj => ?_⟩, fun _ k hk' => ?_⟩
      · rw [World.cell?_of_block (w := W) (a := ⟨g, off + j, none⟩) e1]
        exact hx j u hj
      · simp only [Value.ownBlock, Option.some.injEq] at hk'
        subst hk'
        rw [e2]
        exact ⟨n1, n2⟩

theorem dk_ent31 : ∀ args w, (callFunc 132 args).run Tryz.prog w = .ok (.enter 132 args) w := enters_of Tryz.func132 (by kernel_rfl) rfl
theorem dk_ent33 : ∀ args w, (callFunc 134 args).run Tryz.prog w = .ok (.enter 134 args) w := enters_of Tryz.func134 (by kernel_rfl) rfl

/-- the world behind write's boxes -/
def wrBoxes (W : World) (g : Nat) (s : ByteArray) (k : FuncId) (cap : Array Value) (bv : Value) : World :=
  ((((W.alloc (.cells #[.pointer (some ⟨g, 0, none⟩)] 41)).alloc (.cells #[.string s] 9)).alloc (.cells #[.func (.func k) #[] cap] 125)).alloc (.cells #[bv] 22)).alloc (.cells #[.int .i64 0] 3)

theorem wrBoxes_below (W : World) (g : Nat) (s : ByteArray) (k : FuncId) (cap : Array Value) (bv : Value) : Below W.heap.size W (wrBoxes W g s k cap bv) := by
  unfold wrBoxes
  exact (((((Below.refl _ _).alloc (Nat.le_refl _) _).alloc (by simp) _).alloc (by simp; omega) _).alloc (by simp; omega) _).alloc (by simp; omega) _
theorem wrBoxes_size (W : World) (g : Nat) (s : ByteArray) (k : FuncId) (cap : Array Value) (bv : Value) : (wrBoxes W g s k cap bv).heap.size = W.heap.size + 5 := by simp [wrBoxes]
theorem wrBoxes_cells (W : World) (g : Nat) (s : ByteArray) (k : FuncId) (cap : Array Value) (bv : Value) :
    (wrBoxes W g s k cap bv).cell? ⟨W.heap.size, 0, none⟩ = some (.pointer (some ⟨g, 0, none⟩)) ∧ (wrBoxes W g s k cap bv).cell? ⟨W.heap.size + 1, 0, none⟩ = some (.string s) ∧
    (wrBoxes W g s k cap bv).cell? ⟨W.heap.size + 2, 0, none⟩ = some (.func (.func k) #[] cap) ∧ (wrBoxes W g s k cap bv).cell? ⟨W.heap.size + 3, 0, none⟩ = some bv ∧
    (wrBoxes W g s k cap bv).heap[W.heap.size + 4]? = some (.cells #[.int .i64 0] 3 (0, 0)) := by
  have new : ∀ (w : World) (v : Value) (t : TypeId), (w.alloc (.cells #[v] t)).cell? ⟨w.heap.size, 0, none⟩ = some v := fun w v t => by simp
  have n2 := new (W.alloc (.cells #[.pointer (some ⟨g, 0, none⟩)] 41)) (.string s) 9
  have n3 := new ((W.alloc (.cells #[.pointer (some ⟨g, 0, none⟩)] 41)).alloc (.cells #[.string s] 9)) (.func (.func k) #[] cap) 125
  have n4 := new (((W.alloc (.cells #[.pointer (some ⟨g, 0, none⟩)] 41)).alloc (.cells #[.string s] 9)).alloc (.cells #[.func (.func k) #[] cap] 125)) bv 22
  simp only [World.size_alloc] at n2 n3 n4
  unfold wrBoxes
  refine ⟨Lib.cell?_alloc_some _ (Lib.cell?_alloc_some _ (Lib.cell?_alloc_some _ (Lib.cell?_alloc_some _ (new W _ _)))), Lib.cell?_alloc_some _ (Lib.cell?_alloc_some _ (Lib.cell?_alloc_some _ n2)), Lib.cell?_alloc_some _ (Lib.cell?_alloc_some _ n3), Lib.cell?_alloc_some _ n4, ?_⟩
  have := heap_alloc_new ((((W.alloc (.cells #[.pointer (some ⟨g, 0, none⟩)] 41)).alloc (.cells #[.string s] 9)).alloc (.cells #[.func (.func k) #[] cap] 125)).alloc (.cells #[bv] 22)) (.cells #[.int .i64 0] 3)
  simpa using this

set_option maxRecDepth 100000 in
set_option maxHeartbeats 2000000 in
theorem dk_write {i : Nat} {c : Nat → Nat} {W : World} {g : Nat} {D : Dk.D} (h : DiskAt i c W g D) (s : ByteArray) (hs : s.size ≤ 9223372036854775807) (hbud : D.bud ≤ 9223372036854775807) (pos : Nat → Int) (k : FuncId) (cap : Array Value)
    (hent : ∀ args w, (callFunc k args).run Tryz.prog w = .ok (.enter k args) w)
    (hfn : ∀ (n : Nat) (W' : World), Below W.heap.size W W' → Calls Tryz.prog k (#[.int .i64 n] ++ cap) W' fun e w' => e = .returned (.int .i64 (pos n)) ∧ W' = w')
    (b : Dk.Bs) (bv : Value) (hrd : RdN i c W bv b) (hblen : b.length ≤ 1073741824) (hmany : ∀ f, Dk.find s.data.toList D.fs = some f → f.pend.length < 65536) :
    Calls Tryz.prog 77 #[.pointer (some ⟨g, 0, none⟩), .string s, .func (.func k) #[] cap, bv] W (DkPost i c W g (D.write s.data.toList pos b)) := by
  obtain ⟨m, xs, h⟩ := h
  have hgl := (h.col g (by simp)).2
  obtain ⟨ba, bc, rfl⟩ := hrd.1.form
  have hbel := wrBoxes_below W g s k cap (.slice ba b.length bc)
  have hsz := wrBoxes_size W g s k cap (.slice ba b.length bc)
  obtain ⟨q1, q2, q3, q4, q5⟩ := wrBoxes_cells W g s k cap (.slice ba b.length bc)
  obtain ⟨Wb, hWb⟩ : ∃ Wb, Wb = wrBoxes W g s k cap (.slice ba b.length bc) := ⟨_, rfl⟩
  rw [← hWb] at hbel hsz q1 q2 q3 q4 q5
  have hI : DiskIs i (pnt c W.heap.size (i + 1)) Wb g D m xs := h.chg (Chg.of_below (i := i + 1) hbel (i + 1)) (by omega) (by omega)
  have hch : Chg i c (pnt c W.heap.size (i + 1)) W Wb := Chg.of_below hbel _
  have hfn' : ∀ (n : Nat) (W' : World), Below Wb.heap.size Wb W' → Calls Tryz.prog k (#[.int .i64 n] ++ cap) W' fun e w' => e = .returned (.int .i64 (pos n)) ∧ W' = w' := fun n W' hb => hfn n W' (hbel.trans (hb.mono (by omega)))
  have hck := dk_write1 hI s hs (W.heap.size + 1) W.heap.size (W.heap.size + 2) (W.heap.size + 4) (W.heap.size + 3) pos k cap b ba bc hblen hent hfn' q2 q1 q3 q5 q4 ⟨by omega, by omega⟩
  by_cases hb0 : b = []
  · -- nothing to write
    subst hb0
    cases hdn : D.down with
    | true =>
      have HR : Hid (D.write s.data.toList pos [] = (D, 32)) := by show _ = _; unfold Dk.D.write; rw [if_pos hdn]
      have hc2 : Wb.cell? ⟨g, 2, none⟩ = some (.bool true) := by rw [← hdn]; exact hI.cells.2.2.1
      have hfin : DkPost i c W g (D, 32) (.returned (.int .i64 32)) Wb := ⟨_, rfl, ⟨m, xs, hI⟩, hch⟩
      rw [hWb] at hc2 hfin
      have HFI := Lib.hid hfin
      have hrdy := dk_ready _ g true hc2
      unfold wrBoxes at hrdy HFI
      simp only [List.length_nil] at hrdy HFI
      clear h hI hch hck q1 q2 q3 q4 q5 hWb hbel hsz hfn hfn' hmany hrd hfin hc2
      go_enter Tryz.func77, Tryz.ntmps77
      go_wp2_with fail
      refine hrdy.mono ?_
      rintro e w1 ⟨rfl, rfl⟩
      go_wp2_with fail
      go_ret
      rw [HR.out]
      exact HFI.out
    | false =>
      have HR : Hid (D.write s.data.toList pos [] = (D, Dk.writeCheck D s.data.toList pos [])) := by
        show _ = _
        unfold Dk.D.write
        rw [if_neg (by simp [hdn])]
        by_cases e : Dk.writeCheck D s.data.toList pos [] = 0
        · rw [if_neg (by simp [e]), if_pos rfl, e]
        · rw [if_pos e]
      have hc2 : Wb.cell? ⟨g, 2, none⟩ = some (.bool false) := by rw [← hdn]; exact hI.cells.2.2.1
      have hck2 : Calls Tryz.prog 132 #[.pointer (some ⟨W.heap.size, 0, none⟩), .pointer (some ⟨W.heap.size + 1, 0, none⟩), .pointer (some ⟨W.heap.size + 2, 0, none⟩), .pointer (some ⟨W.heap.size + 4, 0, none⟩), .pointer (some ⟨W.heap.size + 3, 0, none⟩)] Wb (DkPost i c W g (D, Dk.writeCheck D s.data.toList pos [])) := by
        refine hck.mono ?_
        rintro e W1 ⟨rfl, hg1, _⟩
        have hC : Chg (i + 1) (pnt c W.heap.size (i + 1)) (pnt (pnt c W.heap.size (i + 1)) Wb.heap.size 0) Wb W1 :=
          ⟨hg1.os, hg1.tape, hg1.output, hg1.size, fun b hb hne => hg1.block b hb (fun e => hne (by cases e; exact pnt_new (by omega))), fun b hb => pnt_old hb⟩
        have hB : Below W.heap.size W W1 := ⟨hg1.os.trans hbel.os, hg1.tape.trans hbel.tape, hg1.output.trans hbel.output, Nat.le_trans hbel.size hg1.size, fun b hb => (hg1.block b (by omega) (fun e => by cases e; omega)).trans (hbel.block b hb)⟩
        exact ⟨_, rfl, ⟨m, xs, hI.chg hC (by omega) (by omega)⟩, Chg.of_below' hB (fun b hb => (pnt_old (by omega)).trans (pnt_old hb))⟩
      rw [hWb] at hc2 hck2
      have hrdy := dk_ready _ g false hc2
      unfold wrBoxes at hrdy hck2
      simp only [List.length_nil] at hrdy hck2
      have HCK := Lib.hid hck2
      clear h hI hch hck q1 q2 q3 q4 q5 hWb hbel hsz hfn hfn' hmany hrd hc2 hck2
      go_enter Tryz.func77, Tryz.ntmps77
      go_wp2_with fail
      refine hrdy.mono ?_
      rintro e w1 ⟨rfl, rfl⟩
      go_wp2_with fail
      refine HCK.out.mono ?_
      intro e W' hp
      have HP := Lib.hid hp
      obtain ⟨c', rfl, _⟩ := hp
      go_wp2_with fail
      go_ret
      rw [HR.out]
      exact HP.out
  · have hpos : 0 < b.length := List.length_pos_iff.2 hb0
    have main : Calls Tryz.prog 112 #[.pointer (some ⟨g, 0, none⟩), .func (.func 132) #[] #[.pointer (some ⟨W.heap.size, 0, none⟩), .pointer (some ⟨W.heap.size + 1, 0, none⟩), .pointer (some ⟨W.heap.size + 2, 0, none⟩), .pointer (some ⟨W.heap.size + 4, 0, none⟩), .pointer (some ⟨W.heap.size + 3, 0, none⟩)], .func (.func 134) #[] #[.pointer (some ⟨W.heap.size, 0, none⟩), .pointer (some ⟨W.heap.size + 1, 0, none⟩), .pointer (some ⟨W.heap.size + 4, 0, none⟩), .pointer (some ⟨W.heap.size + 3, 0, none⟩)]] Wb (DkPost i c W g (D.write s.data.toList pos b)) := by
      refine dk_modify Wb g D.bud D.down (.map (some m)) hI.row hbud _ _ _ _ dk_ent31 dk_ent33 _ (fun hdn => ?_) (fun hdn => ?_)
      · unfold Dk.D.write
        rw [if_pos hdn]
        exact ⟨_, rfl, ⟨m, xs, hI⟩, hch⟩
      · refine hck.mono ?_
        rintro e W1 ⟨rfl, hg1, hat⟩
        have hC : Chg (i + 1) (pnt c W.heap.size (i + 1)) (pnt (pnt c W.heap.size (i + 1)) Wb.heap.size 0) Wb W1 :=
          ⟨hg1.os, hg1.tape, hg1.output, hg1.size, fun b hb hne => hg1.block b hb (fun e => hne (by cases e; exact pnt_new (by omega))), fun b hb => pnt_old hb⟩
        have hB : Below W.heap.size W W1 := ⟨hg1.os.trans hbel.os, hg1.tape.trans hbel.tape, hg1.output.trans hbel.output, Nat.le_trans hbel.size hg1.size, fun b hb => (hg1.block b (by omega) (fun e => by cases e; omega)).trans (hbel.block b hb)⟩
        have hI1 := hI.chg hC (by omega) (by omega)
        have hs1 := hg1.size
        refine ⟨_, rfl, hg1.block g (by omega) (fun e => by cases e; omega), dk_modPost hI1 (Chg.of_below' hB (fun b hb => (pnt_old (by omega)).trans (pnt_old hb))) _ _ _
          (match Dk.find s.data.toList D.fs with | some f => Dk.upd s.data.toList ⟨f.dur, f.pend ++ [⟨(pos f.contents.length).toNat, b⟩]⟩ D.fs | none => []) _ (fun hr => ?_) (fun hr => ?_) (fun hr W2 bud h2 hch2 hk2 hs2 => ?_)⟩
        · unfold Dk.D.write
          rw [if_neg (by simp [hdn]), if_pos hr]
        · unfold Dk.D.write
          rw [if_neg (by simp [hdn]), if_neg (by simp [hr]), if_neg hb0]
          cases hf : Dk.find s.data.toList D.fs with
          | none => unfold Dk.writeCheck at hr; rw [hf] at hr; simp at hr
          | some f => rfl
        · cases hf : Dk.find s.data.toList D.fs with
          | none => unfold Dk.writeCheck at hr; rw [hf] at hr; simp at hr
          | some f =>
            have hrng : 0 ≤ pos f.contents.length ∧ pos f.contents.length ≤ 16777216 - (b.length : Int) := by
              unfold Dk.writeCheck at hr
              rw [hf] at hr
              simp only [] at hr
              split at hr
              · simp at hr
              · omega
            obtain ⟨a, ha⟩ := Int.eq_ofNat_of_zero_le hrng.1
            rw [ha] at hrng
            have hk : ∀ b, W.heap.size ≤ b → b < Wb.heap.size → b ≠ W.heap.size + 4 → ∀ v, Wb.cell? ⟨b, 0, none⟩ = some v → W2.cell? ⟨b, 0, none⟩ = some v := by
              intro b hb1' hb2' hne v hv
              have e1 := World.cell?_of_block (w := Wb) (w' := W1) (a := ⟨b, 0, none⟩) (hg1.block b hb2' (fun e => hne (by cases e; rfl)))
              have e2 := World.cell?_of_block (w := W1) (w' := W2) (a := ⟨b, 0, none⟩) (hk2 b (by omega) (by omega))
              exact e2.trans (e1.trans hv)
            have hab : W2.cell? ⟨W.heap.size + 4, 0, none⟩ = some (.int .i64 (a : Int)) := by
              have e1 := (hk2 (W.heap.size + 4) (by omega) (by omega)).trans (hat f hf)
              rw [cell_of_row W2 _ _ _ _ _ e1, ha]; rfl
            have hrd2 := ((hrd.chg (Chg.of_below (i := i + 1) hbel (i + 1)) (.inr rfl)).chg hC (.inr rfl)).chg hch2 (.inl rfl)
            have := dk_write2 h2 s hs (W.heap.size + 1) W.heap.size (W.heap.size + 4) (W.heap.size + 3) f hf a b (.slice ba b.length bc) hpos (by omega) (hmany f hf) hrd2.1 (hk _ (by omega) (by omega) (by omega) _ q2) (hk _ (by omega) (by omega) (by omega) _ q1) hab (hk _ (by omega) (by omega) (by omega) _ q4)
            simp only [ha, Int.toNat_natCast]
            exact this
    rw [hWb] at main
    unfold wrBoxes at main
    have HM := Lib.hid main
    have hlb : ((b.length : Int) == 0) = false := by simpa using hb0
    clear main h hI hch hck q1 q2 q3 q4 q5 hWb hbel hsz hfn hfn' hmany hrd hb0
    go_enter Tryz.func77, Tryz.ntmps77
    go_wp2_with fail
    refine HM.out.mono ?_
    intro e W' hp
    have HP := Lib.hid hp
    obtain ⟨c', rfl, _⟩ := hp
    go_wp2_with fail
    go_ret
    exact HP.out

theorem dk_ent18 : ∀ args w, (callFunc 116 args).run Tryz.prog w = .ok (.enter 116 args) w := enters_of Tryz.func116 (by kernel_rfl) rfl
theorem dk_append1 (n : Int) (W : World) : Calls Tryz.prog 116 #[.int .i64 n] W fun e w' => e = .returned (.int .i64 n) ∧ W = w' := by
  go_enter Tryz.func116, Tryz.ntmps116
  go_wp2
  go_ret
  exact ⟨rfl, rfl⟩

set_option maxHeartbeats 1000000 in
theorem dk_AppendN {i : Nat} {c : Nat → Nat} {W : World} {g : Nat} {D : Dk.D} (h : DiskAt i c W g D) (s : ByteArray) (hs : s.size ≤ 9223372036854775807) (hbud : D.bud ≤ 9223372036854775807)
    (b : Dk.Bs) (bv : Value) (hrd : RdN i c W bv b) (hblen : b.length ≤ 1073741824) (hmany : ∀ f, Dk.find s.data.toList D.fs = some f → f.pend.length < 65536) :
    Calls Tryz.prog 62 #[.pointer (some ⟨g, 0, none⟩), .string s, bv] W (DkPost i c W g (D.write s.data.toList (fun n => n) b)) := by
  have hw := Lib.hid (dk_write h s hs hbud (fun n => (n : Int)) 116 #[] dk_ent18 (fun n W' _ => dk_append1 n W') b bv hrd hblen hmany)
  clear h hrd hmany
  go_enter Tryz.func62, Tryz.ntmps62
  go_wp2_with fail
  refine hw.out.mono ?_
  intro e W' hp
  have HP := Lib.hid hp
  obtain ⟨c', rfl, _⟩ := hp
  go_wp2_with fail
  go_ret
  exact HP.out

theorem dk_Append {i : Nat} {c : Nat → Nat} {W : World} {g : Nat} {D : Dk.D} (h : DiskAt i c W g D) (s : ByteArray) (hs : s.size ≤ 9223372036854775807) (hbud : D.bud ≤ 9223372036854775807)
    (b : Dk.Bs) (bv : Value) (hrd : RdC c W bv b) (hblen : b.length ≤ 1073741824) (hmany : ∀ f, Dk.find s.data.toList D.fs = some f → f.pend.length < 65536) :
    Calls Tryz.prog 62 #[.pointer (some ⟨g, 0, none⟩), .string s, bv] W (DkPost i c W g (D.write s.data.toList (fun n => n) b)) :=
  dk_AppendN h s hs hbud b bv (hrd.toN (by obtain ⟨_, _, h⟩ := h; exact h.ne)) hblen hmany

end Go.Proofs.YtamencnachmhoaaGreatDoor

namespace Go.Proofs.YtamencnachmhoaaGreatDoor
open Go.RowKit

set_option maxRecDepth 100000 in
set_option maxHeartbeats 1000000 in
theorem dk_Read {i : Nat} {c : Nat → Nat} {W : World} {g : Nat} {D : Dk.D} (h : DiskAt i c W g D) (s : ByteArray) (hs : s.size ≤ 9223372036854775807) :
    Calls Tryz.prog 26 #[.pointer (some ⟨g, 0, none⟩), .string s] W fun e W' => ∃ v, e = .returned (.tuple #[v, .int .i64 (D.read s.data.toList).2]) ∧
      W'.ownsRow W.heap.size 5 1 v (D.read s.data.toList).1.length (dkCells (D.read s.data.toList).1) ∧ Below W.heap.size W W' := by
  obtain ⟨m, xs, h⟩ := h
  cases hdn : D.down with
  | true =>
    have HR : Hid (D.read s.data.toList = ([], 32)) := by show _ = _; unfold Dk.D.read; rw [if_pos hdn]
    have hr := dk_ready W g true (by rw [← hdn]; exact h.cells.2.2.1)
    clear h hdn
    go_enter Tryz.func26, Tryz.ntmps26
    go_wp2_with fail
    refine hr.mono ?_
    rintro e w1 ⟨rfl, rfl⟩
    go_wp2_with fail
    go_ret2
    rw [HR.out]
    exact ⟨_, rfl, World.ownsRow_nil _ _ _ _, Below.refl _ _⟩
  | false =>
    have hr := dk_ready W g false (by rw [← hdn]; exact h.cells.2.2.1)
    have he := dk_exists h s hs
    cases hf : Dk.find s.data.toList D.fs with
    | none =>
      have HR : Hid (D.read s.data.toList = ([], 9)) := by show _ = _; unfold Dk.D.read; rw [if_neg (by simp [hdn]), hf]
      rw [hf] at he
      clear h hdn hf
      go_enter Tryz.func26, Tryz.ntmps26
      go_wp2_with fail
      refine hr.mono ?_
      rintro e w1 ⟨rfl, rfl⟩
      go_wp2_with fail
      refine he.mono ?_
      rintro e w1 ⟨rfl, rfl⟩
      go_wp2_with fail
      go_ret2
      rw [HR.out]
      exact ⟨_, rfl, World.ownsRow_nil _ _ _ _, Below.refl _ _⟩
    | some f =>
      have HR : Hid (D.read s.data.toList = (f.contents, 0)) := by show _ = _; unfold Dk.D.read; rw [if_neg (by simp [hdn]), hf]
      rw [hf] at he
      obtain ⟨l1, x, l2, rfl, hnm, rfl⟩ := h.find_some hf
      have hl := DiskIs.look_some h s (by unfold maxLen; omega) hnm W rfl
      have c0 := h.cells.1
      have hF := h.file x (by simp)
      have hct := Lib.hid (dk_contents x.g x.dv x.pv x.f.dur x.f.pend W hF.row hF.dur.1 hF.rd (by have := hF.size; unfold Dk.Fl.contents at this; omega))
      clear h hdn hf hnm hF
      go_enter Tryz.func26, Tryz.ntmps26
      go_wp2_with fail
      refine hr.mono ?_
      rintro e w1 ⟨rfl, rfl⟩
      go_wp2_with fail
      refine he.mono ?_
      rintro e w1 ⟨rfl, rfl⟩
      go_wp2_with fail
      refine hct.out.mono ?_
      rintro e w1 ⟨v, rfl, hown, hb⟩
      have HO := Lib.hid hown
      clear hown
      go_wp2_with fail
      go_ret2
      rw [HR.out]
      exact ⟨_, rfl, HO.out, hb⟩

def Dk.D.crash (d : Dk.D) : Dk.D × Int := if d.down then (d, 32) else ({ d with down := true }, 0)

set_option maxHeartbeats 1000000 in
theorem dk_Crash {i : Nat} {c : Nat → Nat} {W : World} {g : Nat} {D : Dk.D} (h : DiskAt i c W g D) :
    Calls Tryz.prog 29 #[.pointer (some ⟨g, 0, none⟩)] W (DkPost i c W g D.crash) := by
  obtain ⟨m, xs, h⟩ := h
  have cells := h.cells
  have H := Lib.hid h
  cases hdn : D.down with
  | true =>
    have HR : Hid (D.crash = (D, 32)) := by show _ = _; unfold Dk.D.crash; rw [if_pos hdn]
    have hr := dk_ready W g true (by rw [← hdn]; exact cells.2.2.1)
    clear h hdn cells
    go_enter Tryz.func29, Tryz.ntmps29
    go_wp2_with fail
    refine hr.mono ?_
    rintro e w1 ⟨rfl, rfl⟩
    go_wp2_with fail
    go_ret
    rw [HR.out]
    exact ⟨c, rfl, ⟨m, xs, H.out⟩, Chg.refl _ _ _⟩
  | false =>
    have HR : Hid (D.crash = ({ D with down := true }, 0)) := by show _ = _; unfold Dk.D.crash; rw [if_neg (by simp [hdn])]
    have hc := cells.2.2.1
    have hfz := cells.2.2.2.2
    rw [hdn] at hc
    have hr := dk_ready W g false hc
    clear h hdn cells
    go_enter Tryz.func29, Tryz.ntmps29
    go_wp2_with fail
    refine hr.mono ?_
    rintro e w1 ⟨rfl, rfl⟩
    go_wp2_with fail
    go_ret
    rw [HR.out]
    exact ⟨c, rfl, ⟨m, xs, (H.out.fell true).1⟩, (H.out.fell true).2⟩

end Go.Proofs.YtamencnachmhoaaGreatDoor
