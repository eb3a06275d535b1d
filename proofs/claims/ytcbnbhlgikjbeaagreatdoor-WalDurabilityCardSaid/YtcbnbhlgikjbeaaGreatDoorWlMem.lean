/-
  A log's record and its row of segments, turned in memory.
  Segments: the names of a log's files.
-/
import Derived.Test.YtcbnbhlgikjbeaaGreatDoorWlSmall
import Derived.Test.YtcbnbhlgikjbeaaGreatDoorWlBack

namespace Go.Proofs.YtcbnbhlgikjbeaaGreatDoor
open Go.RowKit

theorem own_keep {W W' : World} {B : Nat} {t : TypeId} {sz : Nat} {v : Value} {n : Nat} {xs : List Value} (h : W.ownsRow B t sz v n xs) (hb : ∀ g, v.ownBlock = some g → W'.heap[g]? = W.heap[g]?) : W'.ownsRow B t sz v n xs := by
  refine ⟨h.1, ?_⟩
  rcases h.2 with hn | ⟨g, cap, cur, hv, hB, hh, rest⟩
  · exact .inl hn
  · exact .inr ⟨g, cap, cur, hv, hB, (hb g (by simp [hv, Value.ownBlock])).trans hh, rest⟩

theorem wl_set (w : World) (h o : Nat) (v : Value) : w.grownBy (w.setCell ⟨h, o, none⟩ v) (some h) := dk_grown_setCell w w h o v ⟨rfl, rfl, rfl, Nat.le_refl _, fun _ _ _ => rfl⟩

theorem segCells_bump : ∀ (l : List (Nat × Nat)), l ≠ [] → (segCells l).set ((l.length - 1) * 2 + 1) (.int .i64 (((l.getLastD (0, 0)).2 : Int) + 1)) = segCells (Wl.bump l)
  | [], h => absurd rfl h
  | [s], _ => by simp [segCells, Wl.bump]
  | s :: t :: r, _ => by
    have ih := segCells_bump (t :: r) (by simp)
    have e1 : ((s :: t :: r).length - 1) * 2 + 1 = (((t :: r).length - 1) * 2 + 1) + 2 := by simp only [List.length_cons]; omega
    have e2 : (s :: t :: r).getLastD (0, 0) = (t :: r).getLastD (0, 0) := by cases r <;> rfl
    rw [e1, e2, Wl.bump]
    show Value.int .i64 s.1 :: Value.int .i64 s.2 :: (segCells (t :: r)).set _ _ = Value.int .i64 s.1 :: Value.int .i64 s.2 :: segCells (Wl.bump (t :: r))
    rw [ih]
theorem bump_length : ∀ l : List (Nat × Nat), (Wl.bump l).length = l.length
  | [] => rfl
  | [_] => rfl
  | s :: t :: r => by rw [Wl.bump, List.length_cons, bump_length (t :: r)]; rfl
theorem getLastD_at : ∀ (l : List (Nat × Nat)), l ≠ [] → l[l.length - 1]? = some (l.getLastD (0, 0))
  | [], h => absurd rfl h
  | [s], _ => rfl
  | s :: t :: r, _ => by
    have ih := getLastD_at (t :: r) (by simp)
    have e2 : (s :: t :: r).getLastD (0, 0) = (t :: r).getLastD (0, 0) := by cases r <;> rfl
    rw [e2, ← ih]
    rfl

theorem LogIs.bumped {j : Nat} {c : Nat → Nat} {W : World} {h g sg n cap : Nat} {L : Wl.L} (H : LogIs j c W h g L (.slice (some ⟨sg, 0, none⟩) n cap)) (hne : L.segs ≠ []) (hn : n = L.segs.length) :
    LogIs j c ((W.setCell ⟨sg, (n - 1) * 2 + 1, none⟩ (.int .i64 ((L.last.2 : Int) + 1))).setCell ⟨h, 4, none⟩ (.int .i64 ((L.next : Int) + 1))) h g { L with segs := Wl.bump L.segs, next := L.next + 1 } (.slice (some ⟨sg, 0, none⟩) n cap) ∧
    Chg j c c W ((W.setCell ⟨sg, (n - 1) * 2 + 1, none⟩ (.int .i64 ((L.last.2 : Int) + 1))).setCell ⟨h, 4, none⟩ (.int .i64 ((L.next : Int) + 1))) := by
  subst hn
  obtain ⟨hcs, hsh⟩ := H.cols sg rfl
  obtain ⟨s, gg⟩ := H.seg.stored ((L.segs.length - 1) * 2 + 1) (.int .i64 ((L.last.2 : Int) + 1))
  have hsb := segCells_bump L.segs hne
  rw [show L.segs.getLastD (0, 0) = L.last from rfl] at hsb
  rw [hsb] at s
  generalize hw1 : W.setCell ⟨sg, (L.segs.length - 1) * 2 + 1, none⟩ (.int .i64 ((L.last.2 : Int) + 1)) = w1 at *
  have hhl := (Array.getElem?_eq_some_iff.1 H.row).1
  have r1 := (gg.block h hhl (fun e => hsh (by cases e; rfl))).trans H.row
  have r2 := dk_setCell w1 h 4 _ _ (.int .i64 ((L.next : Int) + 1)) r1
  have g2 := wl_set w1 h 4 (.int .i64 ((L.next : Int) + 1))
  refine ⟨⟨?_, ?_, H.colh, H.cols⟩, ?_⟩
  · rw [r2]
    simp
  · show World.ownsRow _ 0 _ 2 _ (Wl.bump L.segs).length (segCells (Wl.bump L.segs))
    rw [bump_length]
    refine own_keep s (fun b hb => ?_)
    have hbs : b = sg := by simpa [Value.ownBlock] using hb.symm
    subst hbs
    exact g2.block _ (by have h5 : b < W.heap.size := (H.seg.lt _ rfl).2; have := gg.size; omega) (fun e => hsh (by cases e; rfl))
  · refine ⟨g2.os.trans gg.os, g2.tape.trans gg.tape, g2.output.trans gg.output, Nat.le_trans gg.size g2.size, fun b hb hc => ?_, fun _ _ => rfl⟩
    exact (g2.block b (Nat.lt_of_lt_of_le hb gg.size) (fun e => hc (by cases e; exact H.colh))).trans (gg.block b hb (fun e => hc (by cases e; exact hcs)))

theorem LogIs.syncedAt {j : Nat} {c : Nat → Nat} {W : World} {h g : Nat} {L : Wl.L} {sv : Value} (H : LogIs j c W h g L sv) :
    LogIs j c (W.setCell ⟨h, 5, none⟩ (.int .i64 L.next)) h g { L with synced := L.next } sv ∧ Chg j c c W (W.setCell ⟨h, 5, none⟩ (.int .i64 L.next)) := by
  have r2 := dk_setCell W h 5 _ _ (.int .i64 (L.next : Int)) H.row
  have g2 := wl_set W h 5 (.int .i64 (L.next : Int))
  refine ⟨⟨?_, ?_, H.colh, H.cols⟩, ?_⟩
  · rw [r2]
    simp
  · refine own_keep H.seg (fun b hb => ?_)
    exact g2.block _ (H.seg.lt _ hb).2 (fun e => (H.cols b hb).2 (by cases e; rfl))
  · exact ⟨g2.os, g2.tape, g2.output, g2.size, fun b hb hc => g2.block b hb (fun e => hc (by cases e; exact H.colh)), fun _ _ => rfl⟩

theorem infoSeg : (Tryz.prog.info? 101).map (fun i => (i.zero, i.size, i.bytes)) = some (some (.agg #[.int .i64 0, .int .i64 0]), 2, 16) := by kernel_rfl

/-- a segment is appended to the row: wherever the new row lies -/
theorem LogIs.more {j : Nat} {c : Nat → Nat} {W w1 w2 : World} {h g : Nat} {L : Wl.L} {sv v2 : Value} {s : Nat × Nat} (H : LogIs j c W h g L sv) (hb : Below W.heap.size W w1) (hw : W.heap.size ≤ w1.heap.size)
    (ho : w2.ownsRow 0 101 2 v2 (L.segs.length + 1) (segCells L.segs ++ [.int .i64 s.1, .int .i64 s.2])) (hg : w1.grownBy w2 sv.ownBlock) (hat : v2.ownBlock = sv.ownBlock ∨ v2.ownBlock = some w1.heap.size) :
    LogIs j (pnt c W.heap.size j) (w2.setCell ⟨h, 3, none⟩ v2) h g { L with segs := L.segs ++ [s] } v2 ∧ Chg j c (pnt c W.heap.size j) W (w2.setCell ⟨h, 3, none⟩ v2) := by
  have hhl := (Array.getElem?_eq_some_iff.1 H.row).1
  have hne : some h ≠ sv.ownBlock := fun e => (H.cols h e.symm).2 rfl
  have r1 : w2.heap[h]? = _ := (hg.block h (by omega) hne).trans ((hb.block h hhl).trans H.row)
  have r2 := dk_setCell w2 h 3 _ _ v2 r1
  have g2 := wl_set w2 h 3 v2
  have hv2 : ∀ b, v2.ownBlock = some b → b ≠ h ∧ pnt c W.heap.size j b = j := fun b hb2 => by
    rcases hat with e | e
    · rw [e] at hb2
      obtain ⟨h1, h2⟩ := H.cols b hb2
      exact ⟨h2, by rw [pnt_old (H.seg.lt b hb2).2]; exact h1⟩
    · rw [e] at hb2
      cases hb2
      exact ⟨by omega, pnt_new (by omega)⟩
  refine ⟨⟨?_, ?_, by rw [pnt_old hhl]; exact H.colh, fun b hb2 => ⟨(hv2 b hb2).2, (hv2 b hb2).1⟩⟩, ?_⟩
  · rw [r2]
    simp
  · show World.ownsRow _ 0 _ 2 _ (L.segs ++ [s]).length (segCells (L.segs ++ [s]))
    rw [segCells_append, List.length_append]
    refine own_keep ho (fun b hb2 => g2.block _ (ho.lt _ hb2).2 (fun e => (hv2 b hb2).1 (by cases e; rfl)))
  · refine ⟨g2.os.trans (hg.os.trans hb.os), g2.tape.trans (hg.tape.trans hb.tape), g2.output.trans (hg.output.trans hb.output), Nat.le_trans (Nat.le_trans hb.size hg.size) g2.size, fun b hbl hc => ?_, fun b hbl => pnt_old hbl⟩
    have h1 : some b ≠ sv.ownBlock := fun e => hc (H.cols b e.symm).1
    have h2 : some b ≠ some h := fun e => hc (by cases e; exact H.colh)
    exact (g2.block b (by have := hg.size; omega) h2).trans ((hg.block b (by omega) h1).trans (hb.block b hbl))

end Go.Proofs.YtcbnbhlgikjbeaaGreatDoor

namespace Go.Proofs.YtcbnbhlgikjbeaaGreatDoor
open Go.RowKit

theorem infoStr : (Tryz.prog.info? 9).map (fun i => (i.zero, i.size, i.bytes)) = some (some (.string ⟨#[]⟩), 1, 16) := by kernel_rfl

def segNames (L : Wl.L) : List Dk.Bs := L.segs.map fun s => Wl.name L.pre s.1
theorem dkNames_snoc (l : List Dk.Bs) (x : Dk.Bs) : dkNames (l ++ [x]) = dkNames l ++ [.string ⟨x.toArray⟩] := by simp [dkNames]
theorem LogIs.seg_at {j : Nat} {c : Nat → Nat} {W : World} {h g sg cap : Nat} {L : Wl.L} (H : LogIs j c W h g L (.slice (some ⟨sg, 0, none⟩) L.segs.length cap)) {k : Nat} {s : Nat × Nat} (hk : L.segs[k]? = some s) :
    W.cell? ⟨sg, k * 2, none⟩ = some (.int .i64 s.1) ∧ W.cell? ⟨sg, k * 2 + 1, none⟩ = some (.int .i64 s.2) := by
  have hl := (List.getElem?_eq_some_iff.1 hk).1
  obtain ⟨sg', cap', cur, e, hrow, hn, hcap, hcur, htake⟩ := H.form (by intro h0; rw [h0] at hl; simp at hl)
  cases e
  obtain ⟨h0, h1⟩ := segCells_get L.segs k s hk
  rw [Nat.mul_comm 2 k] at h0 h1
  rw [← htake] at h0 h1
  rw [List.getElem?_take_of_lt (by omega)] at h0 h1
  exact ⟨by rw [cell_of_row _ _ _ _ _ _ hrow]; simpa using h0, by rw [cell_of_row _ _ _ _ _ _ hrow]; simpa using h1⟩

set_option maxRecDepth 100000 in
set_option maxHeartbeats 2000000 in
theorem wl_Segments {j : Nat} {c : Nat → Nat} {W : World} {h g : Nat} {L : Wl.L} (hl : LogAt j c W h g L) (hn : ∀ s ∈ L.segs, s.1 < 100) (hp : L.pre.length ≤ 1000) (hne : L.segs ≠ []) (hmax : L.segs.length ≤ 1000000) :
    Calls Tryz.prog 29 #[.pointer (some ⟨h, 0, none⟩)] W fun e W' => ∃ v, e = .returned v ∧ W'.ownsRow W.heap.size 9 1 v L.segs.length (dkNames (segNames L)) ∧ Below W.heap.size W W' := by
  obtain ⟨i0, hi, hz0, hz1, hz2⟩ := info_parts infoStr
  obtain ⟨sv, hl⟩ := hl
  obtain ⟨sg, cap, cur, rfl, hrow, hcn, _⟩ := hl.form hne
  have HL := Lib.hid hl
  have HN := Lib.hid hn
  have hhl := (Array.getElem?_eq_some_iff.1 hl.row).1
  have hsl := (Array.getElem?_eq_some_iff.1 hrow).1
  obtain ⟨x0, x1, x2, x3, x4, x5⟩ := row_cells6 hl.row
  obtain ⟨n, hnn⟩ : ∃ n, n = L.segs.length := ⟨_, rfl⟩
  rw [← hnn] at x3 hmax hcn ⊢
  clear hl hrow x0 x2 x4 x5 hn hne
  go_enter Tryz.func29, Tryz.ntmps29
  go_wp2_with fail
  go_loopw [3, 13] (fun ov iv wr => ∃ k : Nat, iv = .int .i64 k ∧ k ≤ n ∧ Hid (wr.ownsRow W.heap.size 9 1 ov k (dkNames ((segNames L).take k))) ∧ Hid (Below W.heap.size W wr)) (fun _ iv _ => n - (RowKit.intOf iv).toNat)
  case atStart => exact ⟨0, rfl, Nat.zero_le _, Lib.hid (World.ownsRow_nil _ _ _ _), Lib.hid (Below.refl _ _)⟩
  case round =>
    obtain ⟨k, rfl, hk, HO, HB⟩ := hrel
    by_cases hlt : k < n
    · obtain ⟨s, hs⟩ : ∃ s, L.segs[k]? = some s := ⟨_, List.getElem?_eq_getElem (by omega)⟩
      obtain ⟨s0, s1⟩ := HL.out.seg_at hs
      have y0 := (HB.out.cell (p := ⟨sg, k * 2, none⟩) hsl).trans s0
      have y1 := (HB.out.cell (p := ⟨sg, k * 2 + 1, none⟩) hsl).trans s1
      have z1 := (HB.out.cell (p := ⟨h, 1, none⟩) hhl).trans x1
      have hs1 := HN.out s (List.mem_of_getElem? hs)
      have NM : Hid (∀ o, Calls Tryz.prog 58 #[.string ⟨L.pre.toArray⟩, .int .i64 s.1] o fun e W' => e = .returned (.string ⟨(Wl.name L.pre s.1).toArray⟩) ∧ Below o.heap.size o W') :=
        Lib.hid (fun o => wl_name o ⟨L.pre.toArray⟩ s.1 hs1 (by show L.pre.toArray.size ≤ 1000; simpa using hp))
      have HTK : Hid ((segNames L).take (k + 1) = (segNames L).take k ++ [Wl.name L.pre s.1]) := Lib.hid (by
        rw [List.take_add_one]; simp [segNames, hs])
      obtain ⟨W5, hW5⟩ : ∃ W5, W5 = wr.alloc (.cells #[.int .i64 s.1, .int .i64 s.2] 101) := ⟨_, rfl⟩
      have hb5 : Below wr.heap.size wr W5 := by rw [hW5]; exact (Below.refl _ _).alloc (Nat.le_refl _) _
      have hrow5 : W5.heap[wr.heap.size]? = some (.cells #[.int .i64 s.1, .int .i64 s.2] 101 (0, 0)) := by rw [hW5]; exact heap_alloc_new wr _
      have q0 : W5.cell? ⟨wr.heap.size, 0, none⟩ = some (.int .i64 s.1) := by rw [cell_of_row _ _ _ _ _ _ hrow5]; rfl
      have q1 : W5.cell? ⟨h, 1, none⟩ = some (.string ⟨L.pre.toArray⟩) := (hb5.cell (p := ⟨h, 1, none⟩) (by have := HB.out.size; show h < _; omega)).trans z1
      have HW5 := Lib.hid hW5
      have HB5 := Lib.hid (HB.out.trans (hb5.mono HB.out.size))
      have HO5 : Hid (W5.ownsRow W.heap.size 9 1 u3 k (dkNames ((segNames L).take k))) := Lib.hid (own_keep HO.out (fun b hb => hb5.block b (HO.out.lt b hb).2))
      clear s0 s1 hs hW5 hb5 hrow5
      go_wp2_with fail
      rw [← HW5.out]
      have hhl2 : h < W.heap.size := hhl
      have hwl : W.heap.size ≤ wr.heap.size := HB.out.size
      have hwl5 : wr.heap.size < W5.heap.size := World.block_lt_of_cell? W5 _ q0
      go_region_held3 (fun w' => w'.cell? ⟨h, 1, none⟩ = some (.string ⟨L.pre.toArray⟩) ∧ w'.cell? ⟨wr.heap.size, 0, none⟩ = some (.int .i64 s.1))
        (first | assumption | exact ⟨q1, q0⟩ | exact hS6a _ | go_keep)
        (first
          | (go_at_call 58; refine (NM.out _).mono ?_; rintro e w6 ⟨rfl, b6⟩; have b56 : Below W5.heap.size W5 w6 := (Below.drew (Below.refl _ _)).trans b6; have HB6 : Hid (Below W.heap.size W w6) := Lib.hid (HB5.out.trans (b56.mono HB5.out.size)); have HO6 : Hid (w6.ownsRow W.heap.size 9 1 u3 k (dkNames ((segNames L).take k))) := Lib.hid (own_keep HO5.out (fun b hb => b56.block b (HO5.out.lt b hb).2)); have HN6 : Hid (∀ b, u3.ownBlock = some b → W.heap.size ≤ b ∧ b < wr.heap.size) := Lib.hid (HO.out.lt); have hS6 : w6.cell? ⟨h, 1, none⟩ = some (.string ⟨L.pre.toArray⟩) ∧ w6.cell? ⟨wr.heap.size, 0, none⟩ = some (.int .i64 s.1) := ⟨(b56.cell (p := ⟨h, 1, none⟩) (by show h < _; omega)).trans q1, (b56.cell (p := ⟨wr.heap.size, 0, none⟩) hwl5).trans q0⟩; have hs6 : W5.heap.size ≤ w6.heap.size := b56.size; have hS6a : ∀ o, (w6.alloc o).cell? ⟨h, 1, none⟩ = some (.string ⟨L.pre.toArray⟩) ∧ (w6.alloc o).cell? ⟨wr.heap.size, 0, none⟩ = some (.int .i64 s.1) := (fun o => ⟨Lib.cell?_alloc_some o hS6.1, Lib.cell?_alloc_some o hS6.2⟩); clear b6 b56)
          | (refine step_append_lies _ (by rfl) _ _ _ (by rfl) W.heap.size 9 i0 _ 1 16 Tryz.underlying23 hi hz0 hz1 hz2 rfl (by decide) u3 k (dkNames ((segNames L).take k)) (by rfl) (HO6.out.alloc _) ⟨w6.heap.size, 0, none⟩ 1 1 [.string ⟨(Wl.name L.pre s.1).toArray⟩] (by rfl) rfl (World.news_of_block (heap_alloc_new w6 _)) (by intro u hu; simp at hu; rcases hu with rfl; rfl) (by decide) (by unfold maxLen; omega) (by omega) (by have := HB6.out.size; simp; omega) _ rfl ?_; intro g7 cap7 w7 hown7 hgrow7 hat7 hlt7; have hS7 : w7.cell? ⟨h, 1, none⟩ = some (.string ⟨L.pre.toArray⟩) ∧ w7.cell? ⟨wr.heap.size, 0, none⟩ = some (.int .i64 s.1) := ⟨(World.cell?_of_block (a := ⟨h, 1, none⟩) (hgrow7.block h (by have := HB6.out.size; simp; omega) (fun e => by have := HN6.out h e.symm; omega))).trans (hS6a _).1, (World.cell?_of_block (a := ⟨wr.heap.size, 0, none⟩) (hgrow7.block wr.heap.size (by simp; omega) (fun e => by have h8 : wr.heap.size < wr.heap.size := (HN6.out wr.heap.size e.symm).2; omega))).trans (hS6a _).2⟩))
      have hb7 : Below W.heap.size W w7 := Below.grown (HB6.out.alloc HB6.out.size _) hgrow7 (by have := HB6.out.size; simp; omega) (fun b hb => (HN6.out b hb).1)
      go_wp2_with fail
      refine ⟨⟨k + 1, by go_num, by omega, ?_, Lib.hid hb7⟩, by simp [RowKit.intOf] <;> omega⟩
      rw [HTK.out, dkNames_snoc]
      exact Lib.hid hown7
    · obtain rfl : k = n := by omega
      go_wp2_with fail
      go_ret
      rw [List.take_of_length_le (by simp [segNames]; omega)] at HO
      exact ⟨_, rfl, HO.out, HB.out⟩

end Go.Proofs.YtcbnbhlgikjbeaaGreatDoor
