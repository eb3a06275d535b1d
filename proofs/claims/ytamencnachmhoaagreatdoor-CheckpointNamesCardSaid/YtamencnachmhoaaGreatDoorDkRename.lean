/-
  Size, Pending, Budget, Down, SetBudget, List.
  Remove: the map turns, the files stay.
  WriteAt.
  Rename.
-/
import Derived.Test.YtamencnachmhoaaGreatDoorDkKeys
namespace Go.Proofs.YtamencnachmhoaaGreatDoor
open Go.RowKit

namespace Dk
def D.size (d : D) (n : Bs) : Nat × Int := if d.down then (0, 32) else match find n d.fs with
  | none => (0, 9)
  | some f => (f.contents.length, 0)
def D.pending (d : D) (n : Bs) : Nat := if d.down then 0 else match find n d.fs with
  | none => 0
  | some f => f.pend.length
def D.budget (d : D) : Int := if d.down then 0 else d.bud
def D.setBudget (d : D) (n : Int) : D × Int := if d.down then (d, 32) else if n < -1 then (d, 2) else ({ d with bud := n }, 0)
def D.names (d : D) : List Bs := if d.down then [] else d.fs.map (·.1)
end Dk

set_option maxHeartbeats 1000000 in
theorem dk_Down {i : Nat} {c : Nat → Nat} {W : World} {g : Nat} {D : Dk.D} (h : DiskAt i c W g D) :
    Calls Tryz.prog 53 #[.pointer (some ⟨g, 0, none⟩)] W fun e W' => e = .returned (.bool D.down) ∧ W = W' := by
  obtain ⟨m, xs, h⟩ := h
  have c2 := h.cells.2.2.1
  generalize D.down = dn at *
  clear h
  go_enter Tryz.func53, Tryz.ntmps53
  go_wp2_with fail
  go_ret
  exact ⟨rfl, rfl⟩

set_option maxHeartbeats 1000000 in
theorem dk_Budget {i : Nat} {c : Nat → Nat} {W : World} {g : Nat} {D : Dk.D} (h : DiskAt i c W g D) :
    Calls Tryz.prog 143 #[.pointer (some ⟨g, 0, none⟩)] W fun e W' => e = .returned (.int .i64 D.budget) ∧ W = W' := by
  obtain ⟨m, xs, h⟩ := h
  have c1 := h.cells.2.1
  have c2 := h.cells.2.2.1
  have HB : Hid (D.budget = if D.down then 0 else D.bud) := Lib.hid rfl
  generalize D.budget = r at *
  generalize D.down = dn at *
  clear h
  cases dn with
  | true =>
    go_enter Tryz.func143, Tryz.ntmps143
    go_wp2_with fail
    go_ret
    rw [HB.out]
    exact ⟨rfl, rfl⟩
  | false =>
    go_enter Tryz.func143, Tryz.ntmps143
    go_wp2_with fail
    go_ret
    rw [HB.out]
    exact ⟨rfl, rfl⟩

set_option maxHeartbeats 1000000 in
theorem dk_SetBudget {i : Nat} {c : Nat → Nat} {W : World} {g : Nat} {D : Dk.D} (h : DiskAt i c W g D) (n : Int) :
    Calls Tryz.prog 28 #[.pointer (some ⟨g, 0, none⟩), .int .i64 n] W (DkPost i c W g (D.setBudget n)) := by
  obtain ⟨m, xs, h⟩ := h
  have cells := h.cells
  have H := Lib.hid h
  cases hdn : D.down with
  | true =>
    have HR : Hid (D.setBudget n = (D, 32)) := by show _ = _; unfold Dk.D.setBudget; rw [if_pos hdn]
    have hr := dk_ready W g true (by rw [← hdn]; exact cells.2.2.1)
    clear h hdn cells
    go_enter Tryz.func28, Tryz.ntmps28
    go_wp2_with fail
    refine hr.mono ?_
    rintro e w1 ⟨rfl, rfl⟩
    go_wp2_with fail
    go_ret
    rw [HR.out]
    exact ⟨c, rfl, ⟨m, xs, H.out⟩, Chg.refl _ _ _⟩
  | false =>
    have hr := dk_ready W g false (by rw [← hdn]; exact cells.2.2.1)
    have c1 := cells.2.1
    have f1 := cells.2.2.2.1
    by_cases hn : n < -1
    · have HR : Hid (D.setBudget n = (D, 2)) := by show _ = _; unfold Dk.D.setBudget; rw [if_neg (by simp [hdn]), if_pos hn]
      clear h hdn cells
      go_enter Tryz.func28, Tryz.ntmps28
      go_wp2_with fail
      refine hr.mono ?_
      rintro e w1 ⟨rfl, rfl⟩
      go_wp2_with fail
      go_ret
      rw [HR.out]
      exact ⟨c, rfl, ⟨m, xs, H.out⟩, Chg.refl _ _ _⟩
    · have HR : Hid (D.setBudget n = ({ D with bud := n }, 0)) := by show _ = _; unfold Dk.D.setBudget; rw [if_neg (by simp [hdn]), if_neg hn]
      clear h hdn cells
      go_enter Tryz.func28, Tryz.ntmps28
      go_wp2_with fail
      refine hr.mono ?_
      rintro e w1 ⟨rfl, rfl⟩
      go_wp2_with fail
      go_ret
      rw [HR.out]
      exact ⟨c, rfl, ⟨m, xs, (H.out.spent n).1⟩, (H.out.spent n).2⟩

set_option maxRecDepth 100000 in
set_option maxHeartbeats 1000000 in
theorem dk_Pending {i : Nat} {c : Nat → Nat} {W : World} {g : Nat} {D : Dk.D} (h : DiskAt i c W g D) (s : ByteArray) (hs : s.size ≤ 9223372036854775807) :
    Calls Tryz.prog 145 #[.pointer (some ⟨g, 0, none⟩), .string s] W fun e W' => e = .returned (.int .i64 (D.pending s.data.toList)) ∧ W = W' := by
  obtain ⟨m, xs, h⟩ := h
  have c0 := h.cells.1
  cases hdn : D.down with
  | true =>
    have HR : Hid (D.pending s.data.toList = 0) := by show _ = _; unfold Dk.D.pending; rw [if_pos hdn]
    have hr := dk_ready W g true (by rw [← hdn]; exact h.cells.2.2.1)
    clear h hdn
    go_enter Tryz.func145, Tryz.ntmps145
    go_wp2_with fail
    refine hr.mono ?_
    rintro e w1 ⟨rfl, rfl⟩
    go_wp2_with fail
    go_ret
    rw [HR.out]
    exact ⟨rfl, rfl⟩
  | false =>
    have hr := dk_ready W g false (by rw [← hdn]; exact h.cells.2.2.1)
    cases hf : Dk.find s.data.toList D.fs with
    | none =>
      have HR : Hid (D.pending s.data.toList = 0) := by show _ = _; unfold Dk.D.pending; rw [if_neg (by simp [hdn]), hf]
      have hl := h.look_none s (by unfold maxLen; omega) hf W rfl
      clear h hdn hf
      go_enter Tryz.func145, Tryz.ntmps145
      go_wp2_with fail
      refine hr.mono ?_
      rintro e w1 ⟨rfl, rfl⟩
      go_wp2_with fail
      go_ret
      rw [HR.out]
      exact ⟨rfl, rfl⟩
    | some f =>
      have HR : Hid (D.pending s.data.toList = f.pend.length) := by show _ = _; unfold Dk.D.pending; rw [if_neg (by simp [hdn]), hf]
      obtain ⟨l1, x, l2, rfl, hnm, rfl⟩ := h.find_some hf
      have hl := DiskIs.look_some h s (by unfold maxLen; omega) hnm W rfl
      have hF := h.file x (by simp)
      have p1 : W.cell? ⟨x.g, 1, none⟩ = some x.pv := by rw [cell_of_row W _ _ _ _ _ hF.row]; rfl
      obtain ⟨pa, pc, hpv, _⟩ := hF.is
      rw [hpv] at p1
      clear h hdn hf hnm hF hpv
      go_enter Tryz.func145, Tryz.ntmps145
      go_wp2_with fail
      refine hr.mono ?_
      rintro e w1 ⟨rfl, rfl⟩
      go_wp2_with fail
      go_ret
      rw [HR.out]
      exact ⟨rfl, rfl⟩

/-- the names as cells -/
def dkNames (l : List Dk.Bs) : List Value := l.map fun n => .string ⟨n.toArray⟩

set_option maxRecDepth 100000 in
set_option maxHeartbeats 1000000 in
theorem dk_List {i : Nat} {c : Nat → Nat} {W : World} {g : Nat} {D : Dk.D} (h : DiskAt i c W g D) (hmany : D.fs.length ≤ 1073741824) :
    Calls Tryz.prog 22 #[.pointer (some ⟨g, 0, none⟩)] W fun e W' => ∃ v, e = .returned v ∧ W'.ownsRow W.heap.size 9 1 v D.names.length (dkNames D.names) ∧ Below W.heap.size W W' := by
  obtain ⟨m, xs, h⟩ := h
  cases hdn : D.down with
  | true =>
    have HR : Hid (D.names = []) := by show _ = _; unfold Dk.D.names; rw [if_pos hdn]
    have hr := dk_ready W g true (by rw [← hdn]; exact h.cells.2.2.1)
    clear h hdn
    go_enter Tryz.func22, Tryz.ntmps22
    go_wp2_with fail
    refine hr.mono ?_
    rintro e w1 ⟨rfl, rfl⟩
    go_wp2_with fail
    go_ret
    rw [HR.out]
    exact ⟨_, rfl, World.ownsRow_nil _ _ _ _, Below.refl _ _⟩
  | false =>
    have hr := dk_ready W g false (by rw [← hdn]; exact h.cells.2.2.1)
    have hxs : xs.length ≤ 1073741824 := by rw [h.fs] at hmany; simpa using hmany
    have HR : Hid (D.names = xs.map Fe.nm) := by show _ = _; unfold Dk.D.names; rw [if_neg (by simp [hdn]), h.fs, List.map_map]; rfl
    have c0 := h.cells.1
    have hkeys := Lib.hid (dk_keys W m)
    have hsort := Lib.hid (dk_sorted h hxs)
    clear h hdn
    go_enter Tryz.func22, Tryz.ntmps22
    go_wp2_with fail
    refine hr.mono ?_
    rintro e w1 ⟨rfl, rfl⟩
    go_wp2_with fail
    refine hkeys.out.mono ?_
    rintro e w1 ⟨rfl, rfl⟩
    go_wp2_with fail
    refine hsort.out.mono ?_
    rintro e w1 ⟨v, rfl, hown, hb⟩
    have HO := Lib.hid hown
    clear hown
    go_wp2_with fail
    go_ret
    rw [HR.out]
    refine ⟨_, rfl, ?_, hb⟩
    have e : dkNames (xs.map Fe.nm) = nmCells xs := by unfold dkNames nmCells; rw [List.map_map]; rfl
    rw [e, List.length_map]
    exact dk_own_mono HO.out (by omega)

end Go.Proofs.YtamencnachmhoaaGreatDoor

namespace Go.Proofs.YtamencnachmhoaaGreatDoor
open Go.RowKit

theorem ownsMap_tight {W : World} {m n : Nat} {l : List (Lit × DataW (Option Addr))} (h : W.ownsMap Tryz.prog 9 ptrElem m n (.map l)) : W.ownsMap Tryz.prog 9 ptrElem m l.length (.map l) := by
  obtain ⟨es, clock, hb, F, hs, hD⟩ := h
  refine ⟨es, clock, hb, F, ?_, hD⟩
  injection hD with e
  rw [e, length_sorted]
  simp

/-- THE MAP TURNS: files go or take other names, none turns itself -/
theorem DiskIs.remap {i : Nat} {c : Nat → Nat} {W W' : World} {g : Nat} {D : Dk.D} {m : Nat} {xs : List Fe} (h : DiskIs i c W g D m xs) (ys : List Fe) (fs' : List (Dk.Bs × Dk.Fl)) (hfs : fs' = ys.map Fe.ent)
    (hown : W'.ownsMap Tryz.prog 9 ptrElem m ys.length (.map (ys.map Fe.key))) (hsub : ∀ y ∈ ys, ∃ x ∈ xs, ∃ n, y = { x with nm := n }) (hnd : (ys.flatMap Fe.blks).Nodup)
    (hs : W.heap.size ≤ W'.heap.size) (hW : ∀ b, b < W.heap.size → b ≠ m → W'.heap[b]? = W.heap[b]?) : DiskIs i c W' g { D with fs := fs' } m ys := by
  have hlt : ∀ b, b ∈ g :: m :: xs.flatMap Fe.blks → b < W.heap.size := fun b hb => (h.col b hb).2
  have hndm : m ∉ xs.flatMap Fe.blks := (List.nodup_cons.1 (List.nodup_cons.1 h.nd).2).1
  have hgm : g ≠ m := fun e => (List.nodup_cons.1 h.nd).1 (by simp [e])
  have hgx : g ∉ xs.flatMap Fe.blks := fun hb => (List.nodup_cons.1 h.nd).1 (by simp [hb])
  have hbl : ∀ b ∈ ys.flatMap Fe.blks, b ∈ xs.flatMap Fe.blks := by
    intro b hb
    obtain ⟨y, hy, hb⟩ := List.mem_flatMap.1 hb
    obtain ⟨x, hx, n, rfl⟩ := hsub y hy
    exact List.mem_flatMap.2 ⟨x, hx, hb⟩
  have hread : ∀ b, b < W.heap.size → c b = 0 → W'.heap[b]? = W.heap[b]? ∧ c b = 0 := fun b hb h0 =>
    ⟨hW b hb (fun e => by have := (h.col m (by simp)).1; exact h.ne (by rw [← this, ← e]; exact h0)), h0⟩
  refine ⟨(hW g (hlt g (by simp)) hgm).trans h.row, hown, hfs, ?_, ?_, ?_, h.ne⟩
  · intro y hy
    obtain ⟨x, hx, n, rfl⟩ := hsub y hy
    have hF := (h.file x hx).keep hs hread (fun b hb => hW b (hlt b (mem_blks hx hb g m)) (fun e => hndm (e ▸ List.mem_flatMap.2 ⟨x, hx, hb⟩)))
    exact ⟨hF.row, hF.dur, hF.own, hF.wr, hF.size, hF.many⟩
  · rw [List.nodup_cons, List.nodup_cons]
    refine ⟨fun hb => ?_, fun hb => hndm (hbl m hb), hnd⟩
    rcases List.mem_cons.1 hb with e | hb
    · exact hgm e
    · exact hgx (hbl g hb)
  · intro b hb
    have hb' : b ∈ g :: m :: xs.flatMap Fe.blks := by
      simp only [List.mem_cons] at hb ⊢
      rcases hb with h1 | h1 | h1
      · exact .inl h1
      · exact .inr (.inl h1)
      · exact .inr (.inr (hbl b h1))
    exact ⟨(h.col b hb').1, Nat.lt_of_lt_of_le (h.col b hb').2 hs⟩

theorem key_del (xs : List Fe) (n : Dk.Bs) : (DataW.map (xs.map Fe.key)).del (.string n) = .map ((xs.filter fun x => !(x.nm == n)).map Fe.key) := by
  show DataW.map ((xs.map Fe.key).filter fun p => !p.1.sameKey (.string n)) = _
  rw [List.filter_map]
  congr 2

theorem ent_del (xs : List Fe) (n : Dk.Bs) : Dk.del n (xs.map Fe.ent) = (xs.filter fun x => !(x.nm == n)).map Fe.ent := by
  unfold Dk.del
  rw [List.filter_map]
  rfl

theorem blks_sub (p : Fe → Bool) : ∀ xs : List Fe, ((xs.filter p).flatMap Fe.blks).Sublist (xs.flatMap Fe.blks)
  | [] => List.Sublist.refl _
  | x :: xs => by
    have ih := blks_sub p xs
    rw [List.filter_cons, List.flatMap_cons]
    split
    · rw [List.flatMap_cons]
      exact (List.Sublist.refl _).append ih
    · exact ih.trans (List.sublist_append_right _ _)
theorem blks_filter_nodup {xs : List Fe} (h : (xs.flatMap Fe.blks).Nodup) (p : Fe → Bool) : ((xs.filter p).flatMap Fe.blks).Nodup :=
  h.sublist (blks_sub p xs)

namespace Dk
def D.remove (d : D) (n : Bs) : D × Int :=
  if d.down then (d, 32) else match find n d.fs with
    | none => (d, 9)
    | some _ => d.modify (del n d.fs)
end Dk

set_option maxRecDepth 100000 in
set_option maxHeartbeats 1000000 in
theorem dk_remove2 {i : Nat} {c : Nat → Nat} {W : World} {g : Nat} {D : Dk.D} {m : Nat} {xs : List Fe} (h : DiskIs i c W g D m xs) (s : ByteArray) (hs : s.size ≤ 9223372036854775807) (nb db : Nat)
    (hn : W.cell? ⟨nb, 0, none⟩ = some (.string s)) (hd : W.cell? ⟨db, 0, none⟩ = some (.pointer (some ⟨g, 0, none⟩))) :
    Calls Tryz.prog 163 #[.pointer (some ⟨db, 0, none⟩), .pointer (some ⟨nb, 0, none⟩)] W fun e W' => ∃ c', e = .returned (.tuple #[]) ∧ DiskAt i c' W' g { D with fs := Dk.del s.data.toList D.fs } ∧ Chg i c c' W W' := by
  have c0 := h.cells.1
  have hm := ownsMap_block (W' := W.drew) h.map rfl
  obtain ⟨w2, hrun, hown2, hturn⟩ := hm.drop dk_law Tryz.underlying98 (key := .string s) (Go.WideMaps.keyOf_string_mk Tryz.underlying9 (by unfold maxLen; omega)) 0
  have H := Lib.hid h
  have HO := Lib.hid hown2
  have HT := Lib.hid hturn
  clear h hm hown2 hturn
  go_enter Tryz.func163, Tryz.ntmps163
  go_wp2_with fail
  refine wp_region_still_tail 5 (by kernel_rfl) (by kernel_rfl) ?_
  simp only [List.take_succ_cons, List.take_zero, List.drop_succ_cons, List.drop_zero]
  change wpStill _ _ (World.drew _) _ _ _
  repeat still_step
  refine wpStill_nil ?_
  go_wp2_with fail
  go_end0
  have hg := HT.out.grown
  have hown := HO.out
  rw [key_del] at hown
  have hown := ownsMap_tight hown
  rw [List.length_map] at hown
  have hW : ∀ b, b < W.heap.size → b ≠ m → w2.heap[b]? = W.heap[b]? := fun b hb hne => hg.block b hb (fun e => hne (by cases e; rfl))
  refine ⟨c, rfl, ⟨m, _, H.out.remap (xs.filter fun x => !(x.nm == s.data.toList)) _ (by rw [H.out.fs, ent_del]) hown (fun y hy => ⟨y, (List.mem_filter.1 hy).1, y.nm, rfl⟩) (blks_filter_nodup (List.nodup_cons.1 (List.nodup_cons.1 H.out.nd).2).2 _) hg.size hW⟩,
    ⟨hg.os, hg.tape, hg.output, hg.size, fun b hb hne => hW b hb (fun e => hne (by rw [e]; exact (H.out.col m (by simp)).1)), fun _ _ => rfl⟩⟩

set_option maxRecDepth 100000 in
set_option maxHeartbeats 1000000 in
theorem dk_remove1 {i : Nat} {c : Nat → Nat} {W : World} {g : Nat} {D : Dk.D} {m : Nat} {xs : List Fe} (h : DiskIs i c W g D m xs) (s : ByteArray) (hs : s.size ≤ 9223372036854775807) (nb db : Nat)
    (hn : W.cell? ⟨nb, 0, none⟩ = some (.string s)) (hd : W.cell? ⟨db, 0, none⟩ = some (.pointer (some ⟨g, 0, none⟩))) :
    Calls Tryz.prog 162 #[.pointer (some ⟨db, 0, none⟩), .pointer (some ⟨nb, 0, none⟩)] W fun e W' => e = .returned (.int .i64 (if (Dk.find s.data.toList D.fs).isSome then 0 else 9)) ∧ W = W' := by
  have he := dk_exists h s hs
  generalize (if (Dk.find s.data.toList D.fs).isSome then (0 : Int) else 9) = r at *
  clear h
  go_enter Tryz.func162, Tryz.ntmps162
  go_wp2_with fail
  refine he.mono ?_
  rintro e W1 ⟨rfl, rfl⟩
  go_wp2_with fail
  go_ret
  exact ⟨rfl, rfl⟩

theorem dk_entR1 : ∀ args w, (callFunc 162 args).run Tryz.prog w = .ok (.enter 162 args) w := enters_of Tryz.func162 (by kernel_rfl) rfl
theorem dk_entR2 : ∀ args w, (callFunc 163 args).run Tryz.prog w = .ok (.enter 163 args) w := enters_of Tryz.func163 (by kernel_rfl) rfl

set_option maxRecDepth 100000 in
set_option maxHeartbeats 2000000 in
theorem dk_Remove {i : Nat} {c : Nat → Nat} {W : World} {g : Nat} {D : Dk.D} (h : DiskAt i c W g D) (s : ByteArray) (hs : s.size ≤ 9223372036854775807) (hbud : D.bud ≤ 9223372036854775807) :
    Calls Tryz.prog 110 #[.pointer (some ⟨g, 0, none⟩), .string s] W (DkPost i c W g (D.remove s.data.toList)) := by
  obtain ⟨m, xs, h⟩ := h
  have hgl := (h.col g (by simp)).2
  obtain ⟨Wb, hWb⟩ : ∃ Wb, Wb = (W.alloc (.cells #[.pointer (some ⟨g, 0, none⟩)] 41)).alloc (.cells #[.string s] 9) := ⟨_, rfl⟩
  have hbel : Below W.heap.size W Wb := by rw [hWb]; exact ((Below.refl _ _).alloc (Nat.le_refl _) _).alloc (by simp) _
  have hch : Chg i c (pnt c W.heap.size 0) W Wb := Chg.of_below hbel 0
  have hI : DiskIs i (pnt c W.heap.size 0) Wb g D m xs := h.chg (Chg.of_below (i := i + 1) hbel 0) (by omega) (by omega)
  have hsz : Wb.heap.size = W.heap.size + 2 := by rw [hWb]; simp
  have hd : Wb.cell? ⟨W.heap.size, 0, none⟩ = some (.pointer (some ⟨g, 0, none⟩)) := by rw [hWb]; simp
  have hn : Wb.cell? ⟨W.heap.size + 1, 0, none⟩ = some (.string s) := by rw [hWb]; simp
  have main : Calls Tryz.prog 112 #[.pointer (some ⟨g, 0, none⟩), .func (.func 162) #[] #[.pointer (some ⟨W.heap.size, 0, none⟩), .pointer (some ⟨W.heap.size + 1, 0, none⟩)], .func (.func 163) #[] #[.pointer (some ⟨W.heap.size, 0, none⟩), .pointer (some ⟨W.heap.size + 1, 0, none⟩)]] Wb (DkPost i c W g (D.remove s.data.toList)) := by
    refine dk_modify Wb g D.bud D.down (.map (some m)) hI.row hbud _ _ _ _ dk_entR1 dk_entR2 _ (fun hdn => ?_) (fun hdn => ?_)
    · unfold Dk.D.remove
      rw [if_pos hdn]
      exact ⟨_, rfl, ⟨m, xs, hI⟩, hch⟩
    · refine (dk_remove1 hI s hs _ _ hn hd).mono ?_
      rintro e W1 ⟨rfl, rfl⟩
      refine ⟨_, rfl, rfl, dk_modPost hI hch _ _ _ (Dk.del s.data.toList D.fs) _ (fun hr => ?_) (fun hr => ?_) (fun hr W2 bud h2 hch2 hk2 hs2 => ?_)⟩
      · unfold Dk.D.remove
        rw [if_neg (by simp [hdn])]
        cases hf : Dk.find s.data.toList D.fs with
        | none => rfl
        | some f => simp [hf] at hr
      · unfold Dk.D.remove
        rw [if_neg (by simp [hdn])]
        cases hf : Dk.find s.data.toList D.fs with
        | none => simp [hf] at hr
        | some f => rfl
      · cases hf : Dk.find s.data.toList D.fs with
        | none => simp [hf] at hr
        | some f =>
          have keep : ∀ b, W.heap.size ≤ b → b < Wb.heap.size → ∀ v, Wb.cell? ⟨b, 0, none⟩ = some v → W2.cell? ⟨b, 0, none⟩ = some v := fun b hb1' hb2' v hv =>
            (World.cell?_of_block (w := Wb) (w' := W2) (a := ⟨b, 0, none⟩) (hk2 b hb2' (by omega))).trans hv
          exact dk_remove2 h2 s hs _ _ (keep _ (by omega) (by omega) _ hn) (keep _ (by omega) (by omega) _ hd)
  rw [hWb] at main
  have HM := Lib.hid main
  clear main h hI hch hbel hd hn hsz hWb
  go_enter Tryz.func110, Tryz.ntmps110
  go_wp2_with fail
  refine HM.out.mono ?_
  intro e W' hp
  have HP := Lib.hid hp
  obtain ⟨c', rfl, _⟩ := hp
  go_wp2_with fail
  go_ret
  exact HP.out

end Go.Proofs.YtamencnachmhoaaGreatDoor

namespace Go.Proofs.YtamencnachmhoaaGreatDoor
open Go.RowKit

theorem dk_entWA : ∀ args w, (callFunc 78 args).run Tryz.prog w = .ok (.enter 78 args) w := enters_of Tryz.func78 (by kernel_rfl) rfl
theorem dk_writeAt1 (n off : Int) (b : Nat) (W : World) (h : W.cell? ⟨b, 0, none⟩ = some (.int .i64 off)) : Calls Tryz.prog 78 #[.int .i64 n, .pointer (some ⟨b, 0, none⟩)] W fun e w' => e = .returned (.int .i64 off) ∧ W = w' := by
  go_enter Tryz.func78, Tryz.ntmps78
  go_wp2
  go_ret
  exact ⟨rfl, rfl⟩

theorem DkPost.after {i : Nat} {c c1 : Nat → Nat} {W W1 : World} {g : Nat} {r : Dk.D × Int} {e : Ending} {W' : World} (hc : Chg i c c1 W W1) (h : DkPost i c1 W1 g r e W') : DkPost i c W g r e W' := by
  obtain ⟨c', he, hd, hch⟩ := h
  exact ⟨c', he, hd, hc.trans hch⟩

set_option maxHeartbeats 1000000 in
theorem dk_WriteAt {i : Nat} {c : Nat → Nat} {W : World} {g : Nat} {D : Dk.D} (h : DiskAt i c W g D) (s : ByteArray) (hs : s.size ≤ 9223372036854775807) (hbud : D.bud ≤ 9223372036854775807) (off : Int)
    (b : Dk.Bs) (bv : Value) (hrd : RdC c W bv b) (hblen : b.length ≤ 1073741824) (hmany : ∀ f, Dk.find s.data.toList D.fs = some f → f.pend.length < 65536) :
    Calls Tryz.prog 27 #[.pointer (some ⟨g, 0, none⟩), .string s, .int .i64 off, bv] W (DkPost i c W g (D.write s.data.toList (fun _ => off) b)) := by
  have h1 := h.chg (Chg.alloc (i := i + 1) (.cells #[.int .i64 off] 3) 0) (by omega) (by omega)
  have r1 := hrd.chg (Chg.alloc (i := i + 1) (.cells #[.int .i64 off] 3) 0) (by omega)
  have hcell : (W.alloc (.cells #[.int .i64 off] 3)).cell? ⟨W.heap.size, 0, none⟩ = some (.int .i64 off) := by simp
  have hw := Lib.hid (dk_write h1 s hs hbud (fun _ => off) 78 #[.pointer (some ⟨W.heap.size, 0, none⟩)] dk_entWA (fun n W' hb => dk_writeAt1 n off W.heap.size W' ((hb.cell (p := ⟨W.heap.size, 0, none⟩) (by simp)).trans hcell)) b bv (r1.toN (by obtain ⟨_, _, h⟩ := h; exact h.ne)) hblen hmany)
  clear h hrd hmany h1 r1 hcell
  go_enter Tryz.func27, Tryz.ntmps27
  go_wp2_with fail
  refine hw.out.mono ?_
  intro e W' hp
  have HP := Lib.hid (hp.after (Chg.alloc (i := i) (c := c) (.cells #[.int .i64 off] 3) 0))
  obtain ⟨c', rfl, _⟩ := hp
  go_wp2_with fail
  go_ret
  exact HP.out

end Go.Proofs.YtamencnachmhoaaGreatDoor

namespace Go.Proofs.YtamencnachmhoaaGreatDoor
open Go.RowKit

namespace Dk
def renameCheck (d : D) (a b : Bs) : Int := match find a d.fs with
  | none => 9
  | some _ => if valid b = false then 6 else 0
def D.rename (d : D) (a b : Bs) : D × Int :=
  if d.down then (d, 32) else if renameCheck d a b ≠ 0 then (d, renameCheck d a b) else match find a d.fs with
    | none => (d, 9)
    | some f => d.modify (ins b f (del b (del a d.fs)))
end Dk

theorem key_put2 (x : Fe) (xs : List Fe) (b : Dk.Bs) : (DataW.map (xs.map Fe.key)).put (.string b) (.held (some ⟨x.g, 0, none⟩)) = .map ((Dk.insBy Fe.nm { x with nm := b } (xs.filter fun y => !(y.nm == b))).map Fe.key) := by
  have e1 : (xs.map Fe.key).filter (fun p => !p.1.sameKey (.string b)) = (xs.filter fun y => !(y.nm == b)).map Fe.key := by
    have := key_del xs b
    injection this with e
  have h0 := key_put { x with nm := b } (xs.filter fun y => !(y.nm == b)) (fun y hy => by
    have := (List.mem_filter.1 hy).2
    simpa using this)
  rw [← h0]
  show DataW.map (DataW.insert _ ((xs.map Fe.key).filter fun p => !p.1.sameKey (.string b))) = DataW.map (DataW.insert _ (((xs.filter fun y => !(y.nm == b)).map Fe.key).filter fun p => !p.1.sameKey (.string b)))
  rw [← e1, List.filter_filter]
  simp

theorem DiskIs.renamed {i : Nat} {c : Nat → Nat} {W W' : World} {g : Nat} {D : Dk.D} {m : Nat} {l1 l2 : List Fe} {x : Fe} (h : DiskIs i c W g D m (l1 ++ x :: l2)) (b : Dk.Bs) (n : Nat)
    (hown : W'.ownsMap Tryz.prog 9 ptrElem m n (((DataW.map ((l1 ++ x :: l2).map Fe.key)).del (.string x.nm)).put (.string b) (.held (some ⟨x.g, 0, none⟩))))
    (hs : W.heap.size ≤ W'.heap.size) (hW : ∀ b, b < W.heap.size → b ≠ m → W'.heap[b]? = W.heap[b]?) : DiskAt i c W' g { D with fs := Dk.ins b x.f (Dk.del b (Dk.del x.nm D.fs)) } := by
  rw [key_del, key_put2] at hown
  have hown := ownsMap_tight hown
  rw [List.length_map] at hown
  have hp := Dk.insBy_perm Fe.nm { x with nm := b } (((l1 ++ x :: l2).filter fun y => !(y.nm == x.nm)).filter fun y => !(y.nm == b))
  refine ⟨m, _, h.remap _ _ ?_ hown ?_ ?_ hs hW⟩
  · rw [h.fs, ent_del, ent_del]
    unfold Dk.ins
    rw [Dk.insBy_map Fe.nm Prod.fst Fe.ent (fun _ => rfl)]
    rfl
  · intro y hy
    rcases List.mem_cons.1 (hp.mem_iff.1 hy) with rfl | hy
    · exact ⟨x, by simp, b, rfl⟩
    · exact ⟨y, (List.mem_filter.1 (List.mem_filter.1 hy).1).1, y.nm, rfl⟩
  · rw [(hp.flatMap_right Fe.blks).nodup_iff, List.flatMap_cons]
    have hnd : ((l1 ++ x :: l2).flatMap Fe.blks).Nodup := (List.nodup_cons.1 (List.nodup_cons.1 h.nd).2).2
    have hpm : ((l1 ++ x :: l2).flatMap Fe.blks).Perm (x.blks ++ (l1 ++ l2).flatMap Fe.blks) := by
      simp only [List.flatMap_append, List.flatMap_cons]
      rw [← List.append_assoc, ← List.append_assoc]
      exact (List.perm_append_comm).append_right _
    rw [hpm.nodup_iff] at hnd
    refine hnd.sublist ((List.Sublist.refl _).append ?_)
    refine (blks_sub _ _).trans ?_
    have e : (l1 ++ x :: l2).filter (fun y => !(y.nm == x.nm)) = (l1 ++ l2).filter fun y => !(y.nm == x.nm) := by simp
    rw [e]
    exact blks_sub _ _

set_option maxRecDepth 100000 in
set_option maxHeartbeats 1000000 in
theorem dk_rename2 {i : Nat} {c : Nat → Nat} {W : World} {g : Nat} {D : Dk.D} {m : Nat} {xs : List Fe} (h : DiskIs i c W g D m xs) (s t : ByteArray) (hs : s.size ≤ 9223372036854775807) (ht : t.size ≤ 9223372036854775807) (hxs : xs.length ≤ 1073741824) (nb tb db : Nat) (f : Dk.Fl) (hf : Dk.find s.data.toList D.fs = some f)
    (hn : W.cell? ⟨nb, 0, none⟩ = some (.string s)) (hd : W.cell? ⟨db, 0, none⟩ = some (.pointer (some ⟨g, 0, none⟩))) (htb : W.cell? ⟨tb, 0, none⟩ = some (.string t)) :
    Calls Tryz.prog 120 #[.pointer (some ⟨db, 0, none⟩), .pointer (some ⟨nb, 0, none⟩), .pointer (some ⟨tb, 0, none⟩)] W fun e W' => ∃ c', e = .returned (.tuple #[]) ∧ DiskAt i c' W' g { D with fs := Dk.ins t.data.toList f (Dk.del t.data.toList (Dk.del s.data.toList D.fs)) } ∧ Chg i c c' W W' := by
  obtain ⟨l1, x, l2, rfl, hnm, rfl⟩ := h.find_some hf
  have c0 := h.cells.1
  have hl := fun n => DiskIs.look_some h s (by unfold maxLen; omega) hnm (W.drewN n) rfl
  have H := Lib.hid h
  have HN := Lib.hid hnm
  clear h hf hnm
  go_enter Tryz.func120, Tryz.ntmps120
  go_wp2_with fail
  go_quiet (fail)
  obtain ⟨W1, hW1⟩ : ∃ W1, W1 = W.drewN nq := ⟨_, rfl⟩
  have hh : W1.heap = W.heap := by rw [hW1]; rfl
  have hc1 : Chg i c c W W1 := by rw [hW1]; exact (Chg.refl i c W).drewN nq
  have H1 := Lib.hid (H.out.same hh)
  have n1 := (World.cell?_of_block (w := W) (w' := W1) (a := ⟨nb, 0, none⟩) (by rw [hh])).trans hn
  have d1 := (World.cell?_of_block (w := W) (w' := W1) (a := ⟨db, 0, none⟩) (by rw [hh])).trans hd
  have t1 := (World.cell?_of_block (w := W) (w' := W1) (a := ⟨tb, 0, none⟩) (by rw [hh])).trans htb
  have g1 := (World.cell?_of_block (w := W) (w' := W1) (a := ⟨g, 0, none⟩) (by rw [hh])).trans c0
  rw [← hW1]
  have HC := Lib.hid hc1
  clear hc1 hh hW1 hn hd htb c0 H
  have hm := ownsMap_block (W' := W1.drew) H1.out.map rfl
  obtain ⟨w2, hrun, hown2, hturn⟩ := hm.drop dk_law Tryz.underlying98 (key := .string s) (Go.WideMaps.keyOf_string_mk Tryz.underlying9 (by unfold maxLen; omega)) 0
  have hm3 := ownsMap_block (W' := w2.drew) hown2 rfl
  obtain ⟨w3, hrun3, hown3, hturn3⟩ := hm3.store dk_law Tryz.underlying98 (by unfold maxLen; simp at hxs ⊢; omega) (key := .string t) (val := .pointer (some ⟨x.g, 0, none⟩)) (Go.WideMaps.keyOf_string_mk Tryz.underlying9 (by unfold maxLen; omega)) (d := .held (some ⟨x.g, 0, none⟩)) (ps := []) rfl
  have k1 : w2.cell? ⟨tb, 0, none⟩ = some (.string t) := hturn.grown.cell (w := W1.drew) t1 (ownsMap_ne H1.out.map t1)
  have k2 : w2.cell? ⟨db, 0, none⟩ = some (.pointer (some ⟨g, 0, none⟩)) := hturn.grown.cell (w := W1.drew) d1 (ownsMap_ne H1.out.map d1)
  have k3 : w2.cell? ⟨g, 0, none⟩ = some (.map (some m)) := hturn.grown.cell (w := W1.drew) g1 (ownsMap_ne H1.out.map g1)
  have HO := Lib.hid hown3
  have HT := Lib.hid hturn
  have HT3 := Lib.hid hturn3
  clear hm hown2 hturn hm3 hown3 hturn3 hl
  go_wp2_with fail
  refine wp_region_still_tail 5 (by kernel_rfl) (by kernel_rfl) ?_
  simp only [List.take_succ_cons, List.take_zero, List.drop_succ_cons, List.drop_zero]
  change wpStill _ _ (World.drew _) _ _ _
  repeat still_step
  refine wpStill_nil ?_
  go_wp2_with fail
  refine wp_region_still_tail 6 (by kernel_rfl) (by kernel_rfl) ?_
  simp only [List.take_succ_cons, List.take_zero, List.drop_succ_cons, List.drop_zero]
  change wpStill _ _ (World.drew _) _ _ _
  repeat still_step
  refine wpStill_nil ?_
  go_wp2_with fail
  go_end0
  have hg := HT.out.grown
  have hg3 := HT3.out.grown
  have hs2 : W1.heap.size ≤ w2.heap.size := hg.size
  have hs3 : w2.heap.size ≤ w3.heap.size := hg3.size
  have hW : ∀ b, b < W1.heap.size → b ≠ m → w3.heap[b]? = W1.heap[b]? := fun b hb hne => (hg3.block b (Nat.lt_of_lt_of_le hb hs2) (fun e => hne (by cases e; rfl))).trans (hg.block b hb (fun e => hne (by cases e; rfl)))
  have hown := HO.out
  rw [← HN.out] at hown
  have hr := H1.out.renamed t.data.toList _ hown (Nat.le_trans hs2 hs3) hW
  rw [HN.out] at hr
  exact ⟨c, rfl, hr, HC.out.trans ⟨hg3.os.trans hg.os, hg3.tape.trans hg.tape, hg3.output.trans hg.output, Nat.le_trans hs2 hs3, fun b hb hne => hW b hb (fun e => hne (by rw [e]; exact (H1.out.col m (by simp)).1)), fun _ _ => rfl⟩⟩

set_option maxRecDepth 100000 in
set_option maxHeartbeats 1000000 in
theorem dk_rename1 {i : Nat} {c : Nat → Nat} {W : World} {g : Nat} {D : Dk.D} {m : Nat} {xs : List Fe} (h : DiskIs i c W g D m xs) (s t : ByteArray) (hs : s.size ≤ 9223372036854775807) (ht : t.size ≤ 9223372036854775807) (nb tb db : Nat)
    (hn : W.cell? ⟨nb, 0, none⟩ = some (.string s)) (hd : W.cell? ⟨db, 0, none⟩ = some (.pointer (some ⟨g, 0, none⟩))) (htb : W.cell? ⟨tb, 0, none⟩ = some (.string t)) :
    Calls Tryz.prog 119 #[.pointer (some ⟨db, 0, none⟩), .pointer (some ⟨nb, 0, none⟩), .pointer (some ⟨tb, 0, none⟩)] W fun e W' => e = .returned (.int .i64 (Dk.renameCheck D s.data.toList t.data.toList)) ∧ Below W.heap.size W W' := by
  have he := dk_exists h s hs
  cases hf : Dk.find s.data.toList D.fs with
  | none =>
    have HR : Hid (Dk.renameCheck D s.data.toList t.data.toList = 9) := by show _ = _; unfold Dk.renameCheck; rw [hf]
    rw [hf] at he
    clear h hf
    go_enter Tryz.func119, Tryz.ntmps119
    go_wp2_with fail
    refine he.mono ?_
    rintro e W1 ⟨rfl, rfl⟩
    go_wp2_with fail
    go_ret
    rw [HR.out]
    exact ⟨rfl, Below.refl _ _⟩
  | some f =>
    rw [hf] at he
    have hv := dk_validName t W ht
    cases hval : Dk.valid t.data.toList with
    | false =>
      have HR : Hid (Dk.renameCheck D s.data.toList t.data.toList = 6) := by show _ = _; unfold Dk.renameCheck; rw [hf]; simp [hval]
      rw [hval] at hv
      clear h hf
      go_enter Tryz.func119, Tryz.ntmps119
      go_wp2_with fail
      refine he.mono ?_
      rintro e W1 ⟨rfl, rfl⟩
      go_wp2_with fail
      refine hv.mono ?_
      rintro e W1 ⟨rfl, hb⟩
      go_wp2_with fail
      go_ret
      rw [HR.out]
      exact ⟨rfl, hb⟩
    | true =>
      have HR : Hid (Dk.renameCheck D s.data.toList t.data.toList = 0) := by show _ = _; unfold Dk.renameCheck; rw [hf]; simp [hval]
      rw [hval] at hv
      clear h hf
      go_enter Tryz.func119, Tryz.ntmps119
      go_wp2_with fail
      refine he.mono ?_
      rintro e W1 ⟨rfl, rfl⟩
      go_wp2_with fail
      refine hv.mono ?_
      rintro e W1 ⟨rfl, hb⟩
      go_wp2_with fail
      go_ret
      rw [HR.out]
      exact ⟨rfl, hb⟩

theorem dk_entN1 : ∀ args w, (callFunc 119 args).run Tryz.prog w = .ok (.enter 119 args) w := enters_of Tryz.func119 (by kernel_rfl) rfl
theorem dk_entN2 : ∀ args w, (callFunc 120 args).run Tryz.prog w = .ok (.enter 120 args) w := enters_of Tryz.func120 (by kernel_rfl) rfl

set_option maxRecDepth 100000 in
set_option maxHeartbeats 2000000 in
theorem dk_Rename {i : Nat} {c : Nat → Nat} {W : World} {g : Nat} {D : Dk.D} (h : DiskAt i c W g D) (s t : ByteArray) (hs : s.size ≤ 9223372036854775807) (ht : t.size ≤ 9223372036854775807) (hbud : D.bud ≤ 9223372036854775807) (hmany : D.fs.length ≤ 1073741824) :
    Calls Tryz.prog 66 #[.pointer (some ⟨g, 0, none⟩), .string s, .string t] W (DkPost i c W g (D.rename s.data.toList t.data.toList)) := by
  obtain ⟨m, xs, h⟩ := h
  have hxs : xs.length ≤ 1073741824 := by rw [h.fs] at hmany; simpa using hmany
  have hgl := (h.col g (by simp)).2
  obtain ⟨Wb, hWb⟩ : ∃ Wb, Wb = ((W.alloc (.cells #[.pointer (some ⟨g, 0, none⟩)] 41)).alloc (.cells #[.string s] 9)).alloc (.cells #[.string t] 9) := ⟨_, rfl⟩
  have hbel : Below W.heap.size W Wb := by rw [hWb]; exact (((Below.refl _ _).alloc (Nat.le_refl _) _).alloc (by simp) _).alloc (by simp; omega) _
  have hch : Chg i c (pnt c W.heap.size 0) W Wb := Chg.of_below hbel 0
  have hI : DiskIs i (pnt c W.heap.size 0) Wb g D m xs := h.chg (Chg.of_below (i := i + 1) hbel 0) (by omega) (by omega)
  have hsz : Wb.heap.size = W.heap.size + 3 := by rw [hWb]; simp
  have hd : Wb.cell? ⟨W.heap.size, 0, none⟩ = some (.pointer (some ⟨g, 0, none⟩)) := by rw [hWb]; exact Lib.cell?_alloc_some _ (by simp)
  have hn : Wb.cell? ⟨W.heap.size + 1, 0, none⟩ = some (.string s) := by rw [hWb]; exact Lib.cell?_alloc_some _ (by simp)
  have ht' : Wb.cell? ⟨W.heap.size + 2, 0, none⟩ = some (.string t) := by
    have e := heap_alloc_new ((W.alloc (.cells #[.pointer (some ⟨g, 0, none⟩)] 41)).alloc (.cells #[.string s] 9)) (.cells #[.string t] 9)
    rw [← hWb] at e
    have e2 : ((W.alloc (.cells #[.pointer (some ⟨g, 0, none⟩)] 41)).alloc (.cells #[.string s] 9)).heap.size = W.heap.size + 2 := by simp
    rw [e2] at e
    rw [cell_of_row _ _ _ _ _ _ e]
    rfl
  have main : Calls Tryz.prog 112 #[.pointer (some ⟨g, 0, none⟩), .func (.func 119) #[] #[.pointer (some ⟨W.heap.size, 0, none⟩), .pointer (some ⟨W.heap.size + 1, 0, none⟩), .pointer (some ⟨W.heap.size + 2, 0, none⟩)], .func (.func 120) #[] #[.pointer (some ⟨W.heap.size, 0, none⟩), .pointer (some ⟨W.heap.size + 1, 0, none⟩), .pointer (some ⟨W.heap.size + 2, 0, none⟩)]] Wb (DkPost i c W g (D.rename s.data.toList t.data.toList)) := by
    refine dk_modify Wb g D.bud D.down (.map (some m)) hI.row hbud _ _ _ _ dk_entN1 dk_entN2 _ (fun hdn => ?_) (fun hdn => ?_)
    · unfold Dk.D.rename
      rw [if_pos hdn]
      exact ⟨_, rfl, ⟨m, xs, hI⟩, hch⟩
    · refine (dk_rename1 hI s t hs ht _ _ _ hn hd ht').mono ?_
      rintro e W1 ⟨rfl, hb1⟩
      have hI1 := hI.chg (Chg.of_below (i := i + 1) hb1 0) (by omega) (by omega)
      have hch1 := hch.trans (Chg.of_below (i := i) hb1 0)
      cases hf : Dk.find s.data.toList D.fs with
      | none =>
        have hr9 : Dk.renameCheck D s.data.toList t.data.toList = 9 := by unfold Dk.renameCheck; rw [hf]
        refine ⟨_, rfl, hb1.block g (by omega), dk_modPost hI1 hch1 _ _ _ [] _ (fun hr => ?_) (fun hr => ?_) (fun hr W2 bud h2 hch2 hk2 hs2 => ?_)⟩
        · unfold Dk.D.rename
          rw [if_neg (by simp [hdn]), if_pos hr]
        · rw [hr9] at hr; cases hr
        · rw [hr9] at hr; cases hr
      | some f =>
        refine ⟨_, rfl, hb1.block g (by omega), dk_modPost hI1 hch1 _ _ _ (Dk.ins t.data.toList f (Dk.del t.data.toList (Dk.del s.data.toList D.fs))) _ (fun hr => ?_) (fun hr => ?_) (fun hr W2 bud h2 hch2 hk2 hs2 => ?_)⟩
        · unfold Dk.D.rename
          rw [if_neg (by simp [hdn]), if_pos hr]
        · unfold Dk.D.rename
          rw [if_neg (by simp [hdn]), if_neg (by simp [hr]), hf]
        · have keep : ∀ b, W.heap.size ≤ b → b < Wb.heap.size → ∀ v, Wb.cell? ⟨b, 0, none⟩ = some v → W2.cell? ⟨b, 0, none⟩ = some v := by
            intro b hb1' hb2' v hv
            have e1 := hb1.cell (p := ⟨b, 0, none⟩) hb2'
            have e2 := World.cell?_of_block (w := W1) (w' := W2) (a := ⟨b, 0, none⟩) (hk2 b (Nat.lt_of_lt_of_le hb2' hb1.size) (by omega))
            exact e2.trans (e1.trans hv)
          exact dk_rename2 h2 s t hs ht hxs _ _ _ f hf (keep _ (by omega) (by omega) _ hn) (keep _ (by omega) (by omega) _ hd) (keep _ (by omega) (by omega) _ ht')
  rw [hWb] at main
  have HM := Lib.hid main
  clear main h hI hch hbel hd hn hsz hWb ht'
  go_enter Tryz.func66, Tryz.ntmps66
  go_wp2_with fail
  refine HM.out.mono ?_
  intro e W' hp
  have HP := Lib.hid hp
  obtain ⟨c', rfl, _⟩ := hp
  go_wp2_with fail
  go_ret
  exact HP.out

end Go.Proofs.YtamencnachmhoaaGreatDoor
