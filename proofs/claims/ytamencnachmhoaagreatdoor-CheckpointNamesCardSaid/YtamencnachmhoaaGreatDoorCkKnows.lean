/-
  (*Store).Load.
  girolaw12.known; a nil store; giroref12.ValidName.
-/
import Derived.Test.YtamencnachmhoaaGreatDoorCkBack
import Derived.Test.YtamencnachmhoaaGreatDoorCkSaves
import Derived.Test.YtamencnachmhoaaGreatDoorCkOpens
import Derived.Test.YtamencnachmhoaaGreatDoorDkApp1
import Derived.Lib.SlBytesConst
import Derived.Lib.SmallJoins

namespace Go.Proofs.YtamencnachmhoaaGreatDoor
open Go.RowKit Go.Shelf

attribute [local go_sem] Oper.semAt_some

namespace Ck
theorem newest_none {D : Dk.D} : ∀ {l : List (Bs × Nat)}, (∀ x ∈ l, loadF D x = none) → newest D l = (0, [], 9)
  | [], _ => rfl
  | x :: l, h => by
    rw [newest, h x (by simp)]
    exact newest_none (fun y hy => h y (List.mem_cons_of_mem _ hy))
theorem newest_some {D : Dk.D} {x : Bs × Nat} {d : Bs} {r : List (Bs × Nat)} : ∀ {l : List (Bs × Nat)}, (∀ y ∈ l, loadF D y = none) → loadF D x = some d → newest D (l ++ x :: r) = (x.2, d, 0)
  | [], _, h => by rw [List.nil_append, newest, h]
  | y :: l, h1, h => by
    rw [List.cons_append, newest, h1 y (by simp)]
    exact newest_some (fun z hz => h1 z (List.mem_cons_of_mem _ hz)) h
theorem fat_len {F : List (Bs × Nat)} (h : ∀ x ∈ F, x.1.length ≤ 1000) (k : Nat) : (fat F k).1.length ≤ 1000 := by
  unfold fat
  rw [List.getD_eq_getElem?_getD]
  cases hk : F[k]? with
  | none => simp
  | some x => exact h x (List.mem_of_getElem? hk)
end Ck

theorem ld_world {W w : World} {o1 : Obj} {v2 v3 v4 : Value} {t2 t3 t4 : TypeId} (hw : w = (((W.alloc o1).alloc (.cells #[v2] t2)).alloc (.cells #[v3] t3)).alloc (.cells #[v4] t4)) :
    w.heap[W.heap.size]? = some o1 ∧ Boxed w (W.heap.size + 1) t2 v2 ∧ Boxed w (W.heap.size + 1 + 1) t3 v3 ∧ Boxed w (W.heap.size + 1 + 1 + 1) t4 v4 ∧ Below W.heap.size W w := by
  subst hw
  have s1 : (W.alloc o1).heap.size = W.heap.size + 1 := by simp
  have s2 : ((W.alloc o1).alloc (.cells #[v2] t2)).heap.size = W.heap.size + 1 + 1 := by simp
  have s3 : (((W.alloc o1).alloc (.cells #[v2] t2)).alloc (.cells #[v3] t3)).heap.size = W.heap.size + 1 + 1 + 1 := by simp
  have r2 := Boxed.new (W.alloc o1) t2 v2
  have r3 := Boxed.new ((W.alloc o1).alloc (.cells #[v2] t2)) t3 v3
  have r4 := Boxed.new (((W.alloc o1).alloc (.cells #[v2] t2)).alloc (.cells #[v3] t3)) t4 v4
  rw [s1] at r2
  rw [s2] at r3
  rw [s3] at r4
  refine ⟨?_, (r2.alloc _).alloc _, r3.alloc _, r4, ?_⟩
  · rw [Below.heap_alloc _ _ _ (by simp; omega), Below.heap_alloc _ _ _ (by simp; omega), Below.heap_alloc _ _ _ (by simp)]
    exact World.alloc_heap_new W o1
  · exact ((((Below.refl _ _).alloc (Nat.le_refl _) _).alloc (by omega) _).alloc (by omega) _).alloc (by omega) _

theorem ld_stores {w : World} {b2 b3 b4 : Nat} {u2 u3 u4 : Value} {t2 t3 t4 : TypeId} (v2 v3 v4 : Value) (h2 : Boxed w b2 t2 u2) (h3 : Boxed w b3 t3 u3) (h4 : Boxed w b4 t4 u4) (n1 : b2 ≠ b3) (n2 : b2 ≠ b4) (n3 : b3 ≠ b4) :
    let w9 := ((w.setCell ⟨b2, 0, none⟩ v2).setCell ⟨b3, 0, none⟩ v3).setCell ⟨b4, 0, none⟩ v4
    Boxed w9 b2 t2 v2 ∧ Boxed w9 b3 t3 v3 ∧ Boxed w9 b4 t4 v4 ∧ (∀ B, B ≤ b2 → B ≤ b3 → B ≤ b4 → Below B w w9) ∧ KeepsOthers w w9 ∧ (∀ b, b ≠ b2 → b ≠ b3 → b ≠ b4 → w9.heap[b]? = w.heap[b]?) := by
  refine ⟨((h2.set v2).other n1 v3).other n2 v4, ((h3.other (Ne.symm n1) v2).set v3).other n3 v4, ((h4.other (Ne.symm n2) v2).other (Ne.symm n3) v3).set v4, fun B e2 e3 e4 => ?_, ?_, fun b e2 e3 e4 => ?_⟩
  · exact (((Below.refl B w).setCell (p := ⟨b2, 0, none⟩) e2 _).setCell (p := ⟨b3, 0, none⟩) e3 _).setCell (p := ⟨b4, 0, none⟩) e4 _
  · exact ((KeepsOthers.setCell _ _ _).trans (KeepsOthers.setCell _ _ _)).trans (KeepsOthers.setCell _ _ _)
  · exact ((Below.heap_setCell _ ⟨b4, 0, none⟩ _ b e4).trans (Below.heap_setCell _ ⟨b3, 0, none⟩ _ b e3)).trans (Below.heap_setCell _ ⟨b2, 0, none⟩ _ b e2)

set_option maxRecDepth 100000 in
theorem ld_results (tmps : Array Value) (w : World) (b2 b3 b4 : Nat) (v2 v3 v4 : Value) (h2 : tmps.getD 2 undef = .pointer (some ⟨b2, 0, none⟩)) (h3 : tmps.getD 3 undef = .pointer (some ⟨b3, 0, none⟩)) (h4 : tmps.getD 4 undef = .pointer (some ⟨b4, 0, none⟩))
    (c2 : w.cell? ⟨b2, 0, none⟩ = some v2) (c3 : w.cell? ⟨b3, 0, none⟩ = some v3) (c4 : w.cell? ⟨b4, 0, none⟩ = some v4) : (results Tryz.f25 tmps).run Tryz.prog w = .ok (.tuple #[v2, v3, v4]) w := by
  have hr : Tryz.f25.results = #[.cell 2 3, .cell 3 22, .cell 4 24] := rfl
  simp only [results, hr]
  rw [Array.getD_eq_getD_getElem?] at h2 h3 h4
  simp [h2, h3, h4, go_sem, c2, c3, c4]

theorem own_from {V V' : World} {B sz : Nat} {t : TypeId} {v : Value} {n : Nat} {xs : List Value} {row : Option Nat} (h : V.ownsRow B t sz v n xs) (hg : V.grownBy V' row) (hr : ∀ r, row = some r → ∃ o : Obj, V.heap[r]? = some o ∧ o.isCells = false) : V'.ownsRow B t sz v n xs := by
  refine own_keep h (fun g hgv => hg.block g (h.lt g hgv).2 (fun e => ?_))
  obtain ⟨o, ho, hc⟩ := hr g e.symm
  rcases h.2 with ⟨h0, _⟩ | ⟨g', cap, cur, hv, _, hh, _⟩
  · rw [h0] at hgv; cases hgv
  · rw [hv] at hgv
    obtain rfl : g' = g := by simpa [Value.ownBlock] using hgv
    rw [hh] at ho
    cases ho
    cases hc

/-- where Load's loop has been left: the first intact file is found, the results are stored -/
def LdX (D : Dk.D) (F : List (Ck.Bs × Nat)) (W w3 : World) (cc : Code) (pre : List Nat) (V : World) : Prop :=
  cc = .ret ∧ ∃ (pre' : List Nat) (k : Nat) (d : Ck.Bs) (v : Value), pre = pre' ++ [k] ∧ (∀ x ∈ pre', Ck.loadF D (Ck.fat F x) = none) ∧ Ck.loadF D (Ck.fat F k) = some d ∧ Boxed V (W.heap.size + 1) 3 (.int .i64 (Ck.fat F k).2) ∧ Boxed V (W.heap.size + 1 + 1) 22 v ∧
    Boxed V (W.heap.size + 1 + 1 + 1) 24 (.int .i64 0) ∧ V.ownsRow w3.heap.size 5 1 v d.length (dkCells d) ∧ Below W.heap.size W V
theorem boxed_from {V V' : World} {B : Nat} {t : TypeId} {v : Value} {row : Option Nat} (h : Boxed V B t v) (hg : V.grownBy V' row) (hr : ∀ r, row = some r → ∃ o : Obj, V.heap[r]? = some o ∧ o.isCells = false) : Boxed V' B t v :=
  h.kept hg (fun e => by
    obtain ⟨o, ho, hc⟩ := hr _ e.symm
    rw [show V.heap[B]? = _ from h] at ho
    cases ho
    cases hc)
theorem LdX.own {D : Dk.D} {F : List (Ck.Bs × Nat)} {W w3 : World} (hW : W.heap.size ≤ w3.heap.size) (cc : Code) : OwnFrom w3.heap.size (LdX D F W w3 cc) := by
  rintro s V V' row ⟨h1, pre', k, d, v, e, hn, hl, x2, x3, x4, ho, hb⟩ hg hr
  have hr2 : ∀ r, row = some r → ∃ o : Obj, V.heap[r]? = some o ∧ o.isCells = false := fun r e => (hr r e).2
  exact ⟨h1, pre', k, d, v, e, hn, hl, boxed_from x2 hg hr2, boxed_from x3 hg hr2, boxed_from x4 hg hr2, own_from ho hg hr2, hb.grown hg hb.size (fun r e => Nat.le_trans hW (hr r e).1)⟩
theorem keepsFrom_below {V V' : World} (B : Nat) (h : Below V.heap.size V V') : KeepsFrom B V V' := ⟨h.size, fun j o _ hj _ => (h.block j (Array.getElem?_eq_some_iff.1 hj).1).trans hj⟩

theorem ck_Load_nil (W : World) : Calls Tryz.prog 25 #[.pointer none] W fun e W' => e = .returned (.tuple #[.int .i64 0, .slice none 0 0, .int .i64 1]) ∧ Below W.heap.size W W' := by
  obtain ⟨W1, hW1⟩ : ∃ W1, W1 = (((W.alloc (.cells #[.pointer none] 43)).alloc (.cells #[.int .i64 0] 3)).alloc (.cells #[.slice none 0 0] 22)).alloc (.cells #[.int .i64 0] 24) := ⟨_, rfl⟩
  obtain ⟨r1, r2, r3, r4, hb⟩ := ld_world hW1
  obtain ⟨s2, s3, s4, hb9, -, -⟩ := ld_stores (.int .i64 0) (.slice none 0 0) (.int .i64 1) r2 r3 r4 (by omega) (by omega) (by omega)
  have HW1 := Lib.hid hW1
  have HR := Lib.hid (And.intro s2.cell (And.intro s3.cell s4.cell))
  have HB := Lib.hid (hb.trans (hb9 W.heap.size (by omega) (by omega) (by omega)))
  have c1 : W1.cell? ⟨W.heap.size, 0, none⟩ = some (.pointer none) := by rw [cell_of_row _ _ _ _ _ _ r1]; rfl
  have d2 := r2.cell
  have d3 := r3.cell
  have d4 := r4.cell
  have f2 := r2.frozen
  have f3 := r3.frozen
  have f4 := r4.frozen
  clear r1 r2 r3 r4 hb s2 s3 s4 hb9 hW1
  refine calls_of_wp_marks Tryz.func25 rfl ?_
  simp only [Tryz.ntmps25, List.size_toArray, List.length_cons, List.length_nil, Nat.reduceAdd, Nat.reduceSub, Array.replicate_succ, Array.replicate_zero, List.push_toArray, List.append_toArray, List.nil_append, List.cons_append]
  go_upto_region 1 with fail
  rw [← HW1.out]
  go_wp2_with fail
  exact leavesM_end (ld_results _ _ _ _ _ _ _ _ rfl rfl rfl HR.out.1 HR.out.2.1 HR.out.2.2) ⟨rfl, HB.out⟩

theorem ck_Load_down {i : Nat} {c : Nat → Nat} {W : World} {s g : Nat} {D : Dk.D} {nm : Ck.Bs} (hd : DiskAt i c W g D) (hs : StIs c W s g nm) (hi : i ≠ 0) (hdn : D.down = true) :
    Calls Tryz.prog 25 #[.pointer (some ⟨s, 0, none⟩)] W fun e W' => e = .returned (.tuple #[.int .i64 0, .slice none 0 0, .int .i64 32]) ∧ Below W.heap.size W W' := by
  obtain ⟨W1, hW1⟩ : ∃ W1, W1 = (((W.alloc (.cells #[.pointer (some ⟨s, 0, none⟩)] 43)).alloc (.cells #[.int .i64 0] 3)).alloc (.cells #[.slice none 0 0] 22)).alloc (.cells #[.int .i64 0] 24) := ⟨_, rfl⟩
  obtain ⟨r1, r2, r3, r4, hb⟩ := ld_world hW1
  obtain ⟨s2, s3, s4, hb9, -, -⟩ := ld_stores (.int .i64 0) (.slice none 0 0) (.int .i64 32) r2 r3 r4 (by omega) (by omega) (by omega)
  have n1 := dk_Down (hd.chg (Chg.of_belowSame (i := i + 1) hb) (by omega) (by omega))
  rw [hdn] at n1
  obtain ⟨x0, -⟩ := (hs.below hb).cells
  have HW1 := Lib.hid hW1
  have HR := Lib.hid (And.intro s2.cell (And.intro s3.cell s4.cell))
  have HB := Lib.hid (hb.trans (hb9 W.heap.size (by omega) (by omega) (by omega)))
  have c1 : W1.cell? ⟨W.heap.size, 0, none⟩ = some (.pointer (some ⟨s, 0, none⟩)) := by rw [cell_of_row _ _ _ _ _ _ r1]; rfl
  have d2 := r2.cell
  have d3 := r3.cell
  have d4 := r4.cell
  have f2 := r2.frozen
  have f3 := r3.frozen
  have f4 := r4.frozen
  clear r1 r2 r3 r4 hb s2 s3 s4 hb9 hW1 hd hs
  refine calls_of_wp_marks Tryz.func25 rfl ?_
  simp only [Tryz.ntmps25, List.size_toArray, List.length_cons, List.length_nil, Nat.reduceAdd, Nat.reduceSub, Array.replicate_succ, Array.replicate_zero, List.push_toArray, List.append_toArray, List.nil_append, List.cons_append]
  go_upto_region 1 with fail
  rw [← HW1.out]
  go_wp2_with (go_at_call 53; refine n1.mono ?_; rintro e w2 ⟨rfl, rfl⟩)
  exact leavesM_end (ld_results _ _ _ _ _ _ _ _ rfl rfl rfl HR.out.1 HR.out.2.1 HR.out.2.2) ⟨rfl, HB.out⟩

set_option maxRecDepth 100000 in
set_option maxHeartbeats 1000000 in
theorem ck_Load_up {i : Nat} {c : Nat → Nat} {W : World} {s g : Nat} {D : Dk.D} {nm : Ck.Bs} (hd : DiskAt i c W g D) (hs : StIs c W s g nm) (hi : i ≠ 0) (hdn : D.down = false) (hmany : D.fs.length ≤ 1000000) (hnm : nm.length ≤ 900)
    (hx : ∀ x ∈ D.names, x.length ≤ 1000000000) (ht : Ck.Tame nm D.names) (hord : (Ck.filesF D nm).Pairwise fun a b => a.2 < b.2) :
    Calls Tryz.prog 25 #[.pointer (some ⟨s, 0, none⟩)] W fun e W' => ∃ v, e = .returned (.tuple #[.int .i64 (Ck.load D nm).1, v, .int .i64 (Ck.load D nm).2.2]) ∧ W'.ownsRow W.heap.size 5 1 v (Ck.load D nm).2.1.length (dkCells (Ck.load D nm).2.1) ∧ Below W.heap.size W W' := by
  obtain ⟨W1, hW1⟩ : ∃ W1, W1 = (((W.alloc (.cells #[.pointer (some ⟨s, 0, none⟩)] 43)).alloc (.cells #[.int .i64 0] 3)).alloc (.cells #[.slice none 0 0] 22)).alloc (.cells #[.int .i64 0] 24) := ⟨_, rfl⟩
  obtain ⟨r1, r2, r3, r4, hb⟩ := ld_world hW1
  have hd1 := hd.chg (Chg.of_belowSame (i := i + 1) hb) (by omega) (by omega)
  have n1 := dk_Down hd1
  rw [hdn] at n1
  have n2 := ck_files hd1 (hs.below hb) hi hmany (by omega) hx ht hord
  have hFL : (Ck.filesF D nm).length ≤ 1000000 := by
    refine Nat.le_trans (List.length_filterMap_le _ _) ?_
    unfold Dk.D.names
    split
    · simp
    · simpa using hmany
  have hlen := Ck.fat_len (Ck.filesF_len (D := D) hnm)
  have HLD : Hid (Ck.load D nm = Ck.newest D (Ck.filesF D nm).reverse) := Lib.hid (by unfold Ck.load; rw [if_neg (by simp [hdn])])
  generalize Ck.filesF D nm = F at *
  obtain ⟨x0, -⟩ := (hs.below hb).cells
  have HD := Lib.hid hd
  have HS := Lib.hid hs
  have HW1 := Lib.hid hW1
  have HB1 := Lib.hid hb
  have R1 := Lib.hid r1
  have R2 := Lib.hid r2
  have R3 := Lib.hid r3
  have R4 := Lib.hid r4
  have HLEN := Lib.hid hlen
  have c1 : W1.cell? ⟨W.heap.size, 0, none⟩ = some (.pointer (some ⟨s, 0, none⟩)) := by rw [cell_of_row _ _ _ _ _ _ r1]; rfl
  clear r1 r2 r3 r4 hb hW1 hd hs hd1 hlen hmany hx ht hnm hord
  refine calls_of_wp_marks Tryz.func25 rfl ?_
  simp only [Tryz.ntmps25, List.size_toArray, List.length_cons, List.length_nil, Nat.reduceAdd, Nat.reduceSub, Array.replicate_succ, Array.replicate_zero, List.push_toArray, List.append_toArray, List.nil_append, List.cons_append]
  go_upto_region 1 with fail
  rw [← HW1.out]
  go_upto_region 5 with (go_at_call 53; refine n1.mono ?_; rintro e w2 ⟨rfl, rfl⟩)
  clear n1
  go_wp2_with fail
  refine n2.mono ?_
  rintro e w2 ⟨v2, rfl, o2, b2⟩
  have HFI := Lib.hid (files_cells o2)
  obtain ⟨a2, k2, rfl⟩ := own_slice o2
  have n3 := ck_Backward w2 a2 F.length k2
  go_wp2_with (go_at_call 74; refine n3.mono ?_; rintro e w3 ⟨rfl, rfl⟩)
  have b3 : Below w2.heap.size w2 (w2.alloc (.cells #[.slice a2 F.length k2] 110)) := (Below.refl _ _).alloc (Nat.le_refl _) _
  have hbx := heap_alloc_new w2 (.cells #[.slice a2 F.length k2] 110)
  have hsz3 : (w2.alloc (.cells #[.slice a2 F.length k2] 110)).heap.size = w2.heap.size + 1 := by simp
  generalize w2.alloc (.cells #[.slice a2 F.length k2] 110) = w3 at b3 hbx hsz3 ⊢
  have hbc : w3.cell? ⟨w2.heap.size, 0, none⟩ = some (.slice a2 F.length k2) := by rw [cell_of_row _ _ _ _ _ _ hbx]; rfl
  have hfi : FilesIn w3 w3.heap.size F a2 := fun hp => by
    obtain ⟨sb, cap, e, -, h2, h3⟩ := HFI.out hp
    injection e with e1
    exact ⟨sb, e1, by omega, fun k x hx => ⟨(b3.cell (p := ⟨sb, k * 2, none⟩) h2).trans (h3 k x hx).1, (b3.cell (p := ⟨sb, k * 2 + 1, none⟩) h2).trans (h3 k x hx).2⟩⟩
  have b13 : Below W1.heap.size W1 w3 := b2.trans (b3.mono b2.size)
  have HB13 := Lib.hid b13
  have HB3 := Lib.hid (HB1.out.trans (b13.mono HB1.out.size))
  have hW1s : W.heap.size + 1 + 1 + 1 < W1.heap.size := (R4.out).lt
  have S1 := Lib.hid ((b13.block _ (by omega)).trans R1.out)
  have S2 : Hid (Boxed w3 (W.heap.size + 1) 3 (.int .i64 0)) := Lib.hid ((b13.block _ (by omega)).trans R2.out)
  have S3 : Hid (Boxed w3 (W.heap.size + 1 + 1) 22 (.slice none 0 0)) := Lib.hid ((b13.block _ (by omega)).trans R3.out)
  have S4 : Hid (Boxed w3 (W.heap.size + 1 + 1 + 1) 24 (.int .i64 0)) := Lib.hid ((b13.block _ (by omega)).trans R4.out)
  have hw3s : W.heap.size + 1 + 1 + 1 < w3.heap.size := by have := b13.size; omega
  have hlt3 : w2.heap.size < w3.heap.size := by omega
  rename_i Q' K hK
  clear n2 n3 x0 c1 R1 R2 R3 R4 o2 HFI b2 b3 hbx b13 HW1 hW1s
  refine (wpIn_wide (n := 5)).1 ?_
  refine wpIn_rangeFunc_ownH (F := Fence.wide) (n := 5) rfl (by decide) (gf := 130) (lb := #[.pointer (some ⟨w2.heap.size, 0, none⟩)]) rfl trivial (enters_of Tryz.func130 (by kernel_rfl) rfl)
    (ck_back_stops Fence.wide 4 trivial rfl (by decide) w2.heap.size w3.heap.size F a2 k2 hFL w3 (Nat.le_refl _) hbc hlt3 hfi) belowK_t (belowK_b (Nat.le_refl _)) (Below.refl _ _) (fun _ => rfl)
    (fun pre V => Below w3.heap.size w3 V ∧ ∀ k ∈ pre, Ck.loadF D (Ck.fat F k) = none)
    (LdX D F W w3)
    (OwnFrom.and (ownFrom_below (Nat.le_refl _) (Nat.le_refl _)) (fun _ _ _ _ hs _ _ => hs))
    (fun cc => LdX.own (by omega) cc)
    ⟨Below.refl _ _, fun k hk => by cases hk⟩
    (fun k a' V => ∃ Bx, w3.heap.size ≤ Bx ∧ V.heap[Bx]? = some (.cells #[.string ⟨(Ck.fat F k).1.toArray⟩, .int .i64 ((Ck.fat F k).2 : Int)] 113 (0, 0)) ∧
      a' = { tmps := #[.pointer (some ⟨s, 0, none⟩), .pointer (some ⟨W.heap.size, 0, none⟩), .pointer (some ⟨W.heap.size + 1, 0, none⟩), .pointer (some ⟨W.heap.size + 1 + 1, 0, none⟩), .pointer (some ⟨W.heap.size + 1 + 1 + 1, 0, none⟩), undef, .pointer (some ⟨Bx, 0, none⟩), undef, undef, .bool false, .pointer (some ⟨s, 0, none⟩), .bool false, .bool false,
        .pointer (some ⟨s, 0, none⟩), .pointer (some ⟨s, 0, none⟩), .pointer (some ⟨s, 0, none⟩), .pointer (some ⟨g, 0, none⟩), .bool false, .pointer (some ⟨s, 0, none⟩), .slice a2 F.length k2, .func (.func 130) #[] #[.pointer (some ⟨w2.heap.size, 0, none⟩)],
        .int .i64 (k : Int), .agg #[.string ⟨(Ck.fat F k).1.toArray⟩, .int .i64 ((Ck.fat F k).2 : Int)], undef, undef, undef, undef, undef, undef, undef, undef, undef, undef], defers := [] })
    (fun k a' _ X Y row hs hg hr => by
      obtain ⟨Bx, h1, h2, h3⟩ := hs
      refine ⟨Bx, h1, (hg.block Bx (Array.getElem?_eq_some_iff.1 h2).1 (fun e => ?_)).trans h2, h3⟩
      obtain ⟨_, o, ho, hc⟩ := hr _ e.symm
      rw [h2] at ho
      cases ho
      cases hc)
    ?assign ?body ?done ?stop
  case assign =>
    rintro l pre k V K2 ⟨hb1, hn1⟩ hK2
    obtain ⟨X, hX⟩ : ∃ X : ByteArray, X = ⟨(Ck.fat F k).1.toArray⟩ := ⟨_, rfl⟩
    obtain ⟨q, hq⟩ : ∃ q, q = (Ck.fat F k).2 := ⟨_, rfl⟩
    unfold Ck.encB
    rw [← hX, ← hq]
    have HN1 := Lib.hid hn1
    have HX := Lib.hid hX
    have HQ := Lib.hid hq
    clear hn1 hX hq
    gi_wp2
    have e1 := HX.out
    have e2 := HQ.out
    subst e1 e2
    exact hK2 _ _ ((KeepsOthers.alloc _ _).from _) ((Below.refl _ V).alloc hb1.size _) ⟨hb1.alloc hb1.size _, HN1.out⟩ ⟨V.heap.size, hb1.size, heap_alloc_new _ _, rfl⟩
  case body =>
    rintro l pre k a' V hl ⟨r, hr⟩ ⟨hb1, hn1⟩ ⟨Bx, hBx, hrow, rfl⟩ hlt
    obtain ⟨X, hX⟩ : ∃ X : ByteArray, X = ⟨(Ck.fat F k).1.toArray⟩ := ⟨_, rfl⟩
    obtain ⟨q, hq⟩ : ∃ q, q = (Ck.fat F k).2 := ⟨_, rfl⟩
    have hln := HLEN.out k
    have hbW : Below W.heap.size W V := HB3.out.trans (hb1.mono HB3.out.size)
    have n5 := ck_load (HD.out.chg (Chg.of_belowSame (i := i + 1) hbW) (by omega) (by omega)) (HS.out.below hbW) hi hln (n := (Ck.fat F k).2)
    have hpair : Ck.loadF D ((Ck.fat F k).1, (Ck.fat F k).2) = Ck.loadF D (Ck.fat F k) := rfl
    rw [hpair, ← hX, ← hq] at n5
    rw [← hX, ← hq] at hrow ⊢
    have c1 : V.cell? ⟨W.heap.size, 0, none⟩ = some (.pointer (some ⟨s, 0, none⟩)) := (hb1.cell (p := ⟨W.heap.size, 0, none⟩) (by show W.heap.size < _; omega)).trans (by rw [cell_of_row _ _ _ _ _ _ S1.out]; rfl)
    have y0 : V.cell? ⟨Bx, 0, none⟩ = some (.string X) := by rw [cell_of_row _ _ _ _ _ _ hrow]; rfl
    have y1 : V.cell? ⟨Bx, 1, none⟩ = some (.int .i64 q) := by rw [cell_of_row _ _ _ _ _ _ hrow]; rfl
    have T2 : Hid (Boxed V (W.heap.size + 1) 3 (.int .i64 0)) := Lib.hid ((hb1.block _ (by omega)).trans S2.out)
    have T3 : Hid (Boxed V (W.heap.size + 1 + 1) 22 (.slice none 0 0)) := Lib.hid ((hb1.block _ (by omega)).trans S3.out)
    have T4 : Hid (Boxed V (W.heap.size + 1 + 1 + 1) 24 (.int .i64 0)) := Lib.hid ((hb1.block _ (by omega)).trans S4.out)
    have hBV : Bx < V.heap.size := (Array.getElem?_eq_some_iff.1 hrow).1
    have hVs : w3.heap.size ≤ V.heap.size := hb1.size
    have HBW := Lib.hid hbW
    have HBv := Lib.hid hb1
    have HQ := Lib.hid hq
    have HN1 := Lib.hid hn1
    clear hX hq hln hbW hpair hb1 hrow hn1 hr hbc hfi hK
    have HU : Hid (∀ w5, Below V.heap.size V w5 → w5.cell? ⟨Bx, 1, none⟩ = some (.int .i64 q) ∧ Boxed w5 (W.heap.size + 1) 3 (.int .i64 0) ∧ Boxed w5 (W.heap.size + 1 + 1) 22 (.slice none 0 0) ∧ Boxed w5 (W.heap.size + 1 + 1 + 1) 24 (.int .i64 0)) :=
      Lib.hid (fun w5 b5 => ⟨(b5.cell (p := ⟨Bx, 1, none⟩) hBV).trans y1, (b5.block _ (by omega)).trans T2.out, (b5.block _ (by omega)).trans T3.out, (b5.block _ (by omega)).trans T4.out⟩)
    gi_wp2_with (refine ⟨trivial, ?_⟩; gi_at_call 70; refine (CallsIn.inRound l (callsIn_wide.2 n5)).mono ?_; rintro e w5 ⟨b5, hcase⟩; obtain ⟨z1, u2, u3, u4⟩ := HU.out _ b5; have d2 := u2.cell; have d3 := u3.cell; have d4 := u4.cell; have f2 := u2.frozen; have f3 := u3.frozen; have f4 := u4.frozen; have U2 := Lib.hid u2; have U3 := Lib.hid u3; have U4 := Lib.hid u4; clear u2 u3 u4; rcases hcase with ⟨dd, vd, hl5, rfl, o5⟩ | ⟨hl5, da, dk, dc, rfl⟩; (try (obtain ⟨va, vk, rfl⟩ := own_slice o5)))
    · obtain ⟨s2, s3, s4, hb9, hk9, hbl9⟩ := ld_stores (.int .i64 q) (.slice va dd.length vk) (.int .i64 0) U2.out U3.out U4.out (by omega) (by omega) (by omega)
      refine ⟨KeepsFrom.trans (keepsFrom_below _ b5) (hk9.from _), rfl, pre, k, dd, _, rfl, HN1.out, hl5, by rw [← HQ.out]; exact s2, s3, s4, ?_, (HBW.out.trans (b5.mono HBW.out.size)).trans (hb9 W.heap.size (by omega) (by omega) (by omega))⟩
      refine owns_mono (own_keep o5 (fun g' hg' => ?_)) hVs
      have := (o5.lt g' hg').1
      exact hbl9 g' (by omega) (by omega) (by omega)
    · refine ⟨keepsFrom_below _ b5, b5.mono hVs, HBv.out.trans (b5.mono HBv.out.size), fun x hx => ?_⟩
      rcases List.mem_append.1 hx with h | h
      · exact HN1.out x h
      · obtain rfl := List.mem_singleton.1 h
        exact hl5
  case done =>
    rintro D' ys V hD rfl ⟨hb1, hn1⟩ hdf
    have T2 : Boxed V (W.heap.size + 1) 3 (.int .i64 0) := (hb1.block _ (by omega)).trans S2.out
    have T3 : Boxed V (W.heap.size + 1 + 1) 22 (.slice none 0 0) := (hb1.block _ (by omega)).trans S3.out
    have T4 : Boxed V (W.heap.size + 1 + 1 + 1) 24 (.int .i64 0) := (hb1.block _ (by omega)).trans S4.out
    obtain ⟨s2, s3, s4, hb9, hk9, hbl9⟩ := ld_stores (.int .i64 0) (.slice none 0 0) (.int .i64 9) T2 T3 T4 (by omega) (by omega) (by omega)
    have hdf9 := (hbl9 D' (by omega) (by omega) (by omega)).trans hdf
    have hnone : ∀ x ∈ F.reverse, Ck.loadF D x = none := by
      rw [Ck.fat_rev]
      intro x hx
      obtain ⟨k, hk, rfl⟩ := List.mem_map.1 hx
      exact hn1 k hk
    have HLR : Hid (Ck.load D nm = (0, [], 9)) := Lib.hid (by rw [HLD.out, Ck.newest_none hnone])
    have HB9 := Lib.hid ((HB3.out.trans (hb1.mono HB3.out.size)).trans (hb9 W.heap.size (by omega) (by omega) (by omega)))
    have d2 := T2.cell
    have d3 := T3.cell
    have d4 := T4.cell
    have f2 := T2.frozen
    have f3 := T3.frozen
    have f4 := T4.frozen
    have HS9 := Lib.hid (And.intro s2 (And.intro s3 s4))
    have HDF := Lib.hid hdf9
    clear T2 T3 T4 s2 s3 s4 hb9 hk9 hbl9 hdf hdf9 hnone hn1 hb1 hbc hfi
    simp only [Exit.inBlock, Exit.then]
    refine hK _ _ ?_
    clear hK
    go_wp2_with fail
    show LeavesInM Fence.wide 5 _ _ _ _ _ .returning _
    refine leavesM_mark HDF.out ?_
    have k2 := (HS9.out.1.kept (grownBy_putObj' _ D' (.deferred none)) (by intro e; injection e with e; omega)).cell
    have k3 := (HS9.out.2.1.kept (grownBy_putObj' _ D' (.deferred none)) (by intro e; injection e with e; omega)).cell
    have k4 := (HS9.out.2.2.kept (grownBy_putObj' _ D' (.deferred none)) (by intro e; injection e with e; omega)).cell
    refine leavesM_end (ld_results _ _ _ _ _ (.int .i64 0) (.slice none 0 0) (.int .i64 9) rfl rfl rfl k2 k3 k4) ?_
    rw [HLR.out]
    exact ⟨_, rfl, World.ownsRow_nil _ _ _ _, HB9.out.trans (belowK_b (w := W) (Nat.le_refl _) _ D' _ _ (by omega) HDF.out rfl rfl)⟩
  case stop =>
    rintro D' cc pre V hD ⟨rest, hrest⟩ ⟨rfl, pre', k, d, v, rfl, hn, hlf, x2, x3, x4, ho, hb⟩ hdf
    have HLR : Hid (Ck.load D nm = ((Ck.fat F k).2, d, 0)) := Lib.hid (by
      rw [HLD.out, Ck.fat_rev, ← hrest, List.append_assoc, List.map_append]
      exact Ck.newest_some (fun y hy => by obtain ⟨z, hz, rfl⟩ := List.mem_map.1 hy; exact hn z hz) hlf)
    refine wpIn_wide.2 ?_
    clear hK
    go_wp2_with fail
    show LeavesInM Fence.wide 5 _ _ _ _ _ .returning _
    refine leavesM_mark hdf ?_
    have k2 := (x2.kept (grownBy_putObj' _ D' (.deferred none)) (by intro e; injection e with e; omega)).cell
    have k3 := (x3.kept (grownBy_putObj' _ D' (.deferred none)) (by intro e; injection e with e; omega)).cell
    have k4 := (x4.kept (grownBy_putObj' _ D' (.deferred none)) (by intro e; injection e with e; omega)).cell
    refine leavesM_end (ld_results _ _ _ _ _ _ _ _ rfl rfl rfl k2 k3 k4) ?_
    rw [HLR.out]
    refine ⟨_, rfl, ?_, hb.trans (belowK_b (w := W) (Nat.le_refl _) _ D' _ _ (by omega) hdf rfl rfl)⟩
    exact owns_mono (own_from ho (grownBy_putObj' _ D' (.deferred none)) (fun r e => by cases e; exact ⟨_, hdf, rfl⟩)) (by omega)

end Go.Proofs.YtamencnachmhoaaGreatDoor

namespace Go.Proofs.YtamencnachmhoaaGreatDoor
open Go.RowKit

namespace Ck
def stateN : Bs := [115, 116, 97, 116, 101]
theorem view0 {nm : Bs} (h : Wl.validP nm = true) : View nm [] [] := ⟨h, (fun x hx => by cases hx), (fun x hx => by cases hx), by simp⟩
theorem snaps0 : Snaps [] := ⟨List.Pairwise.nil, (fun s hs => by cases hs), fun s hs => by cases hs⟩
theorem holds0 {nm : Bs} (h : Wl.validP nm = true) : Holds nm [] [] [] none ⟨[], -1, false⟩ := ⟨view0 h, snaps0, rfl⟩
theorem beside0 (nm : Bs) : Beside nm [] := fun x hx => by cases hx
theorem open0 {nm : Bs} (h : Wl.validP nm = true) : openC ⟨[], -1, false⟩ nm = (⟨[], -1, false⟩, 0) := by
  unfold openC discard
  rw [if_neg (by rw [h]; simp), if_neg (by simp), if_neg (by simp [Dk.D.names])]
end Ck

theorem ck_Save_nil (W : World) (n : Int) (a : Option Addr) (l k : Nat) : Calls Tryz.prog 19 #[.pointer none, .int .i64 n, .slice a l k] W fun e W' => e = .returned (.int .i64 1) ∧ Below W.heap.size W W' := by
  obtain ⟨W1, hW1⟩ : ∃ W1, W1 = (W.alloc (.cells #[.pointer none] 43)).alloc (.cells #[.int .i64 n] 3) := ⟨_, rfl⟩
  have s1 : (W.alloc (.cells #[.pointer none] 43)).heap.size = W.heap.size + 1 := by simp
  have b1 : Below W.heap.size W W1 := by rw [hW1]; exact ((Below.refl _ _).alloc (Nat.le_refl _) _).alloc (by omega) _
  have r3 : W1.heap[W.heap.size]? = some (.cells #[.pointer none] 43 (0, 0)) := by
    rw [hW1, Below.heap_alloc _ _ _ (by simp)]
    exact heap_alloc_new W _
  have c3 : W1.cell? ⟨W.heap.size, 0, none⟩ = some (.pointer none) := by rw [cell_of_row _ _ _ _ _ _ r3]; rfl
  have HW1 := Lib.hid hW1
  have HB1 := Lib.hid b1
  clear hW1 b1 r3 s1
  go_enter Tryz.func19, Tryz.ntmps19
  go_upto_region 1 with fail
  rw [← HW1.out]
  go_wp2_with fail
  go_ret
  exact ⟨rfl, HB1.out⟩

theorem okP_bt12 (s : ByteArray) (i : Nat) (h : i < s.size) : Wl.okP s[i] = decide ((97 ≤ PlainAid.bt s i ∧ PlainAid.bt s i ≤ 122) ∨ (48 ≤ PlainAid.bt s i ∧ PlainAid.bt s i ≤ 57)) := by
  have hb := PlainAid.get_bt s i h
  rw [← hb]
  unfold Wl.okP
  rw [Bool.eq_iff_iff]
  simp only [Bool.or_eq_true, decide_eq_true_eq]
  omega

set_option maxRecDepth 100000 in
set_option maxHeartbeats 2000000 in
theorem rk_ValidName (s : ByteArray) (W : World) (hs : s.size ≤ 9223372036854775807) : Calls Tryz.prog 24 #[.string s] W fun e W' => e = .returned (.bool (Wl.validP s.data.toList)) ∧ W = W' := by
  have hsz : s.data.toList.length = s.size := by rw [Array.length_toList]; rfl
  have HV : Hid (Wl.validP s.data.toList = (s.data.toList.all Wl.okP && decide (1 ≤ s.size) && decide (s.size ≤ 16))) := Lib.hid (by unfold Wl.validP; rw [hsz])
  have hb := PlainAid.get_bt s
  have HL := Lib.hid hsz
  clear hsz
  go_enter Tryz.func24, Tryz.ntmps24
  go_wp2_with fail
  go_loopw [3] (fun iv wr => ∃ i : Nat, iv = .int .i64 i ∧ i ≤ s.size ∧ Hid ((s.data.toList.take i).all Wl.okP = true) ∧ wr = W) (fun iv _ => s.size - (RowKit.intOf iv).toNat)
  case atStart => exact ⟨0, rfl, Nat.zero_le _, Lib.hid rfl, rfl⟩
  case round =>
    obtain ⟨i, rfl, hi, HA, rfl⟩ := hrel
    by_cases hlt : i < s.size
    · have b0 := PlainAid.bt_nonneg s i
      have b1 := PlainAid.bt_le s i
      have hg : s.data.toList[i]? = some s[i] := by
        rw [List.getElem?_eq_getElem (by rw [HL.out]; exact hlt)]
        rfl
      have HK := Lib.hid (okP_bt12 s i hlt)
      have HN : Hid (Wl.okP s[i] = true → (s.data.toList.take (i + 1)).all Wl.okP = true) := by
        show _ → _
        intro h
        rw [List.take_add_one, hg, List.all_append, HA.out]
        simpa using h
      have HF : Hid (Wl.okP s[i] = false → Wl.validP s.data.toList = false) := by
        show _ → _
        intro h
        have : s.data.toList.all Wl.okP = false := by
          rw [List.all_eq_false]
          exact ⟨s[i], List.mem_of_getElem? hg, by simpa using h⟩
        rw [HV.out, this, Bool.false_and, Bool.false_and]
      clear hg
      by_cases q1 : 97 ≤ PlainAid.bt s i
      all_goals by_cases q2 : PlainAid.bt s i ≤ 122
      all_goals by_cases q3 : 48 ≤ PlainAid.bt s i
      all_goals by_cases q4 : PlainAid.bt s i ≤ 57
      all_goals try (exfalso; omega)
      all_goals go_wp2_with fail
      all_goals first
        | (go_ret; rw [HF.out (by rw [HK.out]; exact decide_eq_false (by omega))]; exact ⟨rfl, rfl⟩)
        | (refine ⟨⟨i + 1, by go_num, by omega, Lib.hid (HN.out (by rw [HK.out]; exact decide_eq_true (by omega))), trivial⟩, by simp [RowKit.intOf]; omega⟩)
        | (exfalso; omega)
    · obtain rfl : i = s.size := by omega
      have hall : s.data.toList.all Wl.okP = true := by
        have := HA.out
        rwa [List.take_of_length_le (by rw [HL.out]; exact Nat.le_refl _)] at this
      have HR : Hid (Wl.validP s.data.toList = (decide (1 ≤ s.size) && decide (s.size ≤ 16))) := Lib.hid (by rw [HV.out, hall, Bool.true_and])
      clear hall HA
      by_cases h1 : 1 ≤ s.size
      all_goals by_cases h2 : s.size ≤ 16
      all_goals
        go_wp2_with fail
      all_goals
        go_ret
        rw [HR.out]
        refine ⟨congrArg (fun b => Ending.returned (.bool b)) ?_, rfl⟩
        first | (simp [h1, h2]; done) | (simp [h1, h2]; omega)

/-- a literal's row behind the run-time's mark -/
theorem RdC.marked {W : World} {c : Nat → Nat} (l : Dk.Bs) (cs : Array Value) (hcs : cs.toList = dkCells l) (t : TypeId) (fr : Nat × Nat) : RdC (pnt c W.heap.size 0) (W.alloc (.cells cs t fr)) (.slice (some ⟨W.heap.size, 0, none⟩) l.length l.length) l := by
  refine ⟨.inr ⟨W.heap.size, 0, l.length, rfl, Nat.le_refl _, by simp, by simp, fun j x hj => ?_⟩, fun _ g hg => ?_⟩
  · rw [World.cell?_alloc_mark, Nat.zero_add, ← Array.getElem?_toList, hcs]
    exact dkCells_at l j x hj
  · simp only [Value.ownBlock, Option.some.injEq] at hg
    subst hg
    exact pnt_new (Nat.le_refl _)

set_option maxRecDepth 100000 in
set_option maxHeartbeats 2000000 in
theorem ck_known (W : World) : Calls Tryz.prog 10 #[] W fun e W' => e = .returned (.bool true) ∧ Below W.heap.size W W' := by
  have hvp : Wl.validP Ck.stateN = true := by decide
  have hfn : Ck.fileName Ck.stateN 42 = [115, 116, 97, 116, 101, 45, 48, 48, 48, 48, 48, 48, 48, 48, 52, 50, 46, 99, 107, 112, 116] := by decide +kernel
  have n0 := ck_FileName W ⟨#[115, 116, 97, 116, 101]⟩ 42 (by decide) (by decide) hvp
  rw [show (⟨#[115, 116, 97, 116, 101]⟩ : ByteArray).data.toList = Ck.stateN from rfl, hfn] at n0
  go_enter Tryz.func10, Tryz.ntmps10
  go_wp2_with fail
  refine n0.mono ?_
  rintro e W1 ⟨rfl, b1⟩
  have n1 := dk_new W1 1 (fun _ => 0) (by decide)
  have HB1 := Lib.hid b1
  clear n0 b1
  go_wp2_with fail
  refine n1.mono ?_
  rintro e W2 ⟨g, rfl, d2, b2⟩
  have HB2 := Lib.hid (HB1.out.trans (b2.mono HB1.out.size))
  have K2 : Kn W1 W2 (pnt (fun _ => 0) W1.heap.size 1) := ⟨b2, fun b hb => pnt_old hb⟩
  generalize pnt (fun _ => 0) W1.heap.size 1 = c2 at *
  have n2 := ck_Open d2 (by decide) ⟨#[115, 116, 97, 116, 101]⟩ (by decide) (by simp) (by decide)
  rw [show (⟨#[115, 116, 97, 116, 101]⟩ : ByteArray).data.toList = Ck.stateN from rfl, Ck.open0 hvp] at n2
  have HK2 := Lib.hid K2
  clear n1 b2 d2 K2
  go_wp2_with fail
  refine n2.mono ?_
  rintro e W3 ⟨c3, d3, h3, hcase⟩
  rcases hcase with ⟨-, s, rfl, S3⟩ | ⟨hne, -⟩
  · obtain ⟨W4, hW4⟩ : ∃ W4, W4 = W3.alloc (.cells #[.int .u8 97, .int .u8 98, .int .u8 99] 5 (3, 3 + 1)) := ⟨_, rfl⟩
    have kc : (convert 22 22 (.slice (some ⟨W3.heap.size, 0, none⟩) 3 3)).run Tryz.prog (W3.alloc (.cells #[.int .u8 97, .int .u8 98, .int .u8 99] 5)) = .ok (.slice (some ⟨W3.heap.size, 0, none⟩) 3 3) W4 := by
      rw [hW4]
      exact Lib.run_convert_bytes_const W3 22 5 #[.int .u8 97, .int .u8 98, .int .u8 99] 3 3 Tryz.underlying22 Tryz.underlying5
    have b4 : Below W3.heap.size W3 W4 := by rw [hW4]; exact (Below.refl _ _).alloc (Nat.le_refl _) _
    have rd : RdC (pnt c3 W3.heap.size 0) W4 (.slice (some ⟨W3.heap.size, 0, none⟩) 3 3) [97, 98, 99] := by rw [hW4]; exact RdC.marked [97, 98, 99] _ rfl _ _
    have hd4 : DiskAt 1 (pnt c3 W3.heap.size 0) W4 g ⟨[], -1, false⟩ := d3.chg (Chg.of_below (i := 2) b4 0) (by decide) (by decide)
    have hs4 : StIs (pnt c3 W3.heap.size 0) W4 s g Ck.stateN := S3.chg (Chg.of_below (i := 2) b4 0) (by decide)
    have K4 : Kn W1 W4 (pnt c3 W3.heap.size 0) := (HK2.out.chg h3 (by decide)).chg (Chg.of_below (i := 1) b4 0) (by decide)
    generalize pnt c3 W3.heap.size 0 = c4 at *
    have H0 := Ck.holds0 hvp
    rcases H0.save rfl (by simp) (n := 42) (data := [97, 98, 99]) (by decide) (by decide) (fun s hs => by cases hs) with ⟨a1, a2, a3, H'⟩ | ⟨a0, -⟩
    · have nS := ck_Save hd4 hs4 (by decide) rfl hvp rd (by decide) (n := 42) (by decide) (by rw [H0.seqs rfl]; rfl) (H0.good rfl (by simp) (by decide) (by decide) (fun s hs => by cases hs) (by decide) (Ck.beside0 _) (Ck.beside0 _))
      obtain ⟨r, hr⟩ : ∃ r, r = Ck.save ⟨[], -1, false⟩ Ck.stateN ((42 : Nat) : Int) [97, 98, 99] := ⟨_, rfl⟩
      rw [← hr] at a1 a2 a3 H' nS
      clear hr
      obtain ⟨rD, re⟩ := r
      simp only [] at a1 a2 a3 H' nS
      subst a1
      have e42 : ((42 : Nat) : Int) = 42 := rfl
      rw [e42] at nS
      have hb5 : rD.bud ≤ 9223372036854775807 := by rw [a3 (by first | rfl | trivial)]; decide
      have hF := H'.fit (by decide) hb5 (Ck.beside0 _) (Ck.beside0 _)
      have hl : Ck.load rD Ck.stateN = (42, [97, 98, 99], 0) := by rw [H'.load a2]; rfl
      have HF := Lib.hid hF
      have HLD := Lib.hid hl
      have HA2 := Lib.hid a2
      have HS4 := Lib.hid hs4
      have HK4 := Lib.hid K4
      clear n2 d3 h3 S3 hW4 b4 rd hd4 hs4 K4 H0 H' a2 a3 hb5 hF hl e42
      go_wp2_with fail
      refine nS.mono ?_
      rintro e W5 ⟨c5, rfl, d5, h5⟩
      have nL := ck_Load_up d5 (HS4.out.chg h5 (by decide)) (by decide) HA2.out HF.out.few2 (by decide) HF.out.nml HF.out.tame HF.out.ord
      rw [HLD.out] at nL
      have HK5 := Lib.hid (HK4.out.chg h5 (by decide))
      clear nS d5 h5
      go_wp2_with fail
      refine nL.mono ?_
      rintro e W6 ⟨v6, rfl, o6, b6⟩
      have q1 := dk_conv (RdB.of_own o6) W6 rfl
      have HB6 := Lib.hid (HB1.out.trans ((HK5.out.1.trans (b6.mono HK5.out.1.size)).mono HB1.out.size))
      obtain ⟨a6, k6, rfl⟩ := own_slice o6
      have q2 : (convert 22 9 (.slice a6 3 k6)).run Tryz.prog W6 = .ok (.string ⟨#[97, 98, 99]⟩) W6 := q1
      clear nL o6 b6 q1
      go_wp2_with fail
      go_ret
      exact ⟨rfl, HB6.out⟩
    · exact absurd rfl a0
  · exact absurd rfl hne

end Go.Proofs.YtamencnachmhoaaGreatDoor
