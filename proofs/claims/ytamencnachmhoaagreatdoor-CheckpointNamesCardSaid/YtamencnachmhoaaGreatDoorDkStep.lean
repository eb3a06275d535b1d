/-
  A call of a Go function as a law at a step of a region that draws its order; exists; Sync.
-/
import Derived.Test.YtamencnachmhoaaGreatDoorDkCreate
import Derived.StillTailTactics
namespace Go.Proofs.YtamencnachmhoaaGreatDoor
open Go.RowKit

theorem dk_step_call {P : Program} {ops : Array Oper} {o : Oper} {a : Act} {w : World} {K : Act → World → Prop} {Q : Exit → Act → World → Prop} {E : Prop} (hgd : o.guard = none) (k : FuncId) (xo : Array Operand) (ts : Array TypeId)
    (hop : o.op = Op.call { callee := Callee.value (Operand.func k), args := xo, argTypes := ts }) (hent : ∀ args w, (callFunc k args).run P w = .ok (.enter k args) w) (args : Array Value) (hargs : xo.map a.eval = args)
    (h : Calls P k args w fun e w' => ∃ v, e = .returned v ∧ K (a.put o.dst v) w') : if Region.wanted o (yielded ops a.tmps) = true then Oper.wp P o a w K Q else E := by
  have hw : Region.wanted o (yielded ops a.tmps) = true := by simp [Region.wanted, hgd]
  rw [if_pos hw]
  have ha : a.eval (Operand.func k) = .func (.func k) #[] #[] := rfl
  unfold Oper.wp
  simp [execOp, hop, resolve, invoke, ha, hargs, Deferred.ofValue, hent]
  rw [Oper.upon_enter]
  refine h.mono ?_
  rintro e w' ⟨v, rfl, hK⟩
  exact hK

set_option maxRecDepth 100000 in
theorem dk_exists {i : Nat} {c : Nat → Nat} {W : World} {g : Nat} {D : Dk.D} {m : Nat} {xs : List Fe} (h : DiskIs i c W g D m xs) (s : ByteArray) (hs : s.size ≤ 9223372036854775807) :
    Calls Tryz.prog 75 #[.pointer (some ⟨g, 0, none⟩), .string s] W fun e W' => e = .returned (.int .i64 (if (Dk.find s.data.toList D.fs).isSome then 0 else 9)) ∧ W = W' := by
  have c0 := h.cells.1
  cases hf : Dk.find s.data.toList D.fs with
  | some f =>
    obtain ⟨l1, x, l2, rfl, hnm, _⟩ := h.find_some hf
    have hl := DiskIs.look_some h s (by unfold maxLen; omega) hnm W rfl
    clear h hf
    go_enter Tryz.func75, Tryz.ntmps75
    go_wp2_with fail
    go_ret
    exact ⟨rfl, rfl⟩
  | none =>
    have hl := DiskIs.look_none h s (by unfold maxLen; omega) hf W rfl
    clear h hf
    go_enter Tryz.func75, Tryz.ntmps75
    go_wp2_with fail
    go_ret
    exact ⟨rfl, rfl⟩

/-- behind a file's sync -/
theorem DiskIs.synced {i : Nat} {c : Nat → Nat} {W W' : World} {g : Nat} {D : Dk.D} {m : Nat} {l1 l2 : List Fe} {x0 : Fe} (h : DiskIs i c W g D m (l1 ++ x0 :: l2)) (v' : Value)
    (hrow : W'.heap[x0.g]? = some (.cells #[v', .slice none 0 0] 131 (0, 0))) (hown : W'.ownsRow W.heap.size 5 1 v' x0.f.contents.length (dkCells x0.f.contents)) (hg : W.grownBy W' (some x0.g)) :
    DiskIs i (pnt c W.heap.size 0) W' g { D with fs := Dk.upd x0.nm ⟨x0.f.contents, []⟩ D.fs } m (l1 ++ ⟨x0.nm, x0.g, v', .slice none 0 0, [], ⟨x0.f.contents, []⟩⟩ :: l2) ∧ Chg i c (pnt c W.heap.size 0) W W' := by
  have hW : ∀ b, b < W.heap.size → b ∉ x0.blks → W'.heap[b]? = W.heap[b]? := fun b hb hn => hg.block b hb (fun e => hn (by cases e; simp [Fe.blks]))
  have hc : ∀ b, b < W.heap.size → pnt c W.heap.size 0 b = c b := fun b hb => pnt_old hb
  have hF := h.file x0 (by simp)
  refine ⟨h.turn (x0 := x0) (x1 := ⟨x0.nm, x0.g, v', .slice none 0 0, [], ⟨x0.f.contents, []⟩⟩) rfl rfl hg.size hW hc ⟨hrow, RdC.of_own hown (fun b hb _ => pnt_new hb), World.ownsRow_nil _ _ _ _, WrC.nil, hF.size, by simp⟩ (fun b hb => by simp [Value.ownBlock] at hb), h.turn_chg hg.os hg.tape hg.output hg.size hW hc⟩

theorem FeAt.same {c : Nat → Nat} {W W' : World} {x : Fe} (h : FeAt c W x) (hh : W'.heap = W.heap) : FeAt c W' x :=
  h.keep (by rw [hh]; exact Nat.le_refl _) (fun b _ h0 => ⟨by rw [hh], h0⟩) (fun b _ => by rw [hh])
theorem DiskIs.same {i : Nat} {c : Nat → Nat} {W W' : World} {g : Nat} {D : Dk.D} {m : Nat} {xs : List Fe} (h : DiskIs i c W g D m xs) (hh : W'.heap = W.heap) : DiskIs i c W' g D m xs :=
  ⟨by rw [hh]; exact h.row, ownsMap_block h.map (by rw [hh]), h.fs, fun x hx => (h.file x hx).same hh, h.nd, fun b hb => ⟨(h.col b hb).1, by rw [hh]; exact (h.col b hb).2⟩, h.ne⟩
theorem Chg.drewN {i : Nat} {c c' : Nat → Nat} {W W' : World} (h : Chg i c c' W W') (n : Nat) : Chg i c c' W (W'.drewN n) := ⟨h.os, h.tape, h.output, h.size, h.block, h.col⟩

theorem FeAt.synced {c : Nat → Nat} {W : World} {x : Fe} (h : FeAt c W x) : Calls Tryz.prog 81 #[.pointer (some ⟨x.g, 0, none⟩)] W fun e w' => ∃ v', e = .returned (.tuple #[]) ∧ w'.heap[x.g]? = some (.cells #[v', .slice none 0 0] 131 (0, 0)) ∧ w'.ownsRow W.heap.size 5 1 v' x.f.contents.length (dkCells x.f.contents) ∧ W.grownBy w' (some x.g) :=
  dk_sync x.g x.dv x.pv x.f.dur x.f.pend W h.row h.dur.1 h.rd (by have := h.size; unfold Dk.Fl.contents at this; omega)

set_option maxRecDepth 100000 in
set_option maxHeartbeats 1000000 in
theorem dk_sync2 {i : Nat} {c : Nat → Nat} {W : World} {g : Nat} {D : Dk.D} {m : Nat} {xs : List Fe} (h : DiskIs i c W g D m xs) (s : ByteArray) (hs : s.size ≤ 9223372036854775807) (nb db : Nat) (f : Dk.Fl) (hf : Dk.find s.data.toList D.fs = some f)
    (hn : W.cell? ⟨nb, 0, none⟩ = some (.string s)) (hd : W.cell? ⟨db, 0, none⟩ = some (.pointer (some ⟨g, 0, none⟩))) :
    Calls Tryz.prog 118 #[.pointer (some ⟨db, 0, none⟩), .pointer (some ⟨nb, 0, none⟩)] W fun e W' => ∃ c', e = .returned (.tuple #[]) ∧ DiskAt i c' W' g { D with fs := Dk.upd s.data.toList ⟨f.contents, []⟩ D.fs } ∧ Chg i c c' W W' := by
  obtain ⟨l1, x, l2, rfl, hnm, rfl⟩ := h.find_some hf
  have c0 := h.cells.1
  have hl := DiskIs.look_some h s (by unfold maxLen; omega) hnm W.drew rfl
  have hsy := ((h.file x (by simp)).same (W' := W.drew) rfl).synced
  have H := Lib.hid h
  have HNM := Lib.hid hnm
  clear h hf hnm
  go_enter Tryz.func118, Tryz.ntmps118
  go_wp2_with fail
  refine wp_region_still_tail 6 (by kernel_rfl) (by kernel_rfl) ?_
  simp only [List.take_succ_cons, List.take_zero, List.drop_succ_cons, List.drop_zero]
  change wpStill _ _ (World.drew _) _ _ _
  repeat still_step
  refine wpStill_nil ?_
  go_wp2_with fail
  refine hsy.mono ?_
  rintro e W1 ⟨v', rfl, hrow, hown, hg⟩
  have HR := Lib.hid hrow
  clear hrow hsy hl
  go_wp2_with fail
  go_end0
  obtain ⟨h1, h2⟩ := H.out.synced (W' := W1) v' HR.out hown ⟨hg.os, hg.tape, hg.output, hg.size, hg.block⟩
  rw [HNM.out] at h1
  exact ⟨_, rfl, ⟨_, _, h1⟩, h2⟩

set_option maxRecDepth 100000 in
set_option maxHeartbeats 1000000 in
theorem dk_sync1 {i : Nat} {c : Nat → Nat} {W : World} {g : Nat} {D : Dk.D} {m : Nat} {xs : List Fe} (h : DiskIs i c W g D m xs) (s : ByteArray) (hs : s.size ≤ 9223372036854775807) (nb db : Nat)
    (hn : W.cell? ⟨nb, 0, none⟩ = some (.string s)) (hd : W.cell? ⟨db, 0, none⟩ = some (.pointer (some ⟨g, 0, none⟩))) :
    Calls Tryz.prog 117 #[.pointer (some ⟨db, 0, none⟩), .pointer (some ⟨nb, 0, none⟩)] W fun e W' => e = .returned (.int .i64 (if (Dk.find s.data.toList D.fs).isSome then 0 else 9)) ∧ W = W' := by
  have he := dk_exists h s hs
  generalize (if (Dk.find s.data.toList D.fs).isSome then (0 : Int) else 9) = r at *
  clear h
  go_enter Tryz.func117, Tryz.ntmps117
  go_wp2_with fail
  refine he.mono ?_
  rintro e W1 ⟨rfl, rfl⟩
  go_wp2_with fail
  go_ret
  exact ⟨rfl, rfl⟩

theorem dk_ent19 : ∀ args w, (callFunc 117 args).run Tryz.prog w = .ok (.enter 117 args) w := enters_of Tryz.func117 (by kernel_rfl) rfl
theorem dk_ent21 : ∀ args w, (callFunc 118 args).run Tryz.prog w = .ok (.enter 118 args) w := enters_of Tryz.func118 (by kernel_rfl) rfl

set_option maxRecDepth 100000 in
set_option maxHeartbeats 2000000 in
theorem dk_Sync {i : Nat} {c : Nat → Nat} {W : World} {g : Nat} {D : Dk.D} (h : DiskAt i c W g D) (s : ByteArray) (hs : s.size ≤ 9223372036854775807) (hbud : D.bud ≤ 9223372036854775807) :
    Calls Tryz.prog 64 #[.pointer (some ⟨g, 0, none⟩), .string s] W (DkPost i c W g (D.sync s.data.toList)) := by
  obtain ⟨m, xs, h⟩ := h
  have hgl := (h.col g (by simp)).2
  obtain ⟨Wb, hWb⟩ : ∃ Wb, Wb = (W.alloc (.cells #[.pointer (some ⟨g, 0, none⟩)] 41)).alloc (.cells #[.string s] 9) := ⟨_, rfl⟩
  have hbel : Below W.heap.size W Wb := by rw [hWb]; exact ((Below.refl _ _).alloc (Nat.le_refl _) _).alloc (by simp) _
  have hch : Chg i c (pnt c W.heap.size 0) W Wb := Chg.of_below hbel 0
  have hI : DiskIs i (pnt c W.heap.size 0) Wb g D m xs := h.chg (Chg.of_below (i := i + 1) hbel 0) (by omega) (by omega)
  have hsz : Wb.heap.size = W.heap.size + 2 := by rw [hWb]; simp
  have hd : Wb.cell? ⟨W.heap.size, 0, none⟩ = some (.pointer (some ⟨g, 0, none⟩)) := by rw [hWb]; simp
  have hn : Wb.cell? ⟨W.heap.size + 1, 0, none⟩ = some (.string s) := by rw [hWb]; simp
  have main : Calls Tryz.prog 112 #[.pointer (some ⟨g, 0, none⟩), .func (.func 117) #[] #[.pointer (some ⟨W.heap.size, 0, none⟩), .pointer (some ⟨W.heap.size + 1, 0, none⟩)], .func (.func 118) #[] #[.pointer (some ⟨W.heap.size, 0, none⟩), .pointer (some ⟨W.heap.size + 1, 0, none⟩)]] Wb (DkPost i c W g (D.sync s.data.toList)) := by
    refine dk_modify Wb g D.bud D.down (.map (some m)) hI.row hbud _ _ _ _ dk_ent19 dk_ent21 _ (fun hdn => ?_) (fun hdn => ?_)
    · unfold Dk.D.sync
      rw [if_pos hdn]
      exact ⟨_, rfl, ⟨m, xs, hI⟩, hch⟩
    · refine (dk_sync1 hI s hs _ _ hn hd).mono ?_
      rintro e W1 ⟨rfl, rfl⟩
      refine ⟨_, rfl, rfl, dk_modPost hI hch _ _ _ (match Dk.find s.data.toList D.fs with | some f => Dk.upd s.data.toList ⟨f.contents, []⟩ D.fs | none => []) _ (fun hr => ?_) (fun hr => ?_) (fun hr W2 bud h2 hch2 hk2 hs2 => ?_)⟩
      · unfold Dk.D.sync
        rw [if_neg (by simp [hdn])]
        cases hf : Dk.find s.data.toList D.fs with
        | none => rfl
        | some f => simp [hf] at hr
      · unfold Dk.D.sync
        rw [if_neg (by simp [hdn])]
        cases hf : Dk.find s.data.toList D.fs with
        | none => simp [hf] at hr
        | some f => rfl
      · cases hf : Dk.find s.data.toList D.fs with
        | none => simp [hf] at hr
        | some f =>
          have keep : ∀ b, W.heap.size ≤ b → b < Wb.heap.size → ∀ v, Wb.cell? ⟨b, 0, none⟩ = some v → W2.cell? ⟨b, 0, none⟩ = some v := fun b hb1' hb2' v hv =>
            (World.cell?_of_block (w := Wb) (w' := W2) (a := ⟨b, 0, none⟩) (hk2 b hb2' (by omega))).trans hv
          exact dk_sync2 h2 s hs _ _ f hf (keep _ (by omega) (by omega) _ hn) (keep _ (by omega) (by omega) _ hd)
  rw [hWb] at main
  have HM := Lib.hid main
  clear main h hI hch hbel hd hn hsz hWb
  go_enter Tryz.func64, Tryz.ntmps64
  go_wp2_with fail
  refine HM.out.mono ?_
  intro e W' hp
  have HP := Lib.hid hp
  obtain ⟨c', rfl, _⟩ := hp
  go_wp2_with fail
  go_ret
  exact HP.out

end Go.Proofs.YtamencnachmhoaaGreatDoor
