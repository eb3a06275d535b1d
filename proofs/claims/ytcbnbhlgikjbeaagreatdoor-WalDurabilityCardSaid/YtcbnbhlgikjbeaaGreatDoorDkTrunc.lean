/-
  Truncate.
-/
import Derived.Test.YtcbnbhlgikjbeaaGreatDoorDkRename
import Derived.Test.YtcbnbhlgikjbeaaGreatDoorDkRestart3
namespace Go.Proofs.YtcbnbhlgikjbeaaGreatDoor
open Go.RowKit

namespace Dk
def truncCheck (d : D) (n : Bs) (k : Int) : Int := match find n d.fs with
  | none => 9
  | some f => if k < 0 ∨ (f.contents.length : Int) < k then 2 else 0
def D.truncate (d : D) (n : Bs) (k : Int) : D × Int :=
  if d.down then (d, 32) else if truncCheck d n k ≠ 0 then (d, truncCheck d n k) else match find n d.fs with
    | none => (d, 9)
    | some f => d.modify (upd n ⟨f.contents.take k.toNat, []⟩ d.fs)
end Dk

/-- a file that is laid anew, its bytes anywhere -/
theorem DiskIs.laid2 {i : Nat} {c : Nat → Nat} {W W' : World} {g : Nat} {D : Dk.D} {m : Nat} {l1 l2 : List Fe} {x0 : Fe} (h : DiskIs i c W g D m (l1 ++ x0 :: l2)) (v' : Value) (cs : Dk.Bs)
    (hrow : W'.heap[x0.g]? = some (.cells #[v', .slice none 0 0] 80 (0, 0))) (hrd : RdC (pnt c W.heap.size 0) W' v' cs) (hg : W.grownBy W' (some x0.g)) (hcs : cs.length ≤ 16777216) :
    DiskIs i (pnt c W.heap.size 0) W' g { D with fs := Dk.upd x0.nm ⟨cs, []⟩ D.fs } m (l1 ++ ⟨x0.nm, x0.g, v', .slice none 0 0, [], ⟨cs, []⟩⟩ :: l2) ∧ Chg i c (pnt c W.heap.size 0) W W' := by
  have hW : ∀ b, b < W.heap.size → b ∉ x0.blks → W'.heap[b]? = W.heap[b]? := fun b hb hn => hg.block b hb (fun e => hn (by cases e; simp [Fe.blks]))
  have hc : ∀ b, b < W.heap.size → pnt c W.heap.size 0 b = c b := fun b hb => pnt_old hb
  refine ⟨h.turn (x0 := x0) (x1 := ⟨x0.nm, x0.g, v', .slice none 0 0, [], ⟨cs, []⟩⟩) rfl rfl hg.size hW hc ⟨hrow, hrd, World.ownsRow_nil _ _ _ _, WrC.nil, by simpa [Dk.Fl.contents, Dk.contents] using hcs, by simp⟩ (fun b hb => by simp [Value.ownBlock] at hb), h.turn_chg hg.os hg.tape hg.output hg.size hW hc⟩

/-- the head of an own row, its capacity cut -/
theorem RdC.head_own {c : Nat → Nat} {W : World} {B : Nat} {a : Option Addr} {cap : Nat} {l : Dk.Bs} (h : W.ownsRow B 5 1 (.slice a l.length cap) l.length (dkCells l)) (hc : ∀ b, B ≤ b → b < W.heap.size → c b = 0) (k : Nat) (hk : k ≤ l.length) : RdC c W (.slice a k k) (l.take k) := by
  have hr := RdC.of_own h hc
  rcases Nat.eq_zero_or_pos k with h0 | h0
  · subst h0
    exact ⟨.inl ⟨by simp, a, 0, rfl⟩, fun hne => absurd (by simp) hne⟩
  · obtain ⟨g, cap', hv, hg, hlt⟩ := h.form (by omega)
    injection hv with e1 _ e3
    subst e1 e3
    refine ⟨.inr ⟨g, 0, k, by rw [List.length_take, Nat.min_eq_left hk], by rw [List.length_take]; omega, hlt, hlt, fun j x hj => ?_⟩, fun _ g' hg' => hr.2 (by rintro rfl; simp at hk; omega) g' hg'⟩
    rw [List.getElem?_take] at hj
    split at hj
    · have := h.cells (g := g) rfl j _ (dkCells_at l j x hj)
      rwa [dk_add] at this
    · cases hj

/-- a call that is wanted, in a region that draws -/
theorem dk_step_callg {P : Program} {ops : Array Oper} {o : Oper} {a : Act} {w : World} {K : Act → World → Prop} {Q : Exit → Act → World → Prop} {E : Prop} (hw : Region.wanted o (yielded ops a.tmps) = true) (k : FuncId) (xo : Array Operand) (ts : Array TypeId)
    (hop : o.op = Op.call { callee := Callee.value (Operand.func k), args := xo, argTypes := ts }) (hent : ∀ args w, (callFunc k args).run P w = .ok (.enter k args) w) (args : Array Value) (hargs : xo.map a.eval = args)
    (h : Calls P k args w fun e w' => ∃ v, e = .returned v ∧ K (a.put o.dst v) w') : if Region.wanted o (yielded ops a.tmps) = true then Oper.wp P o a w K Q else E := by
  rw [if_pos hw]
  have ha : a.eval (Operand.func k) = .func (.func k) #[] #[] := rfl
  unfold Oper.wp
  simp [execOp, hop, resolve, invoke, ha, hargs, Deferred.ofValue, hent]
  rw [Oper.upon_enter]
  refine h.mono ?_
  rintro e w' ⟨v, rfl, hK⟩
  exact hK

theorem dk_ent55 : ∀ args w, (callFunc 80 args).run Tryz.prog w = .ok (.enter 80 args) w := enters_of Tryz.func80 (by kernel_rfl) rfl

set_option maxRecDepth 100000 in
set_option maxHeartbeats 1000000 in
theorem dk_trunc1 {i : Nat} {c : Nat → Nat} {W : World} {g : Nat} {D : Dk.D} {m : Nat} {xs : List Fe} (h : DiskIs i c W g D m xs) (s : ByteArray) (hs : s.size ≤ 9223372036854775807) (k : Int) (nb kb db : Nat)
    (hn : W.cell? ⟨nb, 0, none⟩ = some (.string s)) (hd : W.cell? ⟨db, 0, none⟩ = some (.pointer (some ⟨g, 0, none⟩))) (hk : W.cell? ⟨kb, 0, none⟩ = some (.int .i64 k)) :
    Calls Tryz.prog 95 #[.pointer (some ⟨db, 0, none⟩), .pointer (some ⟨nb, 0, none⟩), .pointer (some ⟨kb, 0, none⟩)] W fun e W' => e = .returned (.int .i64 (Dk.truncCheck D s.data.toList k)) ∧ Below W.heap.size W W' := by
  have c0 := h.cells.1
  cases hf : Dk.find s.data.toList D.fs with
  | none =>
    have HR : Hid (Dk.truncCheck D s.data.toList k = 9) := by show _ = _; unfold Dk.truncCheck; rw [hf]
    have hl := fun n => h.look_none s (by unfold maxLen; omega) hf (W.drewN n) rfl
    clear h hf
    go_enter Tryz.func95, Tryz.ntmps95
    go_wp2_with fail
    go_quiet (fail)
    go_wp2_with fail
    go_ret
    rw [HR.out]
    exact ⟨rfl, dk_below_drewN (Below.refl _ _) nq⟩
  | some f =>
    obtain ⟨l1, x, l2, rfl, hnm, rfl⟩ := h.find_some hf
    have HR : Hid (Dk.truncCheck D s.data.toList k = if k < 0 ∨ (x.f.contents.length : Int) < k then 2 else 0) := by show _ = _; unfold Dk.truncCheck; rw [hf]
    have hl := fun n => DiskIs.look_some h s (by unfold maxLen; omega) hnm (W.drewN n) rfl
    have hsz := fun (W' : World) (hW : W'.heap = W.heap) => (show Calls Tryz.prog 80 #[.pointer (some ⟨x.g, 0, none⟩)] W' fun e w' => e = .returned (.int .i64 (Dk.contents x.f.dur x.f.pend).length) ∧ Below W'.heap.size W' w' from by
      have hF := (h.same hW).file x (by simp)
      exact dk_size x.g x.dv x.pv x.f.dur x.f.pend W' hF.row hF.dur.1 hF.rd (by have := hF.size; unfold Dk.Fl.contents at this; omega))
    have HS := Lib.hid hsz
    have hfc : Hid (x.f.contents = Dk.contents x.f.dur x.f.pend) := Lib.hid rfl
    rw [hfc.out] at HR
    generalize (Dk.contents x.f.dur x.f.pend).length = n at *
    clear h hf hnm hsz hfc
    by_cases hk0 : k < 0
    · have hkd : decide (k < 0) = true := by simpa using hk0
      rw [if_pos (.inl hk0)] at HR
      go_enter Tryz.func95, Tryz.ntmps95
      go_wp2_with fail
      go_quiet (fail)
      go_wp2_with fail
      go_quiet (fail)
      go_wp2_with fail
      go_ret
      rw [HR.out]
      exact ⟨rfl, by first | exact dk_below_drewN (dk_below_drewN (Below.refl _ _) _) _ | exact dk_below_drewN (Below.refl _ _) _⟩
    · have hkd : decide (k < 0) = false := by simpa using hk0
      go_enter Tryz.func95, Tryz.ntmps95
      go_wp2_with fail
      go_quiet (fail)
      obtain ⟨W1, hW1⟩ : ∃ W1, W1 = W.drewN nq := ⟨_, rfl⟩
      have hh : W1.heap = W.heap := by rw [hW1]; rfl
      have b1 : Below W.heap.size W W1 := by rw [hW1]; exact dk_below_drewN (Below.refl _ _) nq
      have k1 := (World.cell?_of_block (w := W) (w' := W1) (a := ⟨kb, 0, none⟩) (by rw [hh])).trans hk
      rw [← hW1]
      have HH := Lib.hid hh
      have hkb := World.block_lt_of_cell? W1 _ k1
      clear hW1 hk hn hd c0 hl hh
      go_wp2_with fail
      go_region_with (go_at_call 80; refine (HS.out W1.drew HH.out).mono ?_; rintro e W2 ⟨rfl, hb2'⟩; have hb2 : Below W1.heap.size W1 W2 := ⟨hb2'.os, hb2'.tape, hb2'.output, hb2'.size, hb2'.block⟩; clear hb2'; have k2 := (hb2.cell (p := ⟨kb, 0, none⟩) hkb).trans k1; have HB2 := Lib.hid hb2; clear hb2)
      all_goals
        have hb : Below W.heap.size W W2 := b1.trans (HB2.out.mono b1.size)
        by_cases hkn : (n : Int) < k
        · rw [if_pos (.inr hkn)] at HR
          go_wp2_with fail
          go_ret
          rw [HR.out]
          exact ⟨rfl, hb⟩
        · rw [if_neg (by omega)] at HR
          go_wp2_with fail
          go_ret
          rw [HR.out]
          exact ⟨rfl, hb⟩

set_option maxRecDepth 100000 in
set_option maxHeartbeats 1000000 in
theorem dk_trunc2 {i : Nat} {c : Nat → Nat} {W : World} {g : Nat} {D : Dk.D} {m : Nat} {xs : List Fe} (h : DiskIs i c W g D m xs) (s : ByteArray) (hs : s.size ≤ 9223372036854775807) (k : Nat) (nb kb db : Nat) (f : Dk.Fl) (hf : Dk.find s.data.toList D.fs = some f) (hkf : k ≤ f.contents.length)
    (hn : W.cell? ⟨nb, 0, none⟩ = some (.string s)) (hd : W.cell? ⟨db, 0, none⟩ = some (.pointer (some ⟨g, 0, none⟩))) (hk : W.cell? ⟨kb, 0, none⟩ = some (.int .i64 k)) :
    Calls Tryz.prog 96 #[.pointer (some ⟨db, 0, none⟩), .pointer (some ⟨nb, 0, none⟩), .pointer (some ⟨kb, 0, none⟩)] W fun e W' => ∃ c', e = .returned (.tuple #[]) ∧ DiskAt i c' W' g { D with fs := Dk.upd s.data.toList ⟨f.contents.take k, []⟩ D.fs } ∧ Chg i c c' W W' := by
  obtain ⟨l1, x, l2, rfl, hnm, rfl⟩ := h.find_some hf
  have c0 := h.cells.1
  have hl := fun n => DiskIs.look_some h s (by unfold maxLen; omega) hnm (W.drewN n) rfl
  have hxk : some kb ≠ some x.g := by
    intro e
    cases e
    have hF := h.file x (by simp)
    obtain ⟨a, b, n1, n2, c1, c2, e1, e2, hrow⟩ := hF.row_form
    rw [cell_of_row W _ _ _ _ _ hrow] at hk
    simp at hk
  have hkb := World.block_lt_of_cell? W _ hk
  have H := Lib.hid h
  have HN := Lib.hid hnm
  clear h hf hnm
  go_enter Tryz.func96, Tryz.ntmps96
  go_wp2_with fail
  go_quiet (fail)
  obtain ⟨W1, hW1⟩ : ∃ W1, W1 = W.drewN nq := ⟨_, rfl⟩
  have hh : W1.heap = W.heap := by rw [hW1]; rfl
  have hc1 : Chg i c c W W1 := by rw [hW1]; exact (Chg.refl i c W).drewN nq
  have H1 := Lib.hid (H.out.same hh)
  have k1 := (World.cell?_of_block (w := W) (w' := W1) (a := ⟨kb, 0, none⟩) (by rw [hh])).trans hk
  have hsz1 : kb < W1.heap.size := by rw [hh]; exact hkb
  rw [← hW1]
  have HC := Lib.hid hc1
  have hsy := Lib.hid (H1.out.file x (by simp)).synced
  have hfs := Lib.hid (H1.out.file x (by simp)).size
  clear hc1 hh hW1 hn hd hk c0 H hl hkb
  go_wp2_with fail
  refine hsy.out.mono ?_
  rintro e W2 ⟨v', rfl, hrow, hown, hg⟩
  have k2 : W2.cell? ⟨kb, 0, none⟩ = some (.int .i64 k) := (World.cell?_of_block (w := W1) (w' := W2) (a := ⟨kb, 0, none⟩) (hg.block kb hsz1 hxk)).trans k1
  obtain ⟨a, cap, rfl⟩ := dk_own_form hown
  have r0 : W2.cell? ⟨x.g, 0, none⟩ = some (.slice a x.f.contents.length cap) := by rw [cell_of_row W2 _ _ _ _ _ hrow]; rfl
  have r1 := dk_frozen W2 x.g 0 _ _ hrow
  have hcap : x.f.contents.length ≤ cap := by
    rcases Nat.eq_zero_or_pos x.f.contents.length with h0 | h0
    · omega
    · rcases RdB.of_own hown with ⟨h1, _⟩ | ⟨g', off', cap', hv, hc', _⟩
      · rw [h1] at h0; cases h0
      · injection hv with _ _ e3
        omega
  have hkc : k ≤ cap := by omega
  have HR := Lib.hid hrow
  have HO := Lib.hid hown
  have HG := Lib.hid hg
  clear hrow hown hg k1
  go_wp2_with fail
  refine wp_region_still_tail 10 (by kernel_rfl) (by kernel_rfl) ?_
  simp only [List.take_succ_cons, List.take_zero, List.drop_succ_cons, List.drop_zero]
  change wpStill _ _ (World.drew _) _ _ _
  repeat still_step
  refine wpStill_nil ?_
  go_wp2_with fail
  go_end0
  have hrow3 := dk_setCell W2 x.g 0 _ _ (.slice a k k) HR.out
  have hg3 : W2.grownBy (W2.setCell ⟨x.g, 0, none⟩ (.slice a k k)) (some x.g) := dk_grown_setCell W2 W2 x.g 0 _ ⟨rfl, rfl, rfl, Nat.le_refl _, fun _ _ _ => rfl⟩
  have hs3 : (W2.setCell ⟨x.g, 0, none⟩ (.slice a k k)).heap.size = W2.heap.size := by simp [World.setCell]
  have hxg : x.g < W1.heap.size := (H1.out.col x.g (mem_blks (x := x) (by simp) (by simp [Fe.blks]) g m)).2
  have hown3 : (W2.setCell ⟨x.g, 0, none⟩ (.slice a k k)).ownsRow W1.heap.size 5 1 (.slice a x.f.contents.length cap) x.f.contents.length (dkCells x.f.contents) := HO.out.kept hg3 (by
    cases hv : (Value.slice a x.f.contents.length cap).ownBlock with
    | none => exact .inl rfl
    | some j => exact .inr (fun e => by cases e; have := (HO.out.lt x.g hv).1; omega))
  have hrd := RdC.head_own (c := pnt c W1.heap.size 0) hown3 (fun b hb _ => pnt_new hb) k hkf
  have hgg : W1.grownBy (W2.setCell ⟨x.g, 0, none⟩ (.slice a k k)) (some x.g) := (show W1.grownBy W2 (some x.g) from HG.out).trans hg3
  obtain ⟨r1, r2⟩ := H1.out.laid2 (W' := (W2.setCell ⟨x.g, 0, none⟩ (.slice a k k)).drew) (.slice a k k) (x.f.contents.take k) hrow3 (show RdC _ (World.drew _) _ _ from hrd) ⟨hgg.os, hgg.tape, hgg.output, hgg.size, hgg.block⟩ (by rw [List.length_take]; have := hfs.out; omega)
  rw [HN.out] at r1
  exact ⟨_, rfl, ⟨_, _, r1⟩, HC.out.trans r2⟩

theorem dk_entT1 : ∀ args w, (callFunc 95 args).run Tryz.prog w = .ok (.enter 95 args) w := enters_of Tryz.func95 (by kernel_rfl) rfl
theorem dk_entT2 : ∀ args w, (callFunc 96 args).run Tryz.prog w = .ok (.enter 96 args) w := enters_of Tryz.func96 (by kernel_rfl) rfl

set_option maxRecDepth 100000 in
set_option maxHeartbeats 2000000 in
theorem dk_Truncate {i : Nat} {c : Nat → Nat} {W : World} {g : Nat} {D : Dk.D} (h : DiskAt i c W g D) (s : ByteArray) (hs : s.size ≤ 9223372036854775807) (k : Int) (hbud : D.bud ≤ 9223372036854775807) :
    Calls Tryz.prog 56 #[.pointer (some ⟨g, 0, none⟩), .string s, .int .i64 k] W (DkPost i c W g (D.truncate s.data.toList k)) := by
  obtain ⟨m, xs, h⟩ := h
  have hgl := (h.col g (by simp)).2
  obtain ⟨Wb, hWb⟩ : ∃ Wb, Wb = ((W.alloc (.cells #[.pointer (some ⟨g, 0, none⟩)] 26)).alloc (.cells #[.string s] 9)).alloc (.cells #[.int .i64 k] 3) := ⟨_, rfl⟩
  have hbel : Below W.heap.size W Wb := by rw [hWb]; exact (((Below.refl _ _).alloc (Nat.le_refl _) _).alloc (by simp) _).alloc (by simp; omega) _
  have hch : Chg i c (pnt c W.heap.size 0) W Wb := Chg.of_below hbel 0
  have hI : DiskIs i (pnt c W.heap.size 0) Wb g D m xs := h.chg (Chg.of_below (i := i + 1) hbel 0) (by omega) (by omega)
  have hsz : Wb.heap.size = W.heap.size + 3 := by rw [hWb]; simp
  have hd : Wb.cell? ⟨W.heap.size, 0, none⟩ = some (.pointer (some ⟨g, 0, none⟩)) := by rw [hWb]; exact Lib.cell?_alloc_some _ (by simp)
  have hn : Wb.cell? ⟨W.heap.size + 1, 0, none⟩ = some (.string s) := by rw [hWb]; exact Lib.cell?_alloc_some _ (by simp)
  have ht' : Wb.cell? ⟨W.heap.size + 2, 0, none⟩ = some (.int .i64 k) := by
    have e := heap_alloc_new ((W.alloc (.cells #[.pointer (some ⟨g, 0, none⟩)] 26)).alloc (.cells #[.string s] 9)) (.cells #[.int .i64 k] 3)
    rw [← hWb] at e
    have e2 : ((W.alloc (.cells #[.pointer (some ⟨g, 0, none⟩)] 26)).alloc (.cells #[.string s] 9)).heap.size = W.heap.size + 2 := by simp
    rw [e2] at e
    rw [cell_of_row _ _ _ _ _ _ e]
    rfl
  have main : Calls Tryz.prog 32 #[.pointer (some ⟨g, 0, none⟩), .func (.func 95) #[] #[.pointer (some ⟨W.heap.size, 0, none⟩), .pointer (some ⟨W.heap.size + 1, 0, none⟩), .pointer (some ⟨W.heap.size + 2, 0, none⟩)], .func (.func 96) #[] #[.pointer (some ⟨W.heap.size, 0, none⟩), .pointer (some ⟨W.heap.size + 1, 0, none⟩), .pointer (some ⟨W.heap.size + 2, 0, none⟩)]] Wb (DkPost i c W g (D.truncate s.data.toList k)) := by
    refine dk_modify Wb g D.bud D.down (.map (some m)) hI.row hbud _ _ _ _ dk_entT1 dk_entT2 _ (fun hdn => ?_) (fun hdn => ?_)
    · unfold Dk.D.truncate
      rw [if_pos hdn]
      exact ⟨_, rfl, ⟨m, xs, hI⟩, hch⟩
    · refine (dk_trunc1 hI s hs k _ _ _ hn hd ht').mono ?_
      rintro e W1 ⟨rfl, hb1⟩
      have hI1 := hI.chg (Chg.of_below (i := i + 1) hb1 0) (by omega) (by omega)
      have hch1 := hch.trans (Chg.of_below (i := i) hb1 0)
      cases hf : Dk.find s.data.toList D.fs with
      | none =>
        have hr9 : Dk.truncCheck D s.data.toList k = 9 := by unfold Dk.truncCheck; rw [hf]
        refine ⟨_, rfl, hb1.block g (by omega), dk_modPost hI1 hch1 _ _ _ [] _ (fun hr => ?_) (fun hr => ?_) (fun hr W2 bud h2 hch2 hk2 hs2 => ?_)⟩
        · unfold Dk.D.truncate
          rw [if_neg (by simp [hdn]), if_pos hr]
        · rw [hr9] at hr; cases hr
        · rw [hr9] at hr; cases hr
      | some f =>
        refine ⟨_, rfl, hb1.block g (by omega), dk_modPost hI1 hch1 _ _ _ (Dk.upd s.data.toList ⟨f.contents.take k.toNat, []⟩ D.fs) _ (fun hr => ?_) (fun hr => ?_) (fun hr W2 bud h2 hch2 hk2 hs2 => ?_)⟩
        · unfold Dk.D.truncate
          rw [if_neg (by simp [hdn]), if_pos hr]
        · unfold Dk.D.truncate
          rw [if_neg (by simp [hdn]), if_neg (by simp [hr]), hf]
        · have keep : ∀ b, W.heap.size ≤ b → b < Wb.heap.size → ∀ v, Wb.cell? ⟨b, 0, none⟩ = some v → W2.cell? ⟨b, 0, none⟩ = some v := by
            intro b hb1' hb2' v hv
            have e1 := hb1.cell (p := ⟨b, 0, none⟩) hb2'
            have e2 := World.cell?_of_block (w := W1) (w' := W2) (a := ⟨b, 0, none⟩) (hk2 b (Nat.lt_of_lt_of_le hb2' hb1.size) (by omega))
            exact e2.trans (e1.trans hv)
          have hr' := hr
          unfold Dk.truncCheck at hr'
          rw [hf] at hr'
          have hk0 : ¬ (k < 0 ∨ (f.contents.length : Int) < k) := by
            intro h0
            simp only [] at hr'
            rw [if_pos h0] at hr'
            cases hr'
          have hke : (k.toNat : Int) = k := by omega
          have hkk := keep _ (by omega) (by omega) _ ht'
          rw [← hke] at hkk
          exact dk_trunc2 h2 s hs k.toNat _ _ _ f hf (by omega) (keep _ (by omega) (by omega) _ hn) (keep _ (by omega) (by omega) _ hd) hkk
  rw [hWb] at main
  have HM := Lib.hid main
  clear main h hI hch hbel hd hn hsz hWb ht'
  go_enter Tryz.func56, Tryz.ntmps56
  go_wp2_with fail
  refine HM.out.mono ?_
  intro e W' hp
  have HP := Lib.hid hp
  obtain ⟨c', rfl, _⟩ := hp
  go_wp2_with fail
  go_ret
  exact HP.out

end Go.Proofs.YtcbnbhlgikjbeaaGreatDoor
