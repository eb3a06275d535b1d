/-
  Log.Truncate on a log that holds entries.
-/
import Derived.Test.YtcbnbhlgikjbeaaGreatDoorWlKnow
import Derived.Test.YtcbnbhlgikjbeaaGreatDoorWlOpenG
import Derived.Test.YtcbnbhlgikjbeaaGreatDoorDkRename
import Derived.Deep.DeepCutAuto
import Derived.Deep.QuietTactic
import Derived.BigQuiet
namespace Go.Proofs.YtcbnbhlgikjbeaaGreatDoor
open Go.RowKit

namespace Wl
section
variable {p : Bs} {sz : Nat} {ps : List Bs} {d : Dk.D} {l : L} {a : Nat} {s : Nat × Nat} {os : List (Nat × Nat)} {fo : List (Bs × Dk.Fl)} {f k : Nat} {g : Dk.Fl}
/-- the first segment goes -/
theorem Inv.dropFirst (h : Inv p sz ps d l a (s :: os) fo f k g) (hup : d.down = false) (hb : d.bud = -1) :
    (d.remove (name p s.1)).2 = 0 ∧ (d.remove (name p s.1)).1.down = false ∧ (d.remove (name p s.1)).1.bud = -1 ∧ ∃ fo', Inv p sz ps (d.remove (name p s.1)).1 { l with segs := os ++ [(f, k)] } (a + s.2) os fo' f k g := by
  have hlen := h.len
  have hsegs := h.segs
  have hold := h.old
  cases hold with
  | cons ho hol =>
    rename_i x fo
    have hc := h.chain
    have hmem := h.chain.lt h.pos s (by simp)
    have hfx : d.fs = x :: (fo ++ [(name p f, g)]) := h.fs
    have hall : ∀ y ∈ fo ++ [(name p f, g)], y.1 ≠ name p s.1 := by
      intro y hy e
      rcases List.mem_append.1 hy with hy | hy
      · obtain ⟨u, hu, hou⟩ := hol.mem y hy
        have h1 := hc.2.lt (fun z hz => h.pos z (List.mem_cons_of_mem _ hz)) u hu
        have h2 := h.pos s (by simp)
        have h3 := name_inj (hou.1.symm.trans e)
        have h4 := hc.1
        omega
      · obtain rfl := List.mem_singleton.1 hy
        have h3 := name_inj e
        omega
    have hdel : Dk.del (name p s.1) d.fs = fo ++ [(name p f, g)] := by
      rw [hfx]
      unfold Dk.del
      rw [List.filter_cons, if_neg (by simp [ho.1]), List.filter_eq_self.2]
      intro y hy
      simpa using hall y hy
    have hfind : Dk.find (name p s.1) d.fs = some x.2 := by
      rw [hfx]; unfold Dk.find; simp [ho.1]
    have hrem : d.remove (name p s.1) = d.modify (fo ++ [(name p f, g)]) := by
      unfold Dk.D.remove
      rw [if_neg (by simp [hup]), hfind, hdel]
    rw [hrem]
    rcases modify_cases d (fo ++ [(name p f, g)]) with ⟨q1, q2, q3, q4⟩ | ⟨q1, _⟩
    · exact ⟨q1, q3.trans hup, q4 hb, fo, ⟨h.vp, h.pre, h.size, rfl, q2, hol, hc.2, fun z hz => h.pos z (List.mem_cons_of_mem _ hz), h.next, h.len, h.cont, h.app, h.syn, h.dur⟩⟩
    · rw [hb] at q1; cases q1
theorem Inv.head (h : Inv p sz ps d l a os fo f k g) : ∃ t r, l.segs = t :: r ∧ t.1 = a ∧ t.1 + t.2 ≤ ps.length ∧ (l.segs.length = os.length + 1) := by
  have hc := h.chain
  have hlen := h.len
  rw [h.segs]
  cases os with
  | nil => exact ⟨_, _, rfl, hc.symm, by show f + k ≤ _; omega, by simp⟩
  | cons s r => exact ⟨s, _, rfl, hc.1, by have := hc.ends s (by simp); omega, by simp⟩
end
end Wl

theorem segCells_one : ∀ (l : List (Nat × Nat)), ∀ u ∈ segCells l, u.oneCell' = true
  | [], u, h => by simp [segCells] at h
  | s :: l, u, h => by
    simp only [segCells, List.mem_cons] at h
    rcases h with rfl | rfl | h
    · rfl
    · rfl
    · exact segCells_one l u h
set_option maxHeartbeats 1000000 in
theorem wl_cloneS (w : World) (ad : Addr) (n c : Nat) (l : List (Nat × Nat)) (hn : n = l.length) (hc : ∀ j u, (segCells l)[j]? = some u → w.cell? (ad.add j) = some u) (hl : l.length ≤ 1000000) :
    Calls Tryz.prog 63 #[.slice (some ad) n c] w fun e w' => ∃ v', e = .returned v' ∧ w'.ownsRow w.heap.size 101 2 v' l.length (segCells l) ∧ Below w.heap.size w w' := by
  obtain ⟨i0, hi, hz0, hz1, hz2⟩ := info_parts infoSeg
  have q22 : ∀ (w : World) (a : Option Addr) (n c n' c' : Nat), (binOp .eql 91 (.slice a n c) (.slice none n' c')).run Tryz.prog w = .ok (.bool a.isNone) w := fun w a n c n' c' => Lib.run_eql_slice_nil w _ _ a n c n' c' Tryz.underlying91
  have A := Lib.hid hc
  have HN := Lib.hid hn
  have hnl : n ≤ 1000000 := by omega
  clear hc hn
  have hb0 : Below w.heap.size w (w.alloc (.cells #[] 101)) := (Below.refl _ _).alloc (Nat.le_refl _) _
  have hr0 : (w.alloc (.cells #[] 101)).ownsRow w.heap.size 101 2 (.slice (some ⟨w.heap.size, 0, none⟩) 0 0) 0 [] :=
    ⟨rfl, .inr ⟨w.heap.size, 0, #[], rfl, Nat.le_refl _, heap_alloc_new w _, Nat.le_refl _, Nat.zero_le _, rfl, rfl⟩⟩
  obtain ⟨v1, w1, hr1, ho1, hg1, hat1⟩ := wl_append_at (w := w.alloc (.cells #[] 101)) 91 91 101 i0 (.agg #[.int .i64 0, .int .i64 0]) 2 16 Tryz.underlying91 hi hz0 hz1 hz2 rfl (by decide) w.heap.size _ 0 [] hr0
    (some ad) n c (segCells l) (by rw [HN.out, segCells_length]) (fun a ha j u hj => by cases ha; exact Lib.cell?_alloc_some _ (A.out j u hj)) (fun e => by cases e) (segCells_one l) (by unfold maxLen; omega) (by omega) (by simp)
  go_enter Tryz.func63, Tryz.ntmps63
  go_wp2_with (at_builtin; refine wpList_append_eq rfl _ _ _ rfl _ _ _ _ rfl rfl hr1 ?_)
  go_ret
  exact ⟨v1, rfl, by rw [← HN.out]; simpa using ho1, hb0.grown hg1 (by simp) (by intro k hk; simp [Value.ownBlock] at hk; omega)⟩

/-- the log's row of segments is laid anew -/
theorem LogIs.shift {j : Nat} {c : Nat → Nat} {W w1 : World} {h g : Nat} {L : Wl.L} {sv v2 : Value} {l : List (Nat × Nat)} (H : LogIs j c W h g L sv) (hb : Below W.heap.size W w1) (ho : w1.ownsRow W.heap.size 101 2 v2 l.length (segCells l)) :
    LogIs j (pnt c W.heap.size j) (w1.setCell ⟨h, 3, none⟩ v2) h g { L with segs := l } v2 ∧ Chg j c (pnt c W.heap.size j) W (w1.setCell ⟨h, 3, none⟩ v2) := by
  have hhl := (Array.getElem?_eq_some_iff.1 H.row).1
  have r1 := (hb.block h hhl).trans H.row
  have r2 := dk_setCell w1 h 3 _ _ v2 r1
  have g2 := wl_set w1 h 3 v2
  refine ⟨⟨?_, ?_, by rw [pnt_old hhl]; exact H.colh, fun b hb2 => ⟨pnt_new (ho.lt b hb2).1, by have := (ho.lt b hb2).1; omega⟩⟩, ?_⟩
  · rw [r2]
    simp
  · exact own_zero (own_keep ho (fun b hb2 => g2.block _ (ho.lt _ hb2).2 (fun e => by cases e; have := (ho.lt h hb2).1; omega))) 0 (Nat.zero_le _)
  · refine ⟨g2.os.trans hb.os, g2.tape.trans hb.tape, g2.output.trans hb.output, Nat.le_trans hb.size g2.size, fun b hbl hc => ?_, fun b hbl => pnt_old hbl⟩
    exact (g2.block b (by have := hb.size; omega) (fun e => hc (by cases e; exact H.colh))).trans (hb.block b hbl)

theorem tr_S_step {w w3 : World} {h sg : Nat} {x0 x1 x3 y0 : Value} (H : w.cell? ⟨h, 0, none⟩ = some x0 ∧ w.cell? ⟨h, 1, none⟩ = some x1 ∧ w.cell? ⟨h, 3, none⟩ = some x3 ∧ w.cell? ⟨sg, 0, none⟩ = some y0) (hb : Below w.heap.size w w3) :
    w3.cell? ⟨h, 0, none⟩ = some x0 ∧ w3.cell? ⟨h, 1, none⟩ = some x1 ∧ w3.cell? ⟨h, 3, none⟩ = some x3 ∧ w3.cell? ⟨sg, 0, none⟩ = some y0 := by
  obtain ⟨a0, a1, a3, b0⟩ := H
  exact ⟨(hb.cell (World.block_lt_of_cell? w _ a0)).trans a0, (hb.cell (World.block_lt_of_cell? w _ a1)).trans a1, (hb.cell (World.block_lt_of_cell? w _ a3)).trans a3, (hb.cell (World.block_lt_of_cell? w _ b0)).trans b0⟩
theorem tr_S_chg {i : Nat} {c c' : Nat → Nat} {w w3 : World} {h sg : Nat} {x0 x1 x3 y0 : Value} (H : w.cell? ⟨h, 0, none⟩ = some x0 ∧ w.cell? ⟨h, 1, none⟩ = some x1 ∧ w.cell? ⟨h, 3, none⟩ = some x3 ∧ w.cell? ⟨sg, 0, none⟩ = some y0) (hc : Chg i c c' w w3) (hh : c h ≠ i) (hs : c sg ≠ i) :
    w3.cell? ⟨h, 0, none⟩ = some x0 ∧ w3.cell? ⟨h, 1, none⟩ = some x1 ∧ w3.cell? ⟨h, 3, none⟩ = some x3 ∧ w3.cell? ⟨sg, 0, none⟩ = some y0 :=
  ⟨ap_cell_chg H.1 hc hh, ap_cell_chg H.2.1 hc hh, ap_cell_chg H.2.2.1 hc hh, ap_cell_chg H.2.2.2 hc hs⟩

/-- how many segments a log has in memory -/
def wlLen (w : World) (h : Nat) : Nat := match w.cell? ⟨h, 3, none⟩ with
  | some (.slice _ n _) => n
  | _ => 0

set_option maxRecDepth 100000 in
set_option maxHeartbeats 4000000 in
theorem wl_Truncate {i j : Nat} {c : Nat → Nat} {W : World} {h g : Nat} {D : Dk.D} {L : Wl.L} {p : Wl.Bs} {sz : Nat} {ps : List Wl.Bs} {a : Nat} {os : List (Nat × Nat)} {fo : List (Wl.Bs × Dk.Fl)} {f k : Nat} {gf : Dk.Fl}
    (hd : DiskAt i c W g D) (hl : LogAt j c W h g L) (hij : i ≠ j) (hj0 : j ≠ 0) (hup : D.down = false) (hbud : D.bud = -1) (I : Wl.Inv p sz ps D L a os fo f k gf) (hn : ps.length < 100) (b : Nat) (hb : b ≤ ps.length) :
    Calls Tryz.prog 20 #[.pointer (some ⟨h, 0, none⟩), .int .i64 b] W fun e W' => e = .returned (.int .i64 0) ∧ ∃ c' D' L' a' os' fo', Wl.Inv p sz ps D' L' a' os' fo' f k gf ∧ D'.down = false ∧ D'.bud = -1 ∧ (a ≤ b → a' ≤ b) ∧ DiskAt i c' W' g D' ∧ LogAt j c' W' h g L' ∧ Chg2 i j c c' W W' := by
  obtain ⟨sv, hl⟩ := hl
  obtain ⟨x0, x1, x2, x3, x4, x5⟩ := row_cells6 hl.row
  have hnext : L.next = ps.length := by have := I.next; have := I.len; omega
  have nD : Hid (∀ o, Below W.heap.size W o → Calls Tryz.prog 49 #[.pointer (some ⟨g, 0, none⟩)] o fun e W' => e = .returned (.bool false) ∧ o = W') := Lib.hid (fun o ho => by have := dk_Down (hd.keepW ho); rw [hup] at this; exact this)
  have hpl : p.length ≤ 100 := by
    have := I.vp
    unfold Wl.validP at this
    simp only [Bool.and_eq_true, decide_eq_true_eq] at this
    omega
  have h1 : ¬ (b : Int) < 0 := by omega
  obtain ⟨nx, hnx⟩ : ∃ nx, nx = L.next := ⟨_, rfl⟩
  have h2 : ¬ (nx : Int) < (b : Int) := by omega
  rw [← hnx] at x4
  have HD := Lib.hid hd
  have HL := Lib.hid hl
  have HI := Lib.hid I
  clear hd hl I x1 x2 x3 x5 hnext hnx
  go_enter Tryz.func20, Tryz.ntmps20
  go_wp2_with (go_at_call 49; refine (nD.out _ (Below.refl _ _)).mono ?_; rintro e w1 ⟨rfl, rfl⟩)
  go_loopw [5] (fun v5 wr => ∃ D' L' a' os' fo' c', Hid (Wl.Inv p sz ps D' L' a' os' fo' f k gf) ∧ Hid (D'.down = false ∧ D'.bud = -1 ∧ (a ≤ b → a' ≤ b)) ∧ Hid (DiskAt i c' wr g D') ∧ Hid (LogAt j c' wr h g L') ∧ Hid (Chg2 i j c c' W wr)) (fun _ wr => wlLen wr h)
  case atStart => exact ⟨D, L, a, os, fo, c, HI, Lib.hid ⟨hup, hbud, id⟩, HD, Lib.hid ⟨_, HL.out⟩, Lib.hid (Chg2.refl _ _ _ _)⟩
  case round =>
    obtain ⟨D2, L2, a2, os2, fo2, c2, HI2, HU2, HD2, HL2, HC2⟩ := hrel
    obtain ⟨t, r, hsegs, ht1, ht2, hln⟩ := HI2.out.head
    obtain ⟨sv2, hl2⟩ := HL2.out
    have hne : L2.segs ≠ [] := by rw [hsegs]; simp
    obtain ⟨sg, cap, cur, rfl, hrow, hcn, hcap, -⟩ := hl2.form hne
    obtain ⟨m, hm⟩ : ∃ m, m = L2.segs.length := ⟨_, rfl⟩
    have ⟨y0, y1⟩ := LogIs.seg_at (k := 0) (s := t) hl2 (by rw [hsegs]; rfl)
    rw [Nat.zero_mul] at y0 y1
    rw [Nat.zero_add] at y1
    rw [← hm] at hl2 hcn
    obtain ⟨x0, x1, -, x3, -, -⟩ := row_cells6 hl2.row
    have hm0 : 0 < m := by omega
    have HW : Hid (IntKind.i64.wrap ((t.1 : Int) + (t.2 : Int)) = (t.1 : Int) + (t.2 : Int) ∧ wrap64 ((t.1 : Int) + (t.2 : Int)) = (t.1 : Int) + (t.2 : Int)) := Lib.hid (by
      have h1 := op_wrap t.1 t.2 (by omega)
      have hcast : ((t.1 + t.2 : Nat) : Int) = (t.1 : Int) + (t.2 : Int) := Int.natCast_add _ _
      rw [hcast] at h1
      exact h1)
    have HLL := Lib.hid hl2
    have HSEG := Lib.hid hsegs
    have HM := Lib.hid hm
    have HT1 := Lib.hid ht1
    have hm2 : m ≤ 1000 := by have := HI2.out.chain.len HI2.out.pos; have := HI2.out.len; omega
    have HLN := Lib.hid hln
    clear hl2 hsegs hm ht1 hln hrow hne
    by_cases hm1 : 1 < m
    · by_cases hle : t.1 + t.2 ≤ b
      · have q1 : (1 : Int) < (m : Int) := by omega
        have q2 : (t.1 : Int) + (t.2 : Int) ≤ (b : Int) := by omega
        --@1
        have t1b : t.1 < 100 := by have := HI2.out.len; omega
        obtain ⟨hw1, hw2⟩ := HW.out
        go_upto_region 7 with fail
        go_quiet (fail)
        have bm : Below wr.heap.size wr (wr.drewN nq) := dk_below_drewN (Below.refl _ _) nq
        have hszm : (wr.drewN nq).heap.size = wr.heap.size := rfl
        generalize wr.drewN nq = wm at *
        have HDm := Lib.hid (HD2.out.keepW bm)
        have HLm := Lib.hid (HLL.out.below bm)
        clear hw1 hw2 x0 x1 x3 y0 y1 q1 q2
        obtain ⟨x0, x1, -, x3, -, -⟩ := row_cells6 HLm.out.row
        have hlm := HLm.out
        rw [HM.out] at hlm
        have yy := hlm.seg_at (k := 0) (s := t) (by rw [HSEG.out]; rfl)
        rw [Nat.zero_mul] at yy
        obtain ⟨y0, y1⟩ := yy
        clear hlm
        have hcs := (HLm.out.cols sg rfl).1
        have hch := HLm.out.colh
        have nN : Hid (∀ o, Calls Tryz.prog 58 #[.string ⟨L2.pre.toArray⟩, .int .i64 t.1] o fun e W' => e = .returned (.string ⟨(Wl.name L2.pre t.1).toArray⟩) ∧ Below o.heap.size o W') :=
          Lib.hid (fun o => wl_name o ⟨L2.pre.toArray⟩ t.1 t1b (by show L2.pre.toArray.size ≤ 1000; rw [HI2.out.pre]; simp; omega))
        have hns : (⟨(Wl.name L2.pre t.1).toArray⟩ : ByteArray).size ≤ 9223372036854775807 := by
          have := Wl.name_length (p := L2.pre) (n := t.1) (by omega)
          have hpe := HI2.out.pre
          rw [hpe] at this ⊢
          show (Wl.name p t.1).toArray.size ≤ _
          simp; omega
        obtain ⟨os3, hos⟩ : ∃ os3, os2 = t :: os3 ∧ r = os3 ++ [(f, k)] := by
          have h1 := HI2.out.segs
          rw [HSEG.out] at h1
          cases hos : os2 with
          | nil =>
            exfalso
            rw [hos] at h1
            have h2 := HM.out
            rw [HSEG.out, h1] at h2
            simp at h2
            omega
          | cons s os3 =>
            rw [hos] at h1
            injection h1 with h2 h3
            exact ⟨os3, by rw [h2], h3⟩
        obtain ⟨rfl, hr⟩ := hos
        have hdrop := HI2.out.dropFirst HU2.out.1 HU2.out.2.1
        rw [show Wl.name p t.1 = Wl.name L2.pre t.1 from by rw [HI2.out.pre]] at hdrop
        obtain ⟨hz, hup3, hbud3, fo3, I3⟩ := hdrop
        have nR : Hid (∀ o, Below wm.heap.size wm o → Calls Tryz.prog 55 #[.pointer (some ⟨g, 0, none⟩), .string ⟨(Wl.name L2.pre t.1).toArray⟩] o (DkPost i c2 o g ((D2.remove (Wl.name L2.pre t.1)).1, 0))) := Lib.hid (fun o ho => by
          have := dk_Remove (HDm.out.keepW ho) ⟨(Wl.name L2.pre t.1).toArray⟩ hns (by rw [HU2.out.2.1]; decide)
          rw [← hz]
          exact this)
        obtain ⟨D3, hD3⟩ : ∃ D3, D3 = (D2.remove (Wl.name L2.pre t.1)).1 := ⟨_, rfl⟩
        rw [← hD3] at nR hup3 hbud3 I3
        obtain ⟨nm, hnm⟩ : ∃ nm, nm = Wl.name L2.pre t.1 := ⟨_, rfl⟩
        rw [← hnm] at nR nN
        have HI3 := Lib.hid I3
        have HU3 := Lib.hid (And.intro hup3 hbud3)
        have HR := Lib.hid hr
        have HSM := Lib.hid hszm
        have HBM := Lib.hid bm
        clear I3 hup3 hbud3 hr hszm bm hz hns hD3 hnm y1 t1b
        --@2
        go_upto_region 8 with fail
        go_region_held3 (fun w' => w'.cell? ⟨h, 0, none⟩ = some (.pointer (some ⟨g, 0, none⟩)) ∧ w'.cell? ⟨h, 1, none⟩ = some (.string ⟨L2.pre.toArray⟩) ∧ w'.cell? ⟨h, 3, none⟩ = some (.slice (some ⟨sg, 0, none⟩) m cap) ∧ w'.cell? ⟨sg, 0, none⟩ = some (.int .i64 t.1))
          (first | assumption | (refine ⟨?_, ?_, ?_, ?_⟩ <;> first | assumption | go_keep) | go_keep)
          (first
            | (go_at_call 58; refine (nN.out _).mono ?_; rintro e w5 ⟨rfl, hb5⟩; have hB5 : Below wm.heap.size wm w5 := (Below.drew (Below.refl _ _)).trans hb5; have hS5 := tr_S_step (by assumption) hb5)
            | (go_at_call 55; refine (nR.out _ hB5).mono ?_; rintro e w6 ⟨c6, rfl, hd6, hc6⟩; have hS6 := tr_S_chg hS5 hc6 (by rw [hch]; exact Ne.symm hij) (by rw [hcs]; exact Ne.symm hij)))
        --@3
        have HL6 : Hid (LogIs j c6 w6 h g L2 (.slice (some ⟨sg, 0, none⟩) m cap)) := Lib.hid ((HLm.out.below hB5).keep hc6.size (fun k hk hc => ⟨hc6.block k hk (by rw [hc]; exact Ne.symm hij), by rw [hc6.col k hk]; exact hc⟩))
        have HC6 : Hid (Chg2 i j c c6 W w6) := Lib.hid (HC2.out.trans ((chg_same (i := i) HBM.out).left2.trans ((chg_same hB5).left2.trans hc6.left2)))
        have HD6 := Lib.hid hd6
        clear hS5 hS6 hB5 hb5 hc6 hd6 x0 x1 x3 y0 hcs hch nN nR
        obtain ⟨x0, x1, -, x3, -, -⟩ := row_cells6 HL6.out.row
        have q3 : (1 : Int) ≤ (m : Int) := by omega
        have q4 : (m : Int) ≤ (cap : Int) := by omega
        --@4
        go_upto_region 9 with fail
        have hrl : m - 1 = r.length := by have h1 := HM.out; rw [HSEG.out, List.length_cons] at h1; omega
        have hcl : ∀ j u, (segCells r)[j]? = some u → w6.cell? ((⟨sg, 2, none⟩ : Addr).add j) = some u := fun j u hu => by
          obtain ⟨sg', cap', cur', e, hrow', -, -, -, htake⟩ := HL6.out.form (by rw [HSEG.out]; simp)
          cases e
          have h2 : (segCells L2.segs)[j + 2]? = some u := by rw [HSEG.out]; exact hu
          have h3 : j + 2 < L2.segs.length * 2 := by
            have h4 := (List.getElem?_eq_some_iff.1 h2).1
            rw [segCells_length] at h4
            exact h4
          rw [← htake, List.getElem?_take_of_lt h3] at h2
          rw [dk_add, cell_of_row _ _ _ _ _ _ hrow', Nat.add_comm 2 j]
          simpa using h2
        have n9 := wl_cloneS w6 ⟨sg, 2, none⟩ (m - 1) (cap - 1) r hrl hcl (by omega)
        clear hcl hrl
        go_wp2_with fail
        refine n9.mono ?_
        rintro e w8 ⟨v8, rfl, o8, b8⟩
        obtain ⟨hl9, hc9⟩ := HL6.out.shift b8 o8
        obtain ⟨a8, k8, rfl⟩ := own_slice o8
        have r8 := (b8.block h (Array.getElem?_eq_some_iff.1 HL6.out.row).1).trans HL6.out.row
        have z8 : w8.frozen? ⟨h, 3, none⟩ = false := dk_frozen _ _ _ _ _ r8
        have y8 := (row_cells6 r8).2.2.2.1
        have HL9 := Lib.hid hl9
        have HC9 := Lib.hid hc9
        clear n9 o8 hl9 hc9 r8 x0 x1 x3
        --@5
        go_wp2_with fail
        have hm9 : wlLen (w8.setCell ⟨h, 3, none⟩ (.slice a8 r.length k8)) h = r.length := by
          unfold wlLen
          rw [(row_cells6 HL9.out.row).2.2.2.1]
        have hm0 : wlLen wr h = m := by
          unfold wlLen
          rw [(row_cells6 HLL.out.row).2.2.2.1]
        refine ⟨⟨D3, { L2 with segs := r }, a2 + t.2, os3, fo3, _, Lib.hid (by have := HI3.out; rw [← HR.out] at this; exact this), Lib.hid ⟨HU3.out.1, HU3.out.2, fun _ => by have := HT1.out; omega⟩, Lib.hid (HD6.out.chg HC9.out (Ne.symm hij) hj0), Lib.hid ⟨_, HL9.out⟩, Lib.hid (HC6.out.trans HC9.out.right2)⟩, ?_⟩
        rw [hm9, hm0]
        have h1 := HM.out
        rw [HSEG.out, List.length_cons] at h1
        omega
      · have q1 : (1 : Int) < (m : Int) := by omega
        have q2 : decide ((t.1 : Int) + (t.2 : Int) ≤ (b : Int)) = false := by simp; omega
        obtain ⟨hw1, hw2⟩ := HW.out
        go_upto_region 7 with fail
        go_quiet (fail)
        have bm : Below wr.heap.size wr (wr.drewN nq) := dk_below_drewN (Below.refl _ _) nq
        generalize wr.drewN nq = wm at *
        go_wp2_with fail
        go_ret
        exact ⟨rfl, c2, D2, L2, a2, os2, fo2, HI2.out, HU2.out.1, HU2.out.2.1, HU2.out.2.2, HD2.out.keepW bm, ⟨_, HLL.out.below bm⟩, HC2.out.trans (chg_same (i := i) bm).left2⟩
    · have q1 : decide ((1 : Int) < (m : Int)) = false := by simp; omega
      go_upto_region 7 with fail
      go_quiet (fail)
      have bm : Below wr.heap.size wr (wr.drewN nq) := dk_below_drewN (Below.refl _ _) nq
      generalize wr.drewN nq = wm at *
      go_wp2_with fail
      go_ret
      exact ⟨rfl, c2, D2, L2, a2, os2, fo2, HI2.out, HU2.out.1, HU2.out.2.1, HU2.out.2.2, HD2.out.keepW bm, ⟨_, HLL.out.below bm⟩, HC2.out.trans (chg_same (i := i) bm).left2⟩

end Go.Proofs.YtcbnbhlgikjbeaaGreatDoor
