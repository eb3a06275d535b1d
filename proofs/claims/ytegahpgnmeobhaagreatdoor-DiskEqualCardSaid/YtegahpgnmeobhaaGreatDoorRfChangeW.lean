/-
  THE REFERENCE: change: what a write appends.
-/
import Derived.Test.YtegahpgnmeobhaaGreatDoorRfChange
import Derived.Test.YtegahpgnmeobhaaGreatDoorRfSink
import Derived.Maps.AppendAt
import Derived.Deep.DeepCutAuto
namespace Go.Proofs.YtegahpgnmeobhaaGreatDoor
open Go.RowKit

namespace Dk
def changeW (d : D) (n : Bs) (pos : Nat → Int) (b : Bs) : List (Bs × Fl) × Int × Bool := match find n d.fs with
  | none => (d.fs, 9, false)
  | some f => if pos f.contents.length < 0 ∨ 16777216 - (b.length : Int) < pos f.contents.length then (d.fs, 2, false) else if b = [] then (d.fs, 0, false) else (upd n ⟨f.dur, f.pend ++ [⟨(pos f.contents.length).toNat, b⟩]⟩ d.fs, 0, true)
end Dk

/-- the last statement of a sequence, as one that something follows -/
theorem wp_then_of {P : Program} {s : Code} {Q : Exit → Act → World → Prop} {a : Act} {w : World} (h : ∀ K : Act → World → Prop, (∀ a w, Q .normal a w → K a w) → s.wp P (Exit.then K Q) a w) : s.wp P Q a w := by
  refine Code.wp_mono ?_ (h (Q .normal) (fun _ _ h => h))
  intro e a' w' hq
  cases e <;> exact hq

/-- rf_append, and where the new slice lies -/
theorem rf_append_at {w : World} (t ty e : TypeId) (i : TypeInfo) (z : Value) (size bytes : Nat) (ht : Tryz.prog.underlying t = some (.slice e)) (hi : Tryz.prog.info? e = some i) (hz : i.zero = some z)
    (hsize : i.size = size) (hby : i.bytes = bytes) (hzs : z.cells.size = size) (hsz : 0 < size) (base : Nat) (v : Value) (n : Nat) (xs : List Value) (hown : w.ownsRow base e size v n xs)
    (a2 : Option Addr) (m c : Nat) (news : List Value) (hl : news.length = m * size) (hnews : ∀ ad, a2 = some ad → ∀ j u, news[j]? = some u → w.cell? (ad.add j) = some u) (h0 : a2 = none → m = 0) (h1 : ∀ u ∈ news, u.oneCell' = true)
    (h63 : n + m ≤ maxLen) (hbytes : (n + m) * bytes ≤ 140737488355328) (hbase : base ≤ w.heap.size) :
    ∃ v' w', (Builtin.append_ #[t, t] ty #[v, .slice a2 m c]).run Tryz.prog w = .ok v' w' ∧ w'.ownsRow base e size v' (n + m) (xs ++ news) ∧ w.grownBy w' v.ownBlock ∧ (v'.ownBlock = v.ownBlock ∨ v'.ownBlock = some w.heap.size) := by
  cases a2 with
  | none =>
    obtain rfl := h0 rfl
    obtain rfl : news = [] := List.eq_nil_of_length_eq_zero (by omega)
    refine ⟨v, w, ?_, by simpa using hown, ⟨rfl, rfl, rfl, Nat.le_refl _, fun _ _ _ => rfl⟩, .inl rfl⟩
    rcases hown.2 with ⟨rfl, rfl⟩ | ⟨g, cap, cur, rfl, _, _, hnc, _⟩
    · simp [Builtin.append_, run_underlying ht, sizeOf, typeInfo, hi, Builtin.lenOf, Builtin.firstCells]
    · simp [Builtin.append_, run_underlying ht, sizeOf, typeInfo, hi, Builtin.lenOf, Builtin.firstCells, hnc, storeCells]
  | some ad =>
    obtain ⟨v', w', hr, ho, hg, _, hat⟩ := run_append_own_at (P := Tryz.prog) w base t ty e i z size bytes ht hi hz hsize hby hzs hsz v n xs hown ad m c news hl (hnews ad rfl) h1 h63 hbytes hbase
    exact ⟨v', w', hr, ho, hg, hat⟩

theorem rf_appendW {c : Nat → Nat} {w6 : World} {x : Re} (h : ReAt c w6 x) {wa : Option Addr} {wc : Nat} (hwv : x.wv = .slice wa x.f.pend.length wc) : ∀ wx v1, Below w6.heap.size w6 wx → wx.ownsRow w6.heap.size 88 2 v1 0 [] →
    ∃ v' w', (Builtin.append_ #[35, 35] 35 #[v1, .slice wa x.f.pend.length wc]).run Tryz.prog wx = .ok v' w' ∧ w'.ownsRow w6.heap.size 88 2 v' x.f.pend.length (wrCells x.f.pend x.vs) ∧ Below w6.heap.size w6 w' ∧ wx.grownBy w' v1.ownBlock ∧ (v'.ownBlock = v1.ownBlock ∨ v'.ownBlock = some wx.heap.size) := by
  intro wx v1 hb ho
  obtain ⟨i0, hi, hz0, hz1, hz2⟩ := info_parts rf_infoW
  obtain ⟨⟨ao, cap, hv, hcp, hx⟩, _⟩ := h.pend
  rw [hwv] at hv
  injection hv with e1 _ e3
  subst e1 e3
  have hm := h.many
  obtain ⟨v', w', hr, ho', hg, hat⟩ := rf_append_at 35 35 88 i0 _ 2 32 Tryz.underlying35 hi hz0 hz1 hz2 rfl (by decide) w6.heap.size v1 0 [] ho wa x.f.pend.length wc (wrCells x.f.pend x.vs) (wrCells_length _ _ h.wr.1)
    (fun ad ha j u hj => by
      have hp : 0 < x.f.pend.length := by
        have := (List.getElem?_eq_some_iff.1 hj).1
        rw [wrCells_length _ _ h.wr.1] at this
        omega
      obtain ⟨g, hg, hgl, hc⟩ := hx hp
      rw [hg] at ha
      cases ha
      rw [dk_add, Nat.zero_add]
      exact (hb.cell (p := ⟨g, j, none⟩) hgl).trans (hc j u hj))
    (fun e => by
      rcases Nat.eq_zero_or_pos x.f.pend.length with h0 | hp
      · exact h0
      · obtain ⟨g, hg, _⟩ := hx hp
        rw [e] at hg
        cases hg) h.wr.ok.one (by unfold maxLen; omega) (by omega) hb.size
  rw [Nat.zero_add, List.nil_append] at ho'
  exact ⟨v', w', hr, ho', hb.grown hg hb.size (fun k hk => (ho.lt k hk).1), hg, hat⟩

theorem rf_appendB {w6 : World} {b : Dk.Bs} {ba : Option Addr} {bc : Nat} (h : RdB w6 w6.heap.size (.slice ba b.length bc) b) (hbl : b.length ≤ 1073741824) : ∀ wx v1, Below w6.heap.size w6 wx → wx.ownsRow w6.heap.size 5 1 v1 0 [] →
    ∃ v' w', (Builtin.append_ #[23, 23] 23 #[v1, .slice ba b.length bc]).run Tryz.prog wx = .ok v' w' ∧ w'.ownsRow w6.heap.size 5 1 v' b.length (dkCells b) ∧ Below w6.heap.size w6 w' ∧ wx.grownBy w' v1.ownBlock ∧ (v'.ownBlock = v1.ownBlock ∨ v'.ownBlock = some wx.heap.size) := by
  intro wx v1 hb ho
  obtain ⟨i0, hi, hz0, hz1, hz2⟩ := info_parts dk_infoByte
  obtain ⟨a, cp, hv, hn, hs⟩ := h.source
  injection hv with e1 _ e3
  subst e1 e3
  obtain ⟨v', w', hr, ho', hg, hat⟩ := rf_append_at 23 23 5 i0 (.int .u8 0) 1 1 Tryz.underlying23 hi hz0 hz1 hz2 rfl (by decide) w6.heap.size v1 0 [] ho ba b.length bc (dkCells b) (by simp [dkCells_length]) (fun ad ha => hs wx hb ad ha) hn (dkCells_one b) (by unfold maxLen; omega) (by omega) hb.size
  rw [Nat.zero_add, List.nil_append] at ho'
  exact ⟨v', w', hr, ho', hb.grown hg hb.size (fun k hk => (ho.lt k hk).1), hg, hat⟩

theorem rf_appendL {w wx : World} {l : List Dk.Wr} {vs : List Value} (hvs : vs.length = l.length) (hl : l.length ≤ 65536) (z : Int) (v1 : Value) (g3 : Nat) (v2 : Value) (hb : Below w.heap.size w wx) (ho : wx.ownsRow w.heap.size 88 2 v1 l.length (wrCells l vs))
    (hr : wx.heap[g3]? = some (.cells #[.int .i64 z, v2] 88 (0, 0))) (h1 : v2.oneCell' = true) :
    ∃ v' w', (Builtin.append_ #[35, 35] 35 #[v1, .slice (some ⟨g3, 0, none⟩) 1 1]).run Tryz.prog wx = .ok v' w' ∧ w'.ownsRow w.heap.size 88 2 v' (l.length + 1) (wrCells l vs ++ [.int .i64 z, v2]) ∧ Below w.heap.size w w' ∧ wx.grownBy w' v1.ownBlock := by
  obtain ⟨i0, hi, hz0, hz1, hz2⟩ := info_parts rf_infoW
  obtain ⟨v', w', hr', ho', hg, _⟩ := rf_append_at 35 35 88 i0 _ 2 32 Tryz.underlying35 hi hz0 hz1 hz2 rfl (by decide) w.heap.size v1 l.length _ ho (some ⟨g3, 0, none⟩) 1 1 [.int .i64 z, v2] rfl
    (fun ad ha => by cases ha; exact World.news_of_block hr) (fun e => by cases e) (by intro u hu; simp at hu; rcases hu with rfl | rfl; rfl; exact h1) (by unfold maxLen; omega) (by omega) hb.size
  exact ⟨v', w', hr', ho', hb.grown hg hb.size (fun k hk => (ho.lt k hk).1), hg⟩

theorem rf_chRel {w4s m : Nat} {W3 w6 w9 : World} {v9 v2 x0 x1 x2 : Value} {l : List Dk.Wr} {vs : List Value} {b : Dk.Bs} (h36 : Below W3.heap.size W3 w6) (h34 : W3.heap.size ≤ w4s) (hr : w6.heap[w4s]? = some (.cells #[x0, x1, x2] 37 (0, 0)))
    (hb : Below w6.heap.size w6 w9) (ho : w9.ownsRow w6.heap.size 88 2 v9 (l.length + 1) (wrCells l vs ++ [.int .i64 m, v2])) (h2 : w9.ownsRow w6.heap.size 5 1 v2 b.length (dkCells b)) (hvs : vs.length = l.length) :
    ∃ v9' v2', Hid ((w9.setCell ⟨w4s, 2, none⟩ v9).heap[w4s]? = some (.cells #[x0, x1, v9'] 37 (0, 0))) ∧ Hid ((w9.setCell ⟨w4s, 2, none⟩ v9).ownsRow w6.heap.size 88 2 v9' (l.length + 1) (wrCells (l ++ [⟨m, b⟩]) (vs ++ [v2']))) ∧
      Hid ((w9.setCell ⟨w4s, 2, none⟩ v9).ownsRow w6.heap.size 5 1 v2' b.length (dkCells b)) ∧ Hid (Below W3.heap.size W3 (w9.setCell ⟨w4s, 2, none⟩ v9)) ∧ Hid (w6.heap.size ≤ (w9.setCell ⟨w4s, 2, none⟩ v9).heap.size) := by
  have hw := (Array.getElem?_eq_some_iff.1 hr).1
  have hr9 := (hb.block w4s hw).trans hr
  have hg : w9.grownBy (w9.setCell ⟨w4s, 2, none⟩ v9) (some w4s) := dk_grown_setCell _ _ _ _ _ ⟨rfl, rfl, rfl, Nat.le_refl _, fun _ _ _ => rfl⟩
  have hs := hb.size
  have hgs := hg.size
  have hs3 := h36.size
  refine ⟨v9, v2, Lib.hid (dk_setCell w9 w4s 2 _ _ v9 hr9), Lib.hid ?_, Lib.hid (h2.kept hg (Or.inr (fun e => by have := (h2.lt _ e).1; omega))), Lib.hid ((h36.trans (hb.mono hs3)).grown hg (by omega) (fun j hj => by cases hj; omega)), Lib.hid (by omega)⟩
  rw [wrCells_append l [⟨m, b⟩] vs [v2] hvs]
  exact ho.kept hg (Or.inr (fun e => by have := (ho.lt _ e).1; omega))

end Go.Proofs.YtegahpgnmeobhaaGreatDoor
