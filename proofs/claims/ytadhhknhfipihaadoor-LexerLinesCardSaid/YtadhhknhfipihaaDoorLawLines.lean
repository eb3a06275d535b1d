/-
  THE LAW LexerLines: lexer.Lines agrees with the reference at every text: the walk of the law.
-/
import Derived.Test.YtadhhknhfipihaaDoorRefLines2
namespace Go.Proofs.YtadhhknhfipihaaDoor
open Go.RowKit Go.Lib

theorem lx_strs_form {W : World} {B : Nat} {v : Value} {l : List (List UInt8)} (h : LxStrs W B v l) :
    ∃ ao cap, v = .slice ao l.length cap ∧ l.length ≤ 9223372036854775807 ∧ ∀ k x, l[k]? = some x → ∃ g, ao = some ⟨g, 0, none⟩ ∧ g < W.heap.size ∧ W.cell? ⟨g, k, none⟩ = some (.string ⟨x.toArray⟩) := by
  rcases h.2 with ⟨rfl, h0⟩ | ⟨g, cap, cur, rfl, hB, hh, hn, hcap, hcur, htake⟩
  · obtain rfl : l = [] := List.eq_nil_of_length_eq_zero h0
    exact ⟨none, 0, rfl, by simp, fun k x hx => by simp at hx⟩
  · refine ⟨_, cap, rfl, by unfold maxLen at hcap; omega, fun k x hx => ⟨g, rfl, (Array.getElem?_eq_some_iff.1 hh).1, ?_⟩⟩
    have hc := h.cells (g := g) rfl k (.string ⟨x.toArray⟩) (by rw [List.getElem?_map, hx]; rfl)
    have add : ∀ j, (⟨g, 0, none⟩ : Addr).add j = ⟨g, j, none⟩ := fun j => by unfold Addr.add; split <;> simp_all
    rwa [add] at hc

set_option maxRecDepth 100000 in
set_option maxHeartbeats 2000000 in
theorem law_lines (s : ByteArray) (w : World) (m : Int) (kb ko kc : Nat) (hs : s.size ≤ 9223372036854775807) (h : LxEnv m kb ko kc w) :
    Calls Tryd.prog 3 #[.string s] w fun e w' => e = .returned (.bool true) ∧ Below w.heap.size w w' := by
  have H := Lib.hid h
  clear h
  go_enter Tryd.func3, Tryd.ntmps3
  go_wp2_with fail
  have hx : (s.extract 0 (min (s.size : Int) 1000).toNat).size ≤ 1000 := by rw [ByteArray.size_extract]; omega
  generalize s.extract 0 (min (s.size : Int) 1000).toNat = x at *
  refine (lx_lines x _ m kb ko kc (by omega) H.out).mono ?_
  rintro e w1 ⟨v1, rfl, hs1, hb1⟩
  obtain ⟨a1, c1, rfl, hlen, hc1⟩ := lx_strs_form hs1
  have HC1 := Lib.hid hc1
  clear hs1 hc1
  go_wp2_with fail
  refine (rx_lines x _ (by omega)).mono ?_
  rintro e w2 ⟨v2, rfl, hs2, hb2⟩
  obtain ⟨a2, c2, rfl, _, hc2⟩ := lx_strs_form hs2
  have HC2 := Lib.hid hc2
  clear hs2 hc2
  generalize Lx.lines x = l at *
  have hnb : ((l.length : Int) != (l.length : Int)) = false := by simp
  go_wp2_with fail
  clear hnb hx
  go_loopw [5] (fun i wr => ∃ k : Nat, k ≤ l.length ∧ i = .int .i64 k ∧ Below w2.heap.size w2 wr) (fun i _ => l.length - (RowKit.intOf i).toNat)
  case atStart => exact ⟨0, Nat.zero_le _, rfl, Below.refl _ _⟩
  case round =>
    obtain ⟨k, hk, rfl, hbel⟩ := hrel
    by_cases hlt : k < l.length
    · have hget : l[k]? = some l[k] := List.getElem?_eq_getElem hlt
      obtain ⟨g1, rfl, hg1, e1⟩ := HC1.out k _ hget
      obtain ⟨g2, rfl, hg2, e2⟩ := HC2.out k _ hget
      have d1 := (hbel.cell (p := ⟨g1, k, none⟩) (by have := hb2.size; show g1 < _; omega)).trans ((hb2.cell (p := ⟨g1, k, none⟩) hg1).trans e1)
      have d2 := (hbel.cell (p := ⟨g2, k, none⟩) hg2).trans e2
      clear e1 e2 hget HC1 HC2
      generalize l[k] = y at *
      go_wp2_with fail
      go_quiet (fail)
      go_wp2_with fail
      go_roundw
      case rel => exact ⟨k + 1, by omega, by go_num, below_drewN' hbel nq⟩
      case measure => simp [RowKit.intOf]; omega
    · obtain rfl : k = l.length := by omega
      have hball := hb1.trans ((hb2.trans (hbel.mono hb2.size)).mono hb1.size)
      have hkn := lx_known wr m kb ko kc (H.out.below hball)
      clear HC1 HC2
      go_wp2_with fail
      refine hkn.mono ?_
      rintro e w5 ⟨rfl, hb5⟩
      go_wp2_with fail
      go_ret
      exact ⟨rfl, hball.trans (hb5.mono hball.size)⟩

end Go.Proofs.YtadhhknhfipihaaDoor
