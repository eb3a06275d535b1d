/-
  WHAT THE WORLD HOLDS OF PACKAGE-LEVEL VARIABLES FOR THE LEXER, AND Classify.
-/
import Derived.Test.YtadhhknhfipihaaDoorLex3
import Derived.Laws.EntriesVeiled
namespace Go.Proofs.YtadhhknhfipihaaDoor
open Go.RowKit Go.Lib

/-- MaxLen of bytealg, and the table of kinds. -/
structure LxEnv (m : Int) (kb ko kc : Nat) (W : World) : Prop where
  maxlen : W.cell? ⟨2, 0, none⟩ = some (.int .i64 m)
  kinds : W.cell? ⟨0, 0, none⟩ = some (.slice (some ⟨kb, ko, none⟩) 5 kc)
  n0 : W.cell? ⟨kb, ko + 0, none⟩ = some (.int .i64 4)
  f0 : W.cell? ⟨kb, ko + 1, none⟩ = some (.func (.func 108) #[] #[])
  n1 : W.cell? ⟨kb, ko + 2, none⟩ = some (.int .i64 2)
  f1 : W.cell? ⟨kb, ko + 3, none⟩ = some (.func (.func 109) #[] #[])
  n2 : W.cell? ⟨kb, ko + 4, none⟩ = some (.int .i64 3)
  f2 : W.cell? ⟨kb, ko + 5, none⟩ = some (.func (.func 111) #[] #[])
  n3 : W.cell? ⟨kb, ko + 6, none⟩ = some (.int .i64 1)
  f3 : W.cell? ⟨kb, ko + 7, none⟩ = some (.func (.func 112) #[] #[])
  n4 : W.cell? ⟨kb, ko + 8, none⟩ = some (.int .i64 0)
  f4 : W.cell? ⟨kb, ko + 9, none⟩ = some (.func (.func 115) #[] #[])

theorem lx_lt {W : World} {b o : Nat} {v : Value} (h : W.cell? ⟨b, o, none⟩ = some v) : b < W.heap.size := by
  rcases Nat.lt_or_ge b W.heap.size with h1 | h1
  · exact h1
  · exfalso
    simp only [World.cell?] at h
    rw [Array.getElem?_eq_none h1] at h
    cases h

theorem LxEnv.below {m : Int} {kb ko kc : Nat} {W W' : World} (h : LxEnv m kb ko kc W) (hb : Below W.heap.size W W') : LxEnv m kb ko kc W' := by
  have t : ∀ (p : Addr) (v : Value), W.cell? p = some v → p.spot = none → W'.cell? p = some v := fun p v hc hs => by
    obtain ⟨b, o, sp⟩ := p
    cases hs
    exact (hb.cell (p := ⟨b, o, none⟩) (lx_lt hc)).trans hc
  exact ⟨t _ _ h.maxlen rfl, t _ _ h.kinds rfl, t _ _ h.n0 rfl, t _ _ h.f0 rfl, t _ _ h.n1 rfl, t _ _ h.f1 rfl, t _ _ h.n2 rfl, t _ _ h.f2 rfl, t _ _ h.n3 rfl, t _ _ h.f3 rfl, t _ _ h.n4 rfl, t _ _ h.f4 rfl⟩

/-- The table of kinds at a text. -/
def lxTab (s : ByteArray) : List (Int × Bool) :=
  [(4, Lx.date s), (2, Lx.whole s.data.toList && decide (s.size ≤ 16)), (3, Lx.decimal s.data.toList), (1, Lx.all Lx.named s.data.toList), (0, Lx.all Lx.lower s.data.toList)]

theorem lx_classify_hit (s : ByteArray) (hs : s.size ≤ 32) (k : Nat) (n : Int) (hk : (lxTab s)[k]? = some (n, true)) (hb : ∀ j, j < k → ∃ x, (lxTab s)[j]? = some (x, false)) : Lx.classify s = (n, 0) := by
  have h32 : ¬ 32 < s.size := by omega
  unfold Lx.classify
  rw [if_neg h32]
  match k, hk with
  | 0, hk => simp [lxTab] at hk; simp [hk]
  | 1, hk =>
    obtain ⟨x0, h0⟩ := hb 0 (by omega)
    simp [lxTab] at hk h0; simp [hk, h0]
  | 2, hk =>
    obtain ⟨x0, h0⟩ := hb 0 (by omega)
    obtain ⟨x1, h1⟩ := hb 1 (by omega)
    simp [lxTab] at hk h0 h1
    have h1' : (Lx.whole s.data.toList && decide (s.size ≤ 16)) = false := by
      rw [Bool.and_eq_false_iff]
      by_cases e : Lx.whole s.data.toList = true
      · right; have := h1.2 e; simp; omega
      · left; simpa using e
    simp [hk, h0, h1']
  | 3, hk =>
    obtain ⟨x0, h0⟩ := hb 0 (by omega)
    obtain ⟨x1, h1⟩ := hb 1 (by omega)
    obtain ⟨x2, h2⟩ := hb 2 (by omega)
    simp [lxTab] at hk h0 h1 h2
    have h1' : (Lx.whole s.data.toList && decide (s.size ≤ 16)) = false := by
      rw [Bool.and_eq_false_iff]
      by_cases e : Lx.whole s.data.toList = true
      · right; have := h1.2 e; simp; omega
      · left; simpa using e
    rw [if_neg (by simp [h0]), if_neg (by rw [h1']; simp), if_neg (by simp [h2]), if_pos hk.2, hk.1]
  | 4, hk =>
    obtain ⟨x0, h0⟩ := hb 0 (by omega)
    obtain ⟨x1, h1⟩ := hb 1 (by omega)
    obtain ⟨x2, h2⟩ := hb 2 (by omega)
    obtain ⟨x3, h3⟩ := hb 3 (by omega)
    simp [lxTab] at hk h0 h1 h2 h3
    have h1' : (Lx.whole s.data.toList && decide (s.size ≤ 16)) = false := by
      rw [Bool.and_eq_false_iff]
      by_cases e : Lx.whole s.data.toList = true
      · right; have := h1.2 e; simp; omega
      · left; simpa using e
    rw [if_neg (by simp [h0]), if_neg (by rw [h1']; simp), if_neg (by simp [h2]), if_neg (by simp [h3]), if_pos hk.2, hk.1]
  | k + 5, hk => simp [lxTab] at hk

theorem lx_classify_miss (s : ByteArray) (hs : s.size ≤ 32) (hb : ∀ j, j < 5 → ∃ x, (lxTab s)[j]? = some (x, false)) : Lx.classify s = (0, 30) := by
  have h32 : ¬ 32 < s.size := by omega
  obtain ⟨x0, h0⟩ := hb 0 (by omega)
  obtain ⟨x1, h1⟩ := hb 1 (by omega)
  obtain ⟨x2, h2⟩ := hb 2 (by omega)
  obtain ⟨x3, h3⟩ := hb 3 (by omega)
  obtain ⟨x4, h4⟩ := hb 4 (by omega)
  simp only [lxTab, List.getElem?_cons_zero, List.getElem?_cons_succ, Option.some.injEq, Prod.mk.injEq] at h0 h1 h2 h3 h4
  unfold Lx.classify
  rw [if_neg h32, if_neg (by simp [h0]), if_neg (by rw [h1.2]; simp), if_neg (by simp [h2]), if_neg (by simp [h3]), if_neg (by simp [h4])]

/-- What the table holds at a place, and what the function there does. -/
theorem lx_row (m : Int) (kb ko kc : Nat) (s : ByteArray) (hs : s.size ≤ 32) (k : Nat) (hk : k < 5) : ∃ (num : Int) (g : Nat) (b : Bool), (lxTab s)[k]? = some (num, b) ∧
    (∀ W, LxEnv m kb ko kc W → W.cell? ⟨kb, ko + k * 2, none⟩ = some (.int .i64 num) ∧ W.cell? ⟨kb, ko + k * 2 + 1, none⟩ = some (.func (.func g) #[] #[])) ∧
    (∀ args w, (callFunc g args).run Tryd.prog w = .ok (.enter g args) w) ∧
    ∀ W, LxEnv m kb ko kc W → Calls Tryd.prog g #[.string s] W fun e w' => e = .returned (.bool b) ∧ Below W.heap.size W w' := by
  have hb : s.size ≤ 9223372036854775807 := by omega
  match k, hk with
  | 0, _ => exact ⟨4, _, _, rfl, fun W h => ⟨h.n0, h.f0⟩, enters_of Tryd.func108 (by kernel_rfl) rfl, fun W h => lx_date s W m hs h.maxlen⟩
  | 1, _ => exact ⟨2, _, _, rfl, fun W h => ⟨h.n1, h.f1⟩, enters_of Tryd.func109 (by kernel_rfl) rfl, fun W _ => (lx_number s W hb).mono fun e w' ⟨he, hw⟩ => ⟨he, hw ▸ Below.refl _ _⟩⟩
  | 2, _ => exact ⟨3, _, _, rfl, fun W h => ⟨h.n2, h.f2⟩, enters_of Tryd.func111 (by kernel_rfl) rfl, fun W h => (lx_decimal s W m hs h.maxlen).mono fun e w' ⟨he, n, hw⟩ => ⟨he, hw ▸ below_drewN' (Below.refl _ _) n⟩⟩
  | 3, _ => exact ⟨1, _, _, rfl, fun W h => ⟨h.n3, h.f3⟩, enters_of Tryd.func112 (by kernel_rfl) rfl, fun W _ => (lx_name s W hb).mono fun e w' ⟨he, hw⟩ => ⟨he, hw ▸ Below.refl _ _⟩⟩
  | 4, _ => exact ⟨0, _, _, rfl, fun W h => ⟨h.n4, h.f4⟩, enters_of Tryd.func115 (by kernel_rfl) rfl, fun W _ => (lx_word s W hb).mono fun e w' ⟨he, hw⟩ => ⟨he, hw ▸ Below.refl _ _⟩⟩

theorem lx_ret2 {a b c d : Int} (h : (a, b) = (c, d)) : Ending.returned (.tuple #[.int .i64 a, .int .i64 b]) = .returned (.tuple #[.int .i64 c, .int .i64 d]) := by
  cases h; rfl

set_option maxHeartbeats 1000000 in
theorem lx_classify (s : ByteArray) (w : World) (m : Int) (kb ko kc : Nat) (hs : s.size ≤ 9223372036854775807) (h : LxEnv m kb ko kc w) :
    Calls Tryd.prog 8 #[.string s] w fun e w' => e = .returned (.tuple #[.int .i64 (Lx.classify s).1, .int .i64 (Lx.classify s).2]) ∧ Below w.heap.size w w' := by
  by_cases h32 : 32 < s.size
  · have HC : Hid (Lx.classify s = (0, 5)) := by unfold Lx.classify; rw [if_pos h32]; rfl
    clear h
    go_enter Tryd.func8, Tryd.ntmps8
    go_wp2
    go_ret2
    exact ⟨lx_ret2 HC.out.symm, Below.refl _ _⟩
  · have hk := h.kinds
    have H := Lib.hid h
    clear h
    go_enter Tryd.func8, Tryd.ntmps8
    go_wp2
    go_loopw [11] (fun i wr => ∃ k : Nat, k ≤ 5 ∧ i = .int .i64 k ∧ Below w.heap.size w wr ∧ ∀ j, j < k → ∃ x, (lxTab s)[j]? = some (x, false)) (fun i _ => 5 - (RowKit.intOf i).toNat)
    case atStart => exact ⟨0, by omega, rfl, Below.refl _ _, fun j hj => by omega⟩
    case round =>
      obtain ⟨k, hk5, rfl, hbel, hprev⟩ := hrel
      have HP := Lib.hid hprev
      clear hprev
      have henv := H.out.below hbel
      by_cases hlt : k < 5
      · obtain ⟨num, g, b, htab, hcell, eg, hcall⟩ := lx_row m kb ko kc s (by omega) k hlt
        obtain ⟨c0, c1⟩ := hcell _ henv
        have hkb := lx_lt c0
        have HT := Lib.hid htab
        have HE := Lib.hid henv
        clear htab hcell henv
        have hc := hcall _ (HE.out.below ((Below.refl _ _).alloc (Nat.le_refl _) (.cells #[.int .i64 num, .func (.func g) #[] #[]] 44)))
        clear hcall
        cases b with
        | true =>
          go_wp2_with (go_at_fn g; refine hc.mono ?_; rintro e w2 ⟨rfl, hb2⟩; have c5 := (hb2.cell (p := ⟨wr.heap.size, 0, none⟩) (by simp)))
          go_ret2
          exact ⟨lx_ret2 (lx_classify_hit s (by omega) k num HT.out HP.out).symm, (hbel.alloc hbel.size _).trans (hb2.mono (by have := hbel.size; simp; omega))⟩
        | false =>
          go_wp2_with (go_at_fn g; refine hc.mono ?_; rintro e w2 ⟨rfl, hb2⟩)
          go_roundw
          case rel =>
            refine ⟨k + 1, by omega, by go_num, (hbel.alloc hbel.size _).trans (hb2.mono (by have := hbel.size; simp; omega)), fun j hj => ?_⟩
            by_cases e : j = k
            · subst e; exact ⟨_, HT.out⟩
            · exact HP.out j (by omega)
          case measure => simp [RowKit.intOf]; omega
      · obtain rfl : k = 5 := by omega
        go_wp2
        go_ret2
        exact ⟨lx_ret2 (lx_classify_miss s (by omega) HP.out).symm, hbel⟩

end Go.Proofs.YtadhhknhfipihaaDoor
