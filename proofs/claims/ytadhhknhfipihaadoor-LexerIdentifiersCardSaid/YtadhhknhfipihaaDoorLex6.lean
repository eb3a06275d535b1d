/-
  THE EXAMPLES OF THE CHAPTER: girolaw17.known RETURNS true.
-/
import Derived.Test.YtadhhknhfipihaaDoorLex5
import Derived.Deep.QuietTactic
import Derived.BigQuiet
namespace Go.Proofs.YtadhhknhfipihaaDoor
open Go.RowKit Go.Lib

def lxLine : ByteArray := ⟨#[112, 97, 121, 32, 80, 49, 32, 97, 109, 111, 117, 110, 116, 32, 49, 53, 48, 48, 46, 48, 48, 32, 100, 97, 121, 32, 50, 48, 50, 54, 45, 49, 49, 45, 49, 54, 32, 35, 32, 115, 97, 108, 97, 114, 121]⟩
def lxWant : List Lx.Tok := [(0, ⟨#[112, 97, 121]⟩, 0), (1, ⟨#[80, 49]⟩, 4), (0, ⟨#[97, 109, 111, 117, 110, 116]⟩, 7), (3, ⟨#[49, 53, 48, 48, 46, 48, 48]⟩, 14), (0, ⟨#[100, 97, 121]⟩, 22), (4, ⟨#[50, 48, 50, 54, 45, 49, 49, 45, 49, 54]⟩, 26)]
theorem lx_line : Lx.tokenize lxLine = (lxWant, 0, 0) := by decide +kernel
theorem lx_007 : Lx.classify ⟨#[48, 48, 55]⟩ = (1, 0) := by decide +kernel

theorem lx_tokCells_at (l : List Lx.Tok) : ∀ (k : Nat) (x : Lx.Tok), l[k]? = some x → (Lx.tokCells l)[k * 3]? = some (.int .i64 x.1) ∧ (Lx.tokCells l)[k * 3 + 1]? = some (.string x.2.1) ∧ (Lx.tokCells l)[k * 3 + 2]? = some (.int .i64 x.2.2) := by
  induction l with
  | nil => intro k x h; simp at h
  | cons y l ih =>
    intro k x h
    obtain ⟨a, b, c⟩ := y
    cases k with
    | zero => simp at h; subst h; simp [Lx.tokCells]
    | succ k =>
      have := ih k x (by simpa using h)
      have e : (k + 1) * 3 = k * 3 + 1 + 1 + 1 := by omega
      rw [e]
      simpa [Lx.tokCells] using this

/-- a block holds these tokens from its beginning on -/
def LxHolds (W : World) (b : Nat) (l : List Lx.Tok) : Prop := ∀ (k : Nat) (x : Lx.Tok), l[k]? = some x →
  W.cell? ⟨b, k * 3, none⟩ = some (.int .i64 x.1) ∧ W.cell? ⟨b, k * 3 + 1, none⟩ = some (.string x.2.1) ∧ W.cell? ⟨b, k * 3 + 2, none⟩ = some (.int .i64 x.2.2)
theorem LxHolds.below {W W' : World} {b B : Nat} {l : List Lx.Tok} (h : LxHolds W b l) (hb : Below B W W') (hB : b < B) : LxHolds W' b l := fun k x hx => by
  obtain ⟨h1, h2, h3⟩ := h k x hx
  exact ⟨(hb.cell (p := ⟨b, k * 3, none⟩) hB).trans h1, (hb.cell (p := ⟨b, k * 3 + 1, none⟩) hB).trans h2, (hb.cell (p := ⟨b, k * 3 + 2, none⟩) hB).trans h3⟩

/-- what is known of a slice of tokens that a call has made -/
theorem lx_toks_form {W : World} {B e : Nat} {v : Value} {l : List Lx.Tok} (h : W.ownsRow B e 3 v l.length (Lx.tokCells l)) :
    (v = .slice none 0 0 ∧ l = []) ∨ ∃ g cap, v = .slice (some ⟨g, 0, none⟩) l.length cap ∧ B ≤ g ∧ g < W.heap.size ∧ LxHolds W g l := by
  rcases h.2 with ⟨rfl, h0⟩ | ⟨g, cap, cur, rfl, hB, hh, hn, hcap, hcur, htake⟩
  · exact .inl ⟨rfl, List.eq_nil_of_length_eq_zero h0⟩
  · refine .inr ⟨g, cap, rfl, hB, (Array.getElem?_eq_some_iff.1 hh).1, fun k x hx => ?_⟩
    have hc := h.cells (g := g) rfl
    obtain ⟨h1, h2, h3⟩ := lx_tokCells_at l k x hx
    have add : ∀ j, (⟨g, 0, none⟩ : Addr).add j = ⟨g, j, none⟩ := fun j => by unfold Addr.add; split <;> simp_all
    have := hc _ _ h1
    have e2 := hc _ _ h2
    have e3 := hc _ _ h3
    rw [add] at this e2 e3
    exact ⟨this, e2, e3⟩

set_option maxRecDepth 100000 in
set_option maxHeartbeats 2000000 in
theorem lx_known (w : World) (m : Int) (kb ko kc : Nat) (h : LxEnv m kb ko kc w) :
    Calls Tryd.prog 7 #[] w fun e w' => e = .returned (.bool true) ∧ Below w.heap.size w w' := by
  have h1 := lx_tokenize lxLine w m kb ko kc (by decide) h
  rw [lx_line] at h1
  simp only at h1
  have h2 := fun W hW => lx_classify ⟨#[48, 48, 55]⟩ W m kb ko kc (by decide) hW
  rw [lx_007] at h2
  have H := Lib.hid h
  clear h
  unfold lxLine at h1
  go_enter Tryd.func7, Tryd.ntmps7
  go_wp2_with fail
  refine h1.mono ?_
  rintro e w1 ⟨v, rfl, hown, hb1⟩
  rcases lx_toks_form hown with ⟨_, he⟩ | ⟨g, cap, hv, hB, hg, hc⟩
  · exact absurd he (by decide)
  rw [show lxWant.length = 6 from rfl] at hv
  subst hv
  clear hown h1
  go_wp2_with fail
  go_loopw [5] (fun i wr => ∃ k : Nat, k ≤ 6 ∧ i = .int .i64 k ∧ Below w1.heap.size w1 wr ∧ w1.heap.size < wr.heap.size ∧ LxHolds wr w1.heap.size lxWant) (fun i _ => 6 - (RowKit.intOf i).toNat)
  case atStart =>
    refine ⟨0, by omega, rfl, (Below.refl _ _).alloc (Nat.le_refl _) _, by simp, ?_⟩
    intro k x hx
    match k, hx with
    | 0, hx => simp [lxWant] at hx; subst hx; simp
    | 1, hx => simp [lxWant] at hx; subst hx; simp
    | 2, hx => simp [lxWant] at hx; subst hx; simp
    | 3, hx => simp [lxWant] at hx; subst hx; simp
    | 4, hx => simp [lxWant] at hx; subst hx; simp
    | 5, hx => simp [lxWant] at hx; subst hx; simp
    | k + 6, hx => simp [lxWant] at hx
  case round =>
    obtain ⟨k, hk, rfl, hbel, hsz, hold⟩ := hrel
    by_cases hlt : k < 6
    · obtain ⟨x, hx⟩ : ∃ x, lxWant[k]? = some x := ⟨lxWant[k]'(by simpa [lxWant] using hlt), by simp⟩
      obtain ⟨a1, a2, a3⟩ := (hc.below hbel hg) k x hx
      obtain ⟨b1, b2, b3⟩ := hold k x hx
      have HO := Lib.hid hold
      clear hold hx
      obtain ⟨kk, tt, aa⟩ := x
      simp only at a1 a2 a3 b1 b2 b3
      go_wp2_with fail
      go_quiet (fail)
      go_wp2_with fail
      go_roundw
      case rel => exact ⟨k + 1, by omega, by go_num, below_drewN' hbel nq, by simpa using hsz, HO.out.below (below_drewN' (Below.refl wr.heap.size wr) nq) hsz⟩
      case measure => simp [RowKit.intOf]; omega
    · obtain rfl : k = 6 := by omega
      have hbelw : Below w.heap.size w wr := hb1.trans (hbel.mono hb1.size)
      have h2' := h2 _ (H.out.below hbelw)
      clear h2 hold
      go_wp2_with fail
      refine h2'.mono ?_
      rintro e w3 ⟨rfl, hb3⟩
      go_wp2_with fail
      go_ret
      exact ⟨rfl, hbelw.trans (hb3.mono hbelw.size)⟩

end Go.Proofs.YtadhhknhfipihaaDoor
