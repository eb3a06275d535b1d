/-
  Restart.
-/
import Derived.Test.YtegahpgnmeobhaaDoorDkSurv3
import Derived.Test.YtegahpgnmeobhaaDoorDkKeys
namespace Go.Proofs.YtegahpgnmeobhaaDoor
open Go.RowKit

theorem dk_survivors (B : Nat) (W : World) (h : Nat) (ch : Dk.Bs) (pv : Value) (l : List Dk.Wr) (vs : List Value) (hc : ChAt B W h ch) (hp : PendIs W B pv l vs) (hw : WrOk W B l vs) (hBW : B ≤ W.heap.size) (hl0 : 0 < l.length) (hl : l.length ≤ 65536)
    (hchl : ch.length ≤ 1125899906842624) (hwi : Dk.Within 16777216 l) :
    Calls Tryd.prog 27 #[pv, .func (.func 28) #[.pointer (some ⟨h, 0, none⟩)] #[]] W (SurvPost B W h (Dk.surv l ch)) := by
  rcases Nat.mod_two_eq_zero_or_one (Dk.hd ch) with h0 | h1
  · exact dk_surv_even B W h ch pv l vs hc hp hw hBW hl0 hl hchl h0
  · exact dk_surv_odd B W h ch pv l vs hc hp hw hBW hl0 hl hchl hwi h1

theorem Dk.oddS_rest_le : ∀ (l : List Dk.Wr) (ch : Dk.Bs), (Dk.oddS l ch).2.length ≤ ch.length
  | [], _ => Nat.le_refl _
  | w :: l, ch => by
    rw [Dk.oddS_cons]
    have := Dk.oddS_rest_le l ch.tail
    rw [List.length_tail] at this
    show (Dk.oddS l ch.tail).2.length ≤ _
    omega
theorem Dk.surv_rest_le (l : List Dk.Wr) (ch : Dk.Bs) : (Dk.surv l ch).2.length ≤ ch.length := by
  unfold Dk.surv
  split
  · show ch.tail.tail.tail.length ≤ _
    simp only [List.length_tail]; omega
  · have := Dk.oddS_rest_le l ch.tail
    rw [List.length_tail] at this
    omega
theorem Dk.oddS_len {N : Nat} : ∀ (l : List Dk.Wr) (ch : Dk.Bs), Dk.Within N l → (Dk.oddS l ch).1.length ≤ l.length * N
  | [], _, _ => by simp [Dk.oddS]
  | w :: l, ch, h => by
    rw [Dk.oddS_cons]
    have h1 := Dk.oddS_len l ch.tail (fun x hx => h x (by simp [hx]))
    have h2 := Dk.keepBits_le (Dk.hd ch) 0 (Dk.pieces w)
    have h3 : (Dk.pieces w).length ≤ w.b.length := Dk.piecesF_le _ _ _
    have h4 := (h w (by simp)).2
    simp only [List.length_append, List.length_cons, Nat.add_mul, Nat.one_mul]
    omega
theorem Dk.surv_len {N : Nat} (l : List Dk.Wr) (ch : Dk.Bs) (h : Dk.Within N l) (hN : 0 < N) : (Dk.surv l ch).1.length ≤ l.length * N + 1 := by
  unfold Dk.surv
  split
  · have h1 : l.length ≤ l.length * N := Nat.le_mul_of_pos_right _ hN
    show (l.take (Dk.hd ch.tail % (l.length + 1)) ++ _).length ≤ _
    rw [List.length_append, List.length_take]
    split
    · split
      · simp only [List.length_cons, List.length_nil]; omega
      · simp only [List.length_nil]; omega
    · simp only [List.length_nil]; omega
  · have := Dk.oddS_len l ch.tail h
    omega

theorem PendIs.sub {W : World} {B B' : Nat} {pv : Value} {l : List Dk.Wr} {vs : List Value} (h : PendIs W B' pv l vs) (hk : ∀ k, pv.ownBlock = some k → k < B) : PendIs W B pv l vs := by
  obtain ⟨ao, cap, hv, hcp, hx⟩ := h
  refine ⟨ao, cap, hv, hcp, fun hp => ?_⟩
  obtain ⟨g, hg, _, hc⟩ := hx hp
  exact ⟨g, hg, hk g (by rw [hv, hg]; rfl), hc⟩
theorem RdB.sub {W W0 : World} {B B0 : Nat} {v : Value} {l : Dk.Bs} (h : RdB W B v l) (h0 : RdB W0 B0 v l) : RdB W B0 v l := by
  rcases h with h | ⟨g, off, cap, hv, hc, _, hgs, hx⟩
  · exact .inl h
  · rcases h0 with h0 | ⟨g', off', cap', hv', _, hg', _⟩
    · exact .inl h0
    · have e := hv.symm.trans hv'
      injection e with e1 _ _
      injection e1 with e2
      injection e2 with e3 _ _
      exact .inr ⟨g, off, cap, hv, hc, by omega, hgs, hx⟩
theorem WrOk.sub {W W0 : World} {B B0 : Nat} {l : List Dk.Wr} {vs : List Value} (h : WrOk W B l vs) (h0 : WrOk W0 B0 l vs) : WrOk W B0 l vs :=
  ⟨h.1, fun k w v h1 h2 => ⟨(h.2 k w v h1 h2).1.sub (h0.2 k w v h1 h2).1, (h.2 k w v h1 h2).2⟩⟩
theorem WrC.within {c : Nat → Nat} {W : World} {l : List Dk.Wr} {vs : List Value} (h : WrC c W l vs) : Dk.Within 16777216 l := by
  intro w hw
  obtain ⟨k, hk, rfl⟩ := List.getElem_of_mem hw
  have := h.2 k l[k] (vs[k]'(by rw [h.1]; exact hk)) (List.getElem?_eq_getElem hk) (List.getElem?_eq_getElem _)
  exact this.2

/-- bytes lie in no file's row -/
theorem RdB.off_row {W W' : World} {B : Nat} {v : Value} {l : Dk.Bs} (h : RdB W B v l) {xg : Nat} {a b : Option Addr} {n1 n2 c1 c2 : Nat} {t : TypeId} {fr : Nat × Nat} (hx : W.heap[xg]? = some (.cells #[.slice a n1 c1, .slice b n2 c2] t fr))
    (hk : ∀ k, k < B → k ≠ xg → W'.heap[k]? = W.heap[k]?) (hs : W.heap.size ≤ W'.heap.size) : RdB W' B v l := by
  rcases h with h | ⟨g, off, cap, hv, hc, hg, hgs, hb⟩
  · exact .inl h
  · by_cases hl : l = []
    · subst hl; exact .inl ⟨rfl, _, _, hv⟩
    · have hne : g ≠ xg := by
        rintro rfl
        obtain ⟨x, r, rfl⟩ : ∃ x r, l = x :: r := by cases l with | nil => exact absurd rfl hl | cons x r => exact ⟨x, r, rfl⟩
        have h0 := hb 0 x rfl
        rw [cell_of_row W _ _ _ _ _ hx] at h0
        match off, h0 with
        | 0, h0 => simp at h0
        | 1, h0 => simp at h0
        | n + 2, h0 => simp at h0
      exact .inr ⟨g, off, cap, hv, hc, hg, by omega, fun j c hj => (World.cell?_of_block (w := W) (w' := W') (a := ⟨g, off + j, none⟩) (hk g hg hne)).trans (hb j c hj)⟩

/-- a file that is laid anew -/
theorem DiskIs.laid {i : Nat} {c : Nat → Nat} {W W' : World} {g : Nat} {D : Dk.D} {m : Nat} {l1 l2 : List Fe} {x0 : Fe} (h : DiskIs i c W g D m (l1 ++ x0 :: l2)) (v' : Value) (cs : Dk.Bs) {B : Nat}
    (hrow : W'.heap[x0.g]? = some (.cells #[v', .slice none 0 0] 43 (0, 0))) (hB : W.heap.size ≤ B) (hown : W'.ownsRow B 5 1 v' cs.length (dkCells cs)) (hg : W.grownBy W' (some x0.g)) (hcs : cs.length ≤ 16777216) :
    DiskIs i (pnt c W.heap.size 0) W' g { D with fs := Dk.upd x0.nm ⟨cs, []⟩ D.fs } m (l1 ++ ⟨x0.nm, x0.g, v', .slice none 0 0, [], ⟨cs, []⟩⟩ :: l2) ∧ Chg i c (pnt c W.heap.size 0) W W' := by
  have hW : ∀ b, b < W.heap.size → b ∉ x0.blks → W'.heap[b]? = W.heap[b]? := fun b hb hn => hg.block b hb (fun e => hn (by cases e; simp [Fe.blks]))
  have hc : ∀ b, b < W.heap.size → pnt c W.heap.size 0 b = c b := fun b hb => pnt_old hb
  refine ⟨h.turn (x0 := x0) (x1 := ⟨x0.nm, x0.g, v', .slice none 0 0, [], ⟨cs, []⟩⟩) rfl rfl hg.size hW hc ⟨hrow, RdC.of_own hown (fun b hb _ => pnt_new (by omega)), World.ownsRow_nil _ _ _ _, WrC.nil, by simpa [Dk.Fl.contents, Dk.contents] using hcs, by simp⟩ (fun b hb => by simp [Value.ownBlock] at hb), h.turn_chg hg.os hg.tape hg.output hg.size hW hc⟩

end Go.Proofs.YtegahpgnmeobhaaDoor
