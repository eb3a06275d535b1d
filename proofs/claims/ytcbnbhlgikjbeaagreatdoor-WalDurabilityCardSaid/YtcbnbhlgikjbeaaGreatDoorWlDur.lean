/-
  WalDurability: what the law's loop leaves (a log, its disk and the list of payloads), and what Open finds behind a crash.
-/
import Derived.Test.YtcbnbhlgikjbeaaGreatDoorLawReopen
import Derived.Test.YtcbnbhlgikjbeaaGreatDoorWlSync
import Derived.Test.YtcbnbhlgikjbeaaGreatDoorRfRestPlain
import Derived.Test.YtcbnbhlgikjbeaaGreatDoorDkRestart3
namespace Go.Proofs.YtcbnbhlgikjbeaaGreatDoor
open Go.RowKit

theorem DiskAt.within {i : Nat} {c : Nat → Nat} {W : World} {g : Nat} {D : Dk.D} (h : DiskAt i c W g D) : ∀ x ∈ D.fs, Dk.Within 16777216 x.2.pend := by
  obtain ⟨m, xs, h⟩ := h
  intro x hx
  rw [h.fs] at hx
  obtain ⟨y, hy, rfl⟩ := List.mem_map.1 hx
  exact (h.file y hy).wr.within

namespace Wl
theorem appd_within {d : Bs} {l : List Dk.Wr} (h : Dk.AppD d l) (hp : ∀ w ∈ l, 0 < w.b.length) : Dk.Within (Dk.contents d l).length l := by
  intro w hw
  refine ⟨hp w hw, ?_⟩
  obtain ⟨n, hn, rfl⟩ := List.getElem_of_mem hw
  have h1 := h n l[n] (List.getElem?_eq_getElem hn)
  have h2 := h.next n l[n] (List.getElem?_eq_getElem hn)
  have h3 := (h.pre (n + 1) (by omega)).length_le
  rw [h2, List.length_append] at h3
  omega

variable {p : Bs} {sz : Nat} {ps : List Bs} {d : Dk.D} {l : L} {a : Nat} {os : List (Nat × Nat)} {fo : List (Bs × Dk.Fl)} {f k : Nat} {g : Dk.Fl}
theorem Inv.clen (h : Inv p sz ps d l a os fo f k g) (hps : ∀ q ∈ ps, q.length ≤ 200) (hn : ps.length < 100) : g.contents.length ≤ 100000 := by
  rw [h.cont]
  have := packs_len f (ps.drop f) 200 (fun q hq => hps q (List.mem_of_mem_drop hq))
  rw [List.length_drop] at this
  have h2 : (ps.length - f) * (16 + 200) ≤ 100 * 216 := Nat.mul_le_mul (by omega) (by omega)
  omega
/-- the files behind a restart are good for Open -/
theorem Inv.restartGood (h : Inv p sz ps d l a os fo f k g) (hps : ∀ q ∈ ps, q.length ≤ 200) (hn : ps.length < 100) (hw : ∀ x ∈ d.fs, Dk.Within 16777216 x.2.pend) (ch : Bs) :
    Good p (Dk.restartFs d.fs ch).1 ∧ 0 < (Dk.restartFs d.fs ch).1.length ∧ (Dk.restartFs d.fs ch).1.length ≤ f + 1 := by
  obtain ⟨g', h1, h2, h3, h4⟩ := h.restart ch
  have hlen := h.len
  have hcl := h.clen hps hn
  have hg : g'.contents.length ≤ 1000000 := by
    have h5 := h1
    rw [h.fs, restart_olds h.old] at h5
    have h6 := List.append_cancel_left h5
    rw [Dk.restartFs] at h6
    have hdl : g.dur.length ≤ g.contents.length := by
      have := (h.app.dur g.pend.length (Nat.le_refl _)).length_le
      rw [List.take_length] at this
      exact this
    have hwg : Dk.Within g.contents.length g.pend := appd_within h.app (fun w hw' => (hw (name p f, g) (by rw [h.fs]; simp) w hw').1)
    split at h6
    · have : g = g' := by simpa [Dk.restartFs] using h6
      rw [← this]; omega
    · have e : (⟨Dk.contents g.dur (Dk.surv g.pend ch).1, []⟩ : Dk.Fl) = g' := by simpa [Dk.restartFs] using h6
      rw [← e]
      show (Dk.contents (Dk.contents g.dur (Dk.surv g.pend ch).1) []).length ≤ _
      have := Dk.contents_within g.dur (Dk.surv g.pend ch).1 hdl (Dk.surv_within hwg ch)
      show (Dk.contents g.dur (Dk.surv g.pend ch).1).length ≤ _
      omega
  rw [h1]
  refine ⟨good_of hps hn (by omega) h.old h.chain h.pos hg, by simp, ?_⟩
  have := h.count
  rw [h.fs] at this
  simpa using this

theorem bud_modify {d : Dk.D} {m : Int} (h : d.bud ≤ m) (fs : List (Bs × Dk.Fl)) : (d.modify fs).1.bud ≤ m := by
  unfold Dk.D.modify
  split
  · exact h
  · show (if 0 < d.bud then d.bud - 1 else d.bud) ≤ m
    split <;> omega
theorem bud_settle {d : Dk.D} {m : Int} (h : d.bud ≤ m) (p : Bs) (s : Nat) : (Wl.settle d p s).1.bud ≤ m := by
  unfold Wl.settle
  split
  · exact h
  · unfold Dk.D.sync
    split
    · exact h
    · split
      · exact h
      · exact bud_modify h _
theorem bud_create {d : Dk.D} {m : Int} (h : d.bud ≤ m) (n : Bs) : (d.create n).1.bud ≤ m := by
  unfold Dk.D.create
  split
  · exact h
  · split
    · exact h
    · exact bud_modify h _
theorem bud_write {d : Dk.D} {m : Int} (h : d.bud ≤ m) (n : Bs) (pos : Nat → Int) (b : Bs) : (d.write n pos b).1.bud ≤ m := by
  unfold Dk.D.write
  split
  · exact h
  · split
    · exact h
    · split
      · exact h
      · split
        · exact h
        · exact bud_modify h _
theorem bud_append2 {d : Dk.D} {m : Int} (h : d.bud ≤ m) (l : L) (b : Bs) : (Wl.append2 d l b).1.bud ≤ m := by
  unfold Wl.append2
  simp only []
  split <;> exact bud_write h _ _ _
theorem bud_append {d : Dk.D} {m : Int} (h : d.bud ≤ m) (l : L) (b : Bs) : (Wl.append d l b).1.bud ≤ m := by
  unfold Wl.append
  split
  · exact h
  · split
    · exact h
    · split
      · exact h
      · split
        · simp only []
          split
          · exact bud_settle h _ _
          · split
            · exact bud_create (bud_settle h _ _) _
            · exact bud_append2 (bud_create (bud_settle h _ _) _) _ _
        · exact bud_append2 h _ _
theorem bud_sync {d : Dk.D} {m : Int} (h : d.bud ≤ m) (l : L) : (Wl.sync d l).1.bud ≤ m := by
  unfold Wl.sync
  split
  · exact h
  · simp only []
    split <;> exact bud_settle h _ _
theorem PB.sync {d : Dk.D} {m : Nat} (h : PB d m) (l : L) : PB (Wl.sync d l).1 m := by
  unfold Wl.sync
  split
  · exact h
  · simp only []
    split <;> exact h.settle _ _
end Wl

/-- the log after n entries, and the list of na payloads -/
structure DuSt (W : World) (ps : List Wl.Bs) (sz n na : Nat) (c : Nat → Nat) (w : World) (h g : Nat) (D : Dk.D) (L : Wl.L) (av : Value) (rows : List Value) : Prop where
  K : Kn W w c
  d : DiskAt 1 c w g D
  l : LogAt 3 c w h g L
  bud : D.bud ≤ 60
  inv : ∃ os fo f k g', Wl.Inv kp sz ((cutAll ps).take n) D L 0 os fo f k g'
  row : w.ownsRow 0 38 1 av na rows
  col : ∀ b, av.ownBlock = some b → c b = 5
  vals : rows.length = na ∧ ∀ (j : Nat) (v : Value), rows[j]? = some v → ∃ q, (cutAll ps)[j]? = some q ∧ RdB W W.heap.size v q

section
variable {W : World} {ps : List Wl.Bs} {sz n na : Nat} {c : Nat → Nat} {w w' : World} {h g : Nat} {D : Dk.D} {L : Wl.L} {av : Value} {rows : List Value}
theorem DuSt.keepW (S : DuSt W ps sz n na c w h g D L av rows) (hb : Below w.heap.size w w') : DuSt W ps sz n na c w' h g D L av rows :=
  ⟨⟨S.K.1.trans (hb.mono S.K.1.size), S.K.2⟩, S.d.keepW hb, S.l.below hb, S.bud, S.inv, own_keep S.row (fun b hb2 => hb.block b (S.row.lt b hb2).2), S.col, S.vals⟩

theorem infoBs : (Tryz.prog.info? 38).map (fun i => (i.zero, i.size, i.bytes)) = some (some (.slice none 0 0), 1, 24) := by kernel_rfl

/-- a payload joins the list -/
theorem DuSt.push (S : DuSt W ps sz n na c w h g D L av rows) {v : Value} {q : Wl.Bs} (hq : (cutAll ps)[na]? = some q) (hv : RdB W W.heap.size v q) (hf : v.oneCell' = true) (hna : na ≤ 100) :
    ∃ v1 w1, (Builtin.append_ #[52, 52] 52 #[av, .slice (some ⟨w.heap.size, 0, none⟩) 1 1]).run Tryz.prog (w.alloc (.cells #[v] 38)) = .ok v1 w1 ∧
      DuSt W ps sz n (na + 1) (pnt c w.heap.size 5) w1 h g D L v1 (rows ++ [v]) ∧ ∃ a cp, v1 = .slice a (na + 1) cp := by
  obtain ⟨i0, hi, hz0, hz1, hz2⟩ := info_parts infoBs
  have hrow0 : (w.alloc (.cells #[v] 38)).heap[w.heap.size]? = some (.cells #[v] 38 (0, 0)) := heap_alloc_new w _
  have hb0 : Below w.heap.size w (w.alloc (.cells #[v] 38)) := (Below.refl _ _).alloc (Nat.le_refl _) _
  obtain ⟨v1, w1, hr1, ho1, hg1, hat1⟩ := wl_append_at (w := w.alloc (.cells #[v] 38)) 52 52 38 i0 (.slice none 0 0) 1 24 Tryz.underlying52 hi hz0 hz1 hz2 rfl (by decide) 0 av na rows
    (own_keep S.row (fun b hb2 => hb0.block b (S.row.lt b hb2).2)) (some ⟨w.heap.size, 0, none⟩) 1 1 [v] rfl
    (fun a ha j u hj => by cases ha; rw [dk_add, cell_of_row _ _ _ _ _ _ hrow0]; simpa using hj) (fun e => by cases e) (by simpa using hf) (by unfold maxLen; omega) (by omega) (Nat.zero_le _)
  have hsz1 : w.heap.size < w1.heap.size := by have := hg1.size; simp at this; omega
  have hC : Chg 5 c (pnt c w.heap.size 5) w w1 := by
    refine ⟨hg1.os.trans hb0.os, hg1.tape.trans hb0.tape, hg1.output.trans hb0.output, by omega, fun b hb hc => ?_, fun b hb => pnt_old hb⟩
    exact (hg1.block b (by simp; omega) (fun e => hc (S.col b e.symm))).trans (hb0.block b hb)
  obtain ⟨a1, c1, rfl⟩ := own_slice ho1
  refine ⟨_, w1, hr1, ⟨S.K.chg hC (by decide), S.d.chg hC (by decide) (by decide), S.l.chg hC (by decide), S.bud, S.inv, ho1, fun b hb => ?_, ?_, ?_⟩, a1, c1, rfl⟩
  · rcases hat1 with e | e
    · rw [e] at hb
      rw [pnt_old (S.row.lt b hb).2]
      exact S.col b hb
    · rw [e] at hb
      cases hb
      exact pnt_new (by simp)
  · simp [S.vals.1]
  · intro j u hj
    by_cases hlt : j < rows.length
    · rw [List.getElem?_append_left hlt] at hj
      exact S.vals.2 j u hj
    · have hje : j = rows.length := by have := (List.getElem?_eq_some_iff.1 hj).1; simp at this; omega
      subst hje
      have : v = u := by simpa using hj
      subst this
      rw [S.vals.1]
      exact ⟨q, hq, hv⟩

/-- Append, the payload in the list already -/
theorem DuSt.step (S : DuSt W ps sz n (n + 1) c w h g D L av rows) (hpb : Wl.PB D n) (hup : D.down = false) {q : Wl.Bs} (hq : (cutAll ps)[n]? = some q) (hn : n < 20) (hsz : sz ≤ 1000000000) {bv : Value} (hb : RdB W W.heap.size bv q) :
    Calls Tryz.prog 19 #[.pointer (some ⟨h, 0, none⟩), bv] w fun e W' => ∃ c' D' L', (e = .returned (.tuple #[.int .i64 n, .int .i64 0]) ∧ DuSt W ps sz (n + 1) (n + 1) c' W' h g D' L' av rows ∧ D'.down = false ∧ Wl.PB D' (n + 1)) ∨
      (e = .returned (.tuple #[.int .i64 0, .int .i64 32]) ∧ DuSt W ps sz n (n + 1) c' W' h g D' L' av rows) := by
  obtain ⟨os, fo, f, k, g', I⟩ := S.inv
  have hqs := cutAll_le ps
  have hps : ∀ q ∈ (cutAll ps).take n, q.length ≤ 200 := fun q hq => hqs q (List.mem_of_mem_take hq)
  have hil : n < (cutAll ps).length := (List.getElem?_eq_some_iff.1 hq).1
  have hlen : ((cutAll ps).take n).length = n := by rw [List.length_take]; omega
  have hq2 := hqs q (List.mem_of_getElem? hq)
  have n1 := wl_Append S.d S.l (by decide) (by decide) hup (by have := S.bud; omega) I hps (by omega) hpb (by omega) hsz (RdC.of_kn S.K hb) (by omega)
  have htk : (cutAll ps).take (n + 1) = (cutAll ps).take n ++ [q] := by rw [List.take_add_one, hq]; rfl
  have hnx : L.next = n := by have := I.next; have := I.len; omega
  have hbd : (Wl.append D L q).1.bud ≤ 60 := Wl.bud_append S.bud L q
  refine n1.mono ?_
  rintro e W' ⟨c', rfl, d2, l2, hc2⟩
  have hK := S.K.chg2 hc2 (by decide) (by decide)
  have hrow : W'.ownsRow 0 38 1 av (n + 1) rows := own_keep S.row (fun b hb2 => hc2.block b (S.row.lt b hb2).2 (by rw [S.col b hb2]; decide) (by rw [S.col b hb2]; decide))
  have hcol : ∀ b, av.ownBlock = some b → c' b = 5 := fun b hb2 => (hc2.col b (S.row.lt b hb2).2).trans (S.col b hb2)
  rcases I.append_any hup q hq2 hps (by omega) with ⟨r1, r2, r3, os', fo', f', k', g2, I2⟩ | ⟨r0, r1, r2, os', fo', f', k', g2, I2⟩
  · exact ⟨c', _, _, .inl ⟨by rw [r1, hnx], ⟨hK, d2, l2, hbd, ⟨os', fo', f', k', g2, by rw [htk]; exact I2⟩, hrow, hcol, S.vals⟩, r2, hpb.append _ _⟩⟩
  · exact ⟨c', _, _, .inr ⟨by rw [r1]; rfl, hK, d2, l2, hbd, ⟨os', fo', f', k', g2, I2⟩, hrow, hcol, S.vals⟩⟩

/-- Sync -/
theorem DuSt.sync (S : DuSt W ps sz n na c w h g D L av rows) (hpb : Wl.PB D n) (hup : D.down = false) (hn : n ≤ 20) :
    Calls Tryz.prog 28 #[.pointer (some ⟨h, 0, none⟩)] w fun e W' => ∃ c' D' L' r, e = .returned (.int .i64 r) ∧ DuSt W ps sz n na c' W' h g D' L' av rows ∧ Wl.PB D' n := by
  obtain ⟨os, fo, f, k, g', I⟩ := S.inv
  have hlen : ((cutAll ps).take n).length ≤ 20 := by rw [List.length_take]; omega
  refine (wl_Sync S.d S.l (by decide) (by decide) hup (by have := S.bud; omega) I (by omega)).mono ?_
  rintro e W' ⟨c', rfl, d2, l2, hc2⟩
  have hK := S.K.chg2 hc2 (by decide) (by decide)
  have hrow : W'.ownsRow 0 38 1 av na rows := own_keep S.row (fun b hb2 => hc2.block b (S.row.lt b hb2).2 (by rw [S.col b hb2]; decide) (by rw [S.col b hb2]; decide))
  have hcol : ∀ b, av.ownBlock = some b → c' b = 5 := fun b hb2 => (hc2.col b (S.row.lt b hb2).2).trans (S.col b hb2)
  rcases I.sync hup (by omega) with ⟨r1, r2, r3, g2, I2⟩ | ⟨r0, r1, r2, g2, I2⟩
  · exact ⟨c', _, _, _, rfl, ⟨hK, d2, l2, Wl.bud_sync S.bud L, ⟨os, fo, f, k, g2, I2⟩, hrow, hcol, S.vals⟩, hpb.sync L⟩
  · exact ⟨c', _, _, _, rfl, ⟨hK, d2, l2, Wl.bud_sync S.bud L, ⟨os, fo, f, k, g2, I2⟩, hrow, hcol, S.vals⟩, hpb.sync L⟩
end
end Go.Proofs.YtcbnbhlgikjbeaaGreatDoor
