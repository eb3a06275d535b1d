/-
  file.clone; Clone.
  Clone of a disk.
  Clone of a disk: the walk.
-/
import Derived.Test.YtamencnachmhoaaGreatDoorDkRead
namespace Go.Proofs.YtamencnachmhoaaGreatDoor
open Go.RowKit

theorem dk_own_mono {w : World} {B B' : Nat} {t : TypeId} {sz : Nat} {v : Value} {n : Nat} {xs : List Value} (h : w.ownsRow B t sz v n xs) (hb : B' ≤ B) : w.ownsRow B' t sz v n xs := by
  refine ⟨h.1, ?_⟩
  rcases h.2 with h | ⟨g, cap, cur, hv, hB, r⟩
  · exact .inl h
  · exact .inr ⟨g, cap, cur, hv, Nat.le_trans hb hB, r⟩
theorem dk_own_form {w : World} {B : Nat} {t : TypeId} {sz : Nat} {v : Value} {n : Nat} {xs : List Value} (h : w.ownsRow B t sz v n xs) : ∃ a cap, v = .slice a n cap := by
  rcases h.2 with ⟨rfl, rfl⟩ | ⟨g, cap, cur, hv, _⟩
  · exact ⟨_, _, rfl⟩
  · exact ⟨_, _, hv⟩

/-- what one of the two clones leaves -/
def ClRes (W Wx : World) (t : TypeId) (sz : Nat) (v : Value) (n : Nat) (xs : List Value) (w : World) : Prop :=
  w.ownsRow W.heap.size t sz v n xs ∧ Below W.heap.size W w ∧ ∀ t' sz' v' n' xs', Wx.ownsRow W.heap.size t' sz' v' n' xs' → w.ownsRow W.heap.size t' sz' v' n' xs' ∧ ∀ k, v'.ownBlock = some k → v.ownBlock ≠ some k
theorem ClRes.mk {W Wx w : World} {t : TypeId} {sz : Nat} {v : Value} {n : Nat} {xs : List Value} (hbx : Below W.heap.size W Wx) (hown : w.ownsRow Wx.heap.size t sz v n xs) (hb : Below Wx.heap.size Wx w) : ClRes W Wx t sz v n xs w :=
  ⟨dk_own_mono hown hbx.size, hbx.trans (hb.mono hbx.size), fun t' sz' v' n' xs' h => ⟨h.kept (dk_grown_of_below none hb) (by cases hv : v'.ownBlock <;> simp), fun k hk e => by have := (h.lt k hk).2; have := (hown.lt k e).1; omega⟩⟩

/-- a file row more, over rows of its own -/
def ClFile (W : World) (d : Dk.Bs) (l : List Dk.Wr) (vs : List Value) (e : Ending) (W' : World) : Prop :=
  ∃ fb v1 v2, e = .returned (.pointer (some ⟨fb, 0, none⟩)) ∧ W.heap.size ≤ fb ∧ fb < W'.heap.size ∧ W'.heap[fb]? = some (.cells #[v1, v2] 131 (0, 0)) ∧ W'.ownsRow W.heap.size 5 1 v1 d.length (dkCells d) ∧
    W'.ownsRow W.heap.size 183 2 v2 l.length (wrCells l vs) ∧ (∀ k, v1.ownBlock = some k → v2.ownBlock ≠ some k ∧ k ≠ fb) ∧ (∀ k, v2.ownBlock = some k → k ≠ fb) ∧ Below W.heap.size W W'
theorem ClFile.mk {W w : World} {d : Dk.Bs} {l : List Dk.Wr} {vs : List Value} {v1 v2 : Value} (h1 : w.ownsRow W.heap.size 5 1 v1 d.length (dkCells d)) (h2 : w.ownsRow W.heap.size 183 2 v2 l.length (wrCells l vs))
    (hb : Below W.heap.size W w) (hd : ∀ k, v1.ownBlock = some k → v2.ownBlock ≠ some k) : ClFile W d l vs (.returned (.pointer (some ⟨w.heap.size, 0, none⟩))) (w.alloc (.cells #[v1, v2] 131)) :=
  ⟨w.heap.size, v1, v2, rfl, hb.size, by simp, heap_alloc_new w _, h1.alloc _, h2.alloc _, fun k hk => ⟨hd k hk, fun e => by have := (h1.lt k hk).2; omega⟩, fun k hk e => by have := (h2.lt k hk).2; omega, hb.alloc hb.size _⟩

end Go.Proofs.YtamencnachmhoaaGreatDoor

namespace Go.Proofs.YtamencnachmhoaaGreatDoor
open Go.RowKit

/-- ONE FILE MORE -/
theorem DiskIs.add {i : Nat} {c c' : Nat → Nat} {W W' : World} {g : Nat} {D : Dk.D} {m : Nat} {xs : List Fe} (h : DiskIs i c W g D m xs) (x : Fe) (hno : ∀ y ∈ xs, y.nm ≠ x.nm)
    (hfr : ∀ b ∈ x.blks, W.heap.size ≤ b ∧ b < W'.heap.size ∧ c' b = i) (hxnd : x.blks.Nodup) (hF : FeAt c' W' x)
    (hown : W'.ownsMap Tryz.prog 9 ptrElem m (xs.length + 1) ((DataW.map (xs.map Fe.key)).put (.string x.nm) (.held (some ⟨x.g, 0, none⟩))))
    (hs : W.heap.size ≤ W'.heap.size) (hW : ∀ b, b < W.heap.size → b ≠ m → W'.heap[b]? = W.heap[b]?) (hc : ∀ b, b < W.heap.size → c' b = c b) :
    DiskIs i c' W' g { D with fs := Dk.ins x.nm x.f D.fs } m (Dk.insBy Fe.nm x xs) := by
  have hperm := Dk.insBy_perm Fe.nm x xs
  have hlen : (Dk.insBy Fe.nm x xs).length = xs.length + 1 := by rw [hperm.length_eq]; rfl
  have hfl : ((Dk.insBy Fe.nm x xs).flatMap Fe.blks).Perm (x.blks ++ xs.flatMap Fe.blks) := by
    have := hperm.flatMap_right Fe.blks
    simpa using this
  have hlt : ∀ b, b ∈ g :: m :: xs.flatMap Fe.blks → b < W.heap.size := fun b hb => (h.col b hb).2
  have hndm : m ∉ xs.flatMap Fe.blks := (List.nodup_cons.1 (List.nodup_cons.1 h.nd).2).1
  have hgm : g ≠ m := fun e => (List.nodup_cons.1 h.nd).1 (by simp [e])
  have hread : ∀ b, b < W.heap.size → c b = 0 → W'.heap[b]? = W.heap[b]? ∧ c' b = 0 := fun b hb h0 =>
    ⟨hW b hb (fun e => by have := (h.col m (by simp)).1; exact h.ne (by rw [← this, ← e]; exact h0)), (hc b hb).trans h0⟩
  have hp : (g :: m :: (Dk.insBy Fe.nm x xs).flatMap Fe.blks).Perm (x.blks ++ (g :: m :: xs.flatMap Fe.blks)) := by
    refine ((hfl.cons m).cons g).trans ?_
    have h1 : (m :: (x.blks ++ xs.flatMap Fe.blks)).Perm (x.blks ++ m :: xs.flatMap Fe.blks) := List.perm_middle.symm
    exact (h1.cons g).trans List.perm_middle.symm
  refine ⟨(hW g (hlt g (by simp)) hgm).trans h.row, ?_, ?_, ?_, ?_, ?_, h.ne⟩
  · rw [hlen, ← key_put x xs hno]
    exact hown
  · show Dk.ins x.nm x.f D.fs = _
    rw [h.fs, Dk.insBy_map Fe.nm Prod.fst Fe.ent (fun _ => rfl)]
    rfl
  · intro y hy
    rcases List.mem_cons.1 (hperm.mem_iff.1 hy) with rfl | hy
    · exact hF
    · exact (h.file y hy).keep hs hread (fun b hb => hW b (hlt b (mem_blks hy hb g m)) (fun e => hndm (e ▸ List.mem_flatMap.2 ⟨y, hy, hb⟩)))
  · rw [hp.nodup_iff, List.nodup_append]
    exact ⟨hxnd, h.nd, fun a ha b hb e => by have := (hfr a ha).1; have := hlt b hb; omega⟩
  · intro b hb
    rcases List.mem_append.1 (hp.mem_iff.1 hb) with hb | hb
    · exact ⟨(hfr b hb).2.2, (hfr b hb).2.1⟩
    · have h1 := h.col b hb
      exact ⟨(hc b h1.2).trans h1.1, by omega⟩

/-! ### rising lists -/
theorem bytesBefore_trans {a b c : Dk.Bs} (h : bytesBefore a b = true) (k : bytesBefore b c = true) : bytesBefore a c = true :=
  WideShapes.before_trans (a := .string a) (b := .string b) (c := .string c) h k
theorem eq_of_rising {α : Type} {f : α → Dk.Bs} : ∀ {l₁ l₂ : List α}, l₁.Pairwise (fun p q => bytesBefore (f p) (f q) = true) → l₂.Pairwise (fun p q => bytesBefore (f p) (f q) = true) → (∀ p, p ∈ l₁ ↔ p ∈ l₂) → l₁ = l₂
  | [], [], _, _, _ => rfl
  | [], b :: s, _, _, h => by have := (h b).2 (by simp); simp at this
  | a :: r, [], _, _, h => by have := (h a).1 (by simp); simp at this
  | a :: r, b :: s, h1, h2, h => by
    obtain ⟨a1, a2⟩ := List.pairwise_cons.1 h1
    obtain ⟨b1, b2⟩ := List.pairwise_cons.1 h2
    have hab : a = b := by
      rcases List.mem_cons.1 ((h a).1 (by simp)) with e | ha
      · exact e
      · rcases List.mem_cons.1 ((h b).2 (by simp)) with e | hb
        · exact e.symm
        · have := bytesBefore_trans (a1 b hb) (b1 a ha)
          rw [bytesBefore_irrefl] at this
          cases this
    subst hab
    rw [eq_of_rising a2 b2 (fun p => ⟨fun hp => by
      rcases List.mem_cons.1 ((h p).1 (by simp [hp])) with e | hp'
      · have := a1 p hp
        rw [e, bytesBefore_irrefl] at this
        cases this
      · exact hp', fun hp => by
      rcases List.mem_cons.1 ((h p).2 (by simp [hp])) with e | hp'
      · have := b1 p hp
        rw [e, bytesBefore_irrefl] at this
        cases this
      · exact hp'⟩)]
theorem DiskIs.rising_fs {i : Nat} {c : Nat → Nat} {W : World} {g : Nat} {D : Dk.D} {m : Nat} {xs : List Fe} (h : DiskIs i c W g D m xs) : D.fs.Pairwise (fun p q => bytesBefore p.1 q.1 = true) := by
  rw [h.fs, List.pairwise_map]
  exact h.rising

theorem keyOf_string_inv {key : Value} {kl : Lit} (h : keyOf Tryz.prog 9 key = some kl) : ∃ s : ByteArray, key = .string s ∧ kl = .string s.data.toList ∧ s.size ≤ maxLen := by
  cases key <;> simp [keyOf, mapKey, Tryz.underlying9] at h
  exact ⟨_, rfl, h.2.symm, h.1⟩
theorem ptrElem_inv {v : Value} {y : DataW (Option Addr) × List MemPlace} (h : ptrElem v = some y) : ∃ p, v = .pointer p ∧ y = (.held p, []) := by
  cases v <;> simp [ptrElem] at h
  exact ⟨_, rfl, h.symm⟩

/-- a clone's file, coloured -/
theorem ClFile.feAt {c : Nat → Nat} {W W' : World} {x : Fe} {e : Ending} (hF : FeAt c W x) (h : ClFile W x.f.dur x.f.pend x.vs e W') (j : Nat) :
    ∃ y : Fe, ∃ c' : Nat → Nat, e = .returned (.pointer (some ⟨y.g, 0, none⟩)) ∧ y.nm = x.nm ∧ y.f = x.f ∧ FeAt c' W' y ∧ y.blks.Nodup ∧ (∀ b ∈ y.blks, W.heap.size ≤ b ∧ b < W'.heap.size ∧ c' b = j) ∧ (∀ b, b < W.heap.size → c' b = c b) ∧ Below W.heap.size W W' := by
  obtain ⟨fb, v1, v2, rfl, h1, h2, h3, h4, h5, h6, h7, h8⟩ := h
  obtain ⟨c', hc'⟩ : ∃ c' : Nat → Nat, c' = fun k => if W.heap.size ≤ k then (if k = fb ∨ v2.ownBlock = some k then j else 0) else c k := ⟨_, rfl⟩
  have hold : ∀ b, b < W.heap.size → c' b = c b := fun b hb => by rw [hc']; simp only []; rw [if_neg (by omega)]
  have hread : ∀ b, b < W.heap.size → c b = 0 → W'.heap[b]? = W.heap[b]? ∧ c' b = 0 := fun b hb h0 => ⟨h8.block b hb, (hold b hb).trans h0⟩
  refine ⟨⟨x.nm, fb, v1, v2, x.vs, x.f⟩, c', rfl, rfl, rfl, ⟨h3, ?_, dk_own_mono h5 (Nat.zero_le _), hF.wr.keep h8.size hread, hF.size, hF.many⟩, ?_, ?_, hold, h8⟩
  · refine ⟨RdB.of_own h4, fun _ k hk => ?_⟩
    have := h6 k hk
    rw [hc']
    simp only []
    rw [if_pos (h4.lt k hk).1, if_neg]
    rintro (e | e)
    · exact this.2 e
    · exact this.1 e
  · unfold Fe.blks
    cases hv : v2.ownBlock with
    | none => simp
    | some k =>
      have := h7 k hv
      simp [Ne.symm this]
  · intro b hb
    simp only [Fe.blks, List.mem_cons, Option.mem_toList] at hb
    rcases hb with rfl | hb
    · exact ⟨h1, h2, by rw [hc']; simp [h1]⟩
    · have := h5.lt b hb
      exact ⟨this.1, this.2, by rw [hc']; simp [this.1, hb]⟩

/-- the loop of Clone: the disk that is read, the one that is made, and who is left -/
structure ClLoop (i j : Nat) (W : World) (c : Nat → Nat) (g : Nat) (D : Dk.D) (m : Nat) (xs : List Fe) (r go : Nat) (mo : Nat) (wr : World) (left : Lit → Bool) (cnt : Nat) (c' : Nat → Nat) (ys : List Fe) : Prop where
  src : DiskIs i c' wr g D m xs
  rng : wr.ranges Tryz.prog 9 ptrElem m r xs.length (.map (xs.map Fe.key)) left cnt
  out : DiskIs j c' wr go { D with fs := ys.map Fe.ent } mo ys
  mem : ∀ n f, (n, f) ∈ ys.map Fe.ent ↔ (n, f) ∈ D.fs ∧ left (.string n) = false
  col : ∀ b, b < W.heap.size → c' b = c b
  iter : c' r = i + j + 1
  bel : Below W.heap.size W wr
  new : W.heap.size ≤ r ∧ W.heap.size ≤ go ∧ W.heap.size ≤ mo
  cntle : ys.length + cnt ≤ xs.length
  apart : i ≠ j

theorem ClLoop.turned {i j : Nat} {W : World} {c : Nat → Nat} {g : Nat} {D : Dk.D} {m : Nat} {xs : List Fe} {r go mo : Nat} {wr : World} {left : Lit → Bool} {cnt : Nat} {c' : Nat → Nat} {ys : List Fe} (h : ClLoop i j W c g D m xs r go mo wr left cnt c' ys) {w1 : World} (hg : wr.grownBy w1 (some r)) :
    DiskIs i c' w1 g D m xs ∧ DiskIs j c' w1 go { D with fs := ys.map Fe.ent } mo ys ∧ Below W.heap.size W w1 := by
  have hC : Chg (i + j + 1) c' c' wr w1 := ⟨hg.os, hg.tape, hg.output, hg.size, fun b hb hne => hg.block b hb (fun e => hne (by cases e; exact h.iter)), fun _ _ => rfl⟩
  exact ⟨h.src.chg hC (by have := h.out.ne; omega) (by omega), h.out.chg hC (by have := h.src.ne; omega) (by omega), h.bel.grown hg h.bel.size (fun k hk => by cases hk; exact h.new.1)⟩

/-- the entry that has come is one of the files -/
theorem ClLoop.came {i j : Nat} {W : World} {c : Nat → Nat} {g : Nat} {D : Dk.D} {m : Nat} {xs : List Fe} {r go mo : Nat} {wr : World} {left : Lit → Bool} {cnt : Nat} {c' : Nat → Nat} {ys : List Fe} (h : ClLoop i j W c g D m xs r go mo wr left cnt c' ys)
    {s : ByteArray} {p : Option Addr} {kl : Lit} {y : DataW (Option Addr) × List MemPlace} (hk : keyOf Tryz.prog 9 (.string s) = some kl) (hl : left kl = true) (hp : ptrElem (.pointer p) = some y) (hat : ∀ zd, (DataW.map (xs.map Fe.key)).atKey kl zd = y.1) :
    kl = .string s.data.toList ∧ s.size ≤ maxLen ∧ ∃ l1 x l2, xs = l1 ++ x :: l2 ∧ x.nm = s.data.toList ∧ p = some ⟨x.g, 0, none⟩ ∧ ∀ z ∈ ys, z.nm ≠ x.nm := by
  obtain ⟨s', hs', rfl, hlen⟩ := keyOf_string_inv hk
  cases hs'
  refine ⟨rfl, hlen, ?_⟩
  obtain ⟨p', hp', rfl⟩ := ptrElem_inv hp
  cases hp'
  cases hf : xs.find? (fun x => x.nm == s.data.toList) with
  | none =>
    have := hat .nil
    unfold DataW.atKey at this
    simp only [find_key, hf, Option.map_none] at this
    cases this
  | some x =>
    have := hat .nil
    unfold DataW.atKey at this
    simp only [find_key, hf, Option.map_some, Fe.key] at this
    obtain ⟨l1, l2, rfl⟩ := List.append_of_mem (List.mem_of_find?_eq_some hf)
    have hnm : x.nm = s.data.toList := by simpa using List.find?_some hf
    refine ⟨l1, x, l2, rfl, hnm, by cases this; rfl, fun z hz e => ?_⟩
    have := (h.mem z.nm z.f).1 (List.mem_map.2 ⟨z, hz, rfl⟩)
    rw [e, hnm, hl] at this
    exact absurd this.2 (by simp)

/-- the clone of a file is laid into the new map -/
theorem ClLoop.put {i j : Nat} {W : World} {c : Nat → Nat} {g : Nat} {D : Dk.D} {m : Nat} {l1 l2 : List Fe} {x : Fe} {r go mo : Nat} {wr w1 w2 w3 : World} {left : Lit → Bool} {cnt cnt1 : Nat} {c' c'' : Nat → Nat} {ys : List Fe} (h : ClLoop i j W c g D m (l1 ++ x :: l2) r go mo wr left cnt c' ys)
    (hg : wr.grownBy w1 (some r)) (hlt : cnt1 < cnt) {nm : List UInt8} (hnm : x.nm = nm) (hnew : ∀ z ∈ ys, z.nm ≠ x.nm) (hrg : w1.ranges Tryz.prog 9 ptrElem m r (l1 ++ x :: l2).length (.map ((l1 ++ x :: l2).map Fe.key)) (fun z => left z && !z.sameKey (.string nm)) cnt1)
    {y : Fe} (hyn : y.nm = x.nm) (hyf : y.f = x.f) (hF : FeAt c'' w2 y) (hynd : y.blks.Nodup) (hyb : ∀ b ∈ y.blks, w1.heap.size ≤ b ∧ b < w2.heap.size ∧ c'' b = j) (hcc : ∀ b, b < w1.heap.size → c'' b = c' b) (hb2 : Below w1.heap.size w1 w2)
    (hown : w3.ownsMap Tryz.prog 9 ptrElem mo (ys.length + 1) ((DataW.map (ys.map Fe.key)).put (.string nm) (.held (some ⟨y.g, 0, none⟩)))) (hturn : w2.mapTurned w3 mo) :
    ClLoop i j W c g D m (l1 ++ x :: l2) r go mo w3 (fun z => left z && !z.sameKey (.string nm)) cnt1 c'' (Dk.insBy Fe.nm y ys) := by
  subst hnm
  obtain ⟨hsrc, hout, hbel⟩ := h.turned hg
  have hgt := hturn.grown
  have hsz := hgt.size
  have hs2 := hb2.size
  have hmol := (hout.col mo (by simp)).2
  have hmoj := (hout.col mo (by simp)).1
  have hij : (i + j + 1) ≠ j := by have := h.src.ne; omega
  have hij2 := h.apart
  have hC : Chg j c' c'' w1 w3 := ⟨hgt.os.trans hb2.os, hgt.tape.trans hb2.tape, hgt.output.trans hb2.output, by omega, fun b hb hne => (hgt.block b (by omega) (fun e => hne (by cases e; exact hmoj))).trans (hb2.block b hb), hcc⟩
  have hW : ∀ b, b < w1.heap.size → b ≠ mo → w3.heap[b]? = w1.heap[b]? := fun b hb hne => (hgt.block b (by omega) (fun e => hne (by cases e; rfl))).trans (hb2.block b hb)
  have hyge : ∀ b ∈ y.blks, b ≠ mo := fun b hb e => by have := (hyb b hb).1; omega
  have hF3 : FeAt c'' w3 y := hF.keep hsz (fun b hb h0 => ⟨hgt.block b hb (fun e => by cases e; rw [hcc mo hmol, hmoj] at h0; exact hout.ne h0), h0⟩) (fun b hb => hgt.block b (hyb b hb).2.1 (fun e => hyge b hb (by cases e; rfl)))
  have hadd := hout.add y (by rw [hyn]; exact hnew) (fun b hb => ⟨(hyb b hb).1, by have := (hyb b hb).2.1; omega, (hyb b hb).2.2⟩) hynd hF3 (by rw [hyn]; exact hown) (by omega) hW hcc
  have hperm := Dk.insBy_perm Fe.nm y ys
  have hrm : r ≠ mo := fun e => by
    have h1 := h.iter
    rw [e, hmoj] at h1
    exact hij h1.symm
  have hmm : m ≠ mo := fun e => by
    have h1 := (h.src.col m (by simp)).1
    rw [e, hmoj] at h1
    exact hij2 h1.symm
  refine ⟨hsrc.chg hC (Ne.symm hij2) hout.ne, (hrg.kept (dk_grown_of_below none hb2) (by simp) (by simp)).kept hgt (fun e => hmm (by cases e; rfl)) (fun e => hrm (by cases e; rfl)), ?_, ?_, fun b hb => (hcc b (Nat.lt_of_lt_of_le hb hbel.size)).trans (h.col b hb), (hcc r (by have := h.rng.lt; have := hg.size; omega)).trans h.iter, (hbel.trans (hb2.mono hbel.size)).grown hgt (by have := hbel.size; omega) (fun k hk => by cases hk; exact h.new.2.2), h.new, ?_, ?_⟩
  · have e : (Dk.insBy Fe.nm y ys).map Fe.ent = Dk.ins y.nm y.f (ys.map Fe.ent) := Dk.insBy_map Fe.nm Prod.fst Fe.ent (fun _ => rfl) y ys
    rw [e]
    exact hadd
  · intro n f
    rw [(hperm.map Fe.ent).mem_iff, List.map_cons, List.mem_cons, h.mem n f]
    have hx : (x.nm, x.f) ∈ D.fs := by rw [h.src.fs]; exact List.mem_map.2 ⟨x, by simp, rfl⟩
    constructor
    · rintro (e | ⟨h1, h2⟩)
      · have e1 : n = x.nm := by have := congrArg Prod.fst e; rw [← hyn]; exact this
        have e2 : f = x.f := by have := congrArg Prod.snd e; rw [← hyf]; exact this
        subst e1 e2
        exact ⟨hx, by simp [Lit.sameKey]⟩
      · exact ⟨h1, by simp [h2]⟩
    · rintro ⟨h1, h2⟩
      simp only [Lit.sameKey, Bool.and_eq_false_iff, Bool.not_eq_false', beq_iff_eq] at h2
      rcases h2 with h2 | h2
      · exact .inr ⟨h1, h2⟩
      · refine .inl ?_
        subst h2
        -- one name, one file
        rw [h.src.fs] at h1
        obtain ⟨z, hz, hze⟩ := List.mem_map.1 h1
        have hzn : z.nm = x.nm := congrArg Prod.fst hze
        have hzf : z.f = f := congrArg Prod.snd hze
        have : z = x := by
          have hap := h.src.apart
          rw [List.pairwise_append] at hap
          obtain ⟨_, q2, q3⟩ := hap
          rw [List.pairwise_cons] at q2
          rcases List.mem_append.1 hz with hz | hz
          · exact absurd hzn (q3 z hz x (by simp))
          · rcases List.mem_cons.1 hz with rfl | hz
            · rfl
            · exact absurd hzn.symm (q2.1 z hz)
        subst this
        show (z.nm, f) = (y.nm, y.f)
        rw [hyn, hyf, hzf]
  · rw [hperm.length_eq]
    have := h.cntle
    simp only [List.length_cons]
    omega
  · exact h.apart

end Go.Proofs.YtamencnachmhoaaGreatDoor

namespace Go.Proofs.YtamencnachmhoaaGreatDoor
open Go.RowKit

/-- the world behind the new disk's row -/
def clWorld (W : World) (D : Dk.D) : World := (W.alloc (.map #[] 0)).alloc (.cells #[.map (some W.heap.size), .int .i64 D.bud, .bool D.down] 100)

theorem ClLoop.start {i j : Nat} {W : World} {c : Nat → Nat} {g : Nat} {D : Dk.D} {m : Nat} {xs : List Fe} (h : DiskIs i c W g D m xs) (hj : j ≠ 0) (hij : i ≠ j) {w0 : World} {Wd : World} (hWd : Wd.heap = (clWorld W D).heap) (hos : Wd.os = W.os) (htape : Wd.tape = W.tape) (hout : Wd.output = W.output)
    (hrg : w0.ranges Tryz.prog 9 ptrElem m (W.heap.size + 1 + 1) xs.length (.map (xs.map Fe.key)) (Maps.has (DataW.map (xs.map Fe.key))) (Maps.size (DataW.map (xs.map Fe.key)))) (hg : Wd.grownBy w0 none) (hs : w0.heap.size = W.heap.size + 3) :
    ClLoop i j W c g D m xs (W.heap.size + 1 + 1) (W.heap.size + 1) W.heap.size w0 (Maps.has (DataW.map (xs.map Fe.key))) (Maps.size (DataW.map (xs.map Fe.key)))
      (fun k => if k = W.heap.size + 2 then i + j + 1 else if W.heap.size ≤ k then j else c k) [] := by
  have hsz : Wd.heap.size = W.heap.size + 2 := by rw [hWd]; simp [clWorld]
  have hb0 : Below W.heap.size W Wd := ⟨hos, htape, hout, by omega, fun k hk => by rw [hWd]; unfold clWorld; rw [Below.heap_alloc _ _ _ (by simp; omega), Below.heap_alloc _ _ _ hk]⟩
  have hbel : Below W.heap.size W w0 := hb0.grown hg (by omega) (fun k hk => by cases hk)
  have hcol : ∀ b, b < W.heap.size → (fun k => if k = W.heap.size + 2 then i + j + 1 else if W.heap.size ≤ k then j else c k) b = c b := fun b hb => by
    show (if b = W.heap.size + 2 then i + j + 1 else if W.heap.size ≤ b then j else c b) = c b
    rw [if_neg (by omega), if_neg (by omega)]
  have hrow : w0.heap[W.heap.size + 1]? = some (.cells #[.map (some W.heap.size), .int .i64 D.bud, .bool D.down] 100 (0, 0)) := by
    rw [hg.block _ (by omega) (by simp), hWd]
    have := heap_alloc_new (W.alloc (.map #[] 0)) (.cells #[.map (some W.heap.size), .int .i64 D.bud, .bool D.down] 100)
    simpa [clWorld] using this
  have hmap : w0.ownsMap Tryz.prog 9 ptrElem W.heap.size 0 (.map []) := by
    refine ownsMap_block (World.ownsMap_made W Tryz.prog 9 ptrElem) ?_
    rw [hg.block _ (by omega) (by simp), hWd]
    unfold clWorld
    rw [Below.heap_alloc _ _ _ (by simp)]
  refine ⟨h.chg (j := i + 1) (Chg.of_below' hbel hcol) (by omega) (by omega), hrg, ⟨hrow, hmap, rfl, by simp, by simp, ?_, hj⟩, ?_, hcol, by simp, hbel, ⟨by omega, by omega, Nat.le_refl _⟩, by simp [Maps.size], hij⟩
  · intro b hb
    simp at hb
    rcases hb with rfl | rfl
    · simp; omega
    · simp; omega
  · intro n f
    simp only [List.map_nil, List.not_mem_nil, false_iff, not_and]
    intro hm hl
    rw [h.fs] at hm
    obtain ⟨x, hx, hxe⟩ := List.mem_map.1 hm
    have : Maps.has (DataW.map (xs.map Fe.key)) (.string n) = true := by
      unfold Maps.has
      rw [List.any_eq_true]
      refine ⟨x.key, List.mem_map.2 ⟨x, hx, rfl⟩, ?_⟩
      have hn : x.nm = n := congrArg Prod.fst hxe
      simp [Fe.key, Lit.sameKey, hn]
    rw [this] at hl
    cases hl

/-- at the end the disk that was made has the same files -/
theorem ClLoop.done {i j : Nat} {W : World} {c : Nat → Nat} {g : Nat} {D : Dk.D} {m : Nat} {xs : List Fe} {r go mo : Nat} {wr : World} {left : Lit → Bool} {cnt : Nat} {c' : Nat → Nat} {ys : List Fe} (h : ClLoop i j W c g D m xs r go mo wr left cnt c' ys) (hl : ∀ kl, left kl = false) : DiskAt j c' wr go D := by
  have e : ys.map Fe.ent = D.fs := by
    refine eq_of_rising (f := Prod.fst) ?_ h.src.rising_fs (fun p => ?_)
    · have := h.out.rising_fs
      exact this
    · obtain ⟨n, f⟩ := p
      rw [h.mem n f, hl]
      simp
  have := h.out
  rw [e] at this
  exact ⟨mo, ys, this⟩

end Go.Proofs.YtamencnachmhoaaGreatDoor
