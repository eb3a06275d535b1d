/-
  THE REFERENCE's MEMORY: files and writes as the reference keeps them, all of colour 0; append out of a slice that is read.
-/
import Derived.Test.YtamencnachmhoaaGreatDoorDkState2
import Derived.Test.YtamencnachmhoaaGreatDoorRfPlain
namespace Go.Proofs.YtamencnachmhoaaGreatDoor
open Go.RowKit

/-! ### append onto an own row, out of a slice that is read -/
theorem rf_append {w : World} (t ty e : TypeId) (i : TypeInfo) (z : Value) (size bytes : Nat) (ht : Tryz.prog.underlying t = some (.slice e)) (hi : Tryz.prog.info? e = some i) (hz : i.zero = some z)
    (hsize : i.size = size) (hby : i.bytes = bytes) (hzs : z.cells.size = size) (hsz : 0 < size) (base : Nat) (v : Value) (n : Nat) (xs : List Value) (hown : w.ownsRow base e size v n xs)
    (a2 : Option Addr) (m c : Nat) (news : List Value) (hl : news.length = m * size) (hnews : ∀ ad, a2 = some ad → ∀ j u, news[j]? = some u → w.cell? (ad.add j) = some u) (h0 : a2 = none → m = 0) (h1 : ∀ u ∈ news, u.oneCell' = true)
    (h63 : n + m ≤ maxLen) (hbytes : (n + m) * bytes ≤ 140737488355328) (hbase : base ≤ w.heap.size) :
    ∃ v' w', (Builtin.append_ #[t, t] ty #[v, .slice a2 m c]).run Tryz.prog w = .ok v' w' ∧ w'.ownsRow base e size v' (n + m) (xs ++ news) ∧ w.grownBy w' v.ownBlock := by
  cases a2 with
  | none =>
    obtain rfl := h0 rfl
    obtain rfl : news = [] := List.eq_nil_of_length_eq_zero (by omega)
    refine ⟨v, w, ?_, by simpa using hown, ⟨rfl, rfl, rfl, Nat.le_refl _, fun _ _ _ => rfl⟩⟩
    rcases hown.2 with ⟨rfl, rfl⟩ | ⟨g, cap, cur, rfl, _, _, hnc, _⟩
    · simp [Builtin.append_, run_underlying ht, sizeOf, typeInfo, hi, Builtin.lenOf, Builtin.firstCells]
    · simp [Builtin.append_, run_underlying ht, sizeOf, typeInfo, hi, Builtin.lenOf, Builtin.firstCells, hnc, storeCells]
  | some ad =>
    obtain ⟨v', w', hr, ho, hg, _⟩ := run_append_own (P := Tryz.prog) (w := w) base t ty e i z size bytes ht hi hz hsize hby hzs hsz v n xs hown ad m c news hl (hnews ad rfl) h1 h63 hbytes hbase
    exact ⟨v', w', hr, ho, hg⟩

/-- an append whose run is known, at a step of a region that draws its order -/
theorem step_append_eq {P : Program} {w : World} {ops : Array Oper} {o : Oper} {a : Act} {K : Act → World → Prop} {Q : Exit → Act → World → Prop} {E : Prop} (hgd : o.guard = none) (s x : Operand) (t : TypeId)
    (ho : o.op = .call { callee := .builtin .append, args := #[s, x], argTypes := #[t, t] }) (v v2 v' : Value) (w' : World) (hs : a.eval s = v) (hx : a.eval x = v2)
    (hrun : (Builtin.append_ #[t, t] o.type #[v, v2]).run P w = .ok v' w') (h : K (a.put o.dst v') w') :
    if Region.wanted o (yielded ops a.tmps) = true then Oper.wp P o a w K Q else E := by
  have hw : Region.wanted o (yielded ops a.tmps) = true := by simp [Region.wanted, hgd]
  rw [if_pos hw]
  unfold Oper.wp execOp
  simp only [ho, resolve, invoke, builtin, Sem.run_bind, Sem.run_pure, Result.andThen_ok, List.map_toArray, List.map_cons, List.map_nil, hs, hx, hrun]
  exact h

theorem rf_infoF : (Tryz.prog.info? 199).map (fun i => (i.zero, i.size, i.bytes)) = some (some (.agg #[.string ⟨#[]⟩, .slice none 0 0, .slice none 0 0]), 3, 64) := by kernel_rfl
theorem rf_infoW : (Tryz.prog.info? 235).map (fun i => (i.zero, i.size, i.bytes)) = some (some (.agg #[.int .i64 0, .slice none 0 0]), 2, 32) := by kernel_rfl

/-! ### bytes: what is read, appended to an empty own row -/
/-- a slice that is read, as a source of append -/
theorem RdB.source {W : World} {B : Nat} {v : Value} {l : Dk.Bs} (h : RdB W B v l) : ∃ a c, v = .slice a l.length c ∧ (a = none → l.length = 0) ∧ ∀ W', Below B W W' → ∀ ad, a = some ad → ∀ j u, (dkCells l)[j]? = some u → W'.cell? (ad.add j) = some u := by
  rcases h with ⟨rfl, a, c, rfl⟩ | ⟨g, off, cap, rfl, hc, hg, hs, hx⟩
  · exact ⟨a, c, rfl, fun _ => rfl, fun W' _ ad _ j u hj => by simp [dkCells, Lib.byteCells] at hj⟩
  · refine ⟨_, cap, rfl, fun e => (by cases e), fun W' hb ad ha j u hj => ?_⟩
    cases ha
    obtain ⟨c, hc1, rfl⟩ := dkCells_get l j u hj
    rw [dk_add]
    exact (hb.cell (p := ⟨g, off + j, none⟩) hg).trans (hx j c hc1)

/-! ### colours -/
def New0 (c : Nat → Nat) (B : Nat) : Prop := ∀ b, B ≤ b → c b = 0
theorem New0.pnt (c : Nat → Nat) (B : Nat) : New0 (pnt c B 0) B := fun _ hb => pnt_new hb
theorem New0.mono {c : Nat → Nat} {B B' : Nat} (h : New0 c B) (hb : B ≤ B') : New0 c B' := fun b h' => h b (Nat.le_trans hb h')
theorem keep0 {c : Nat → Nat} {W W' : World} (hb : Below W.heap.size W W') : ∀ b, b < W.heap.size → c b = 0 → W'.heap[b]? = W.heap[b]? ∧ c b = 0 := fun b h h0 => ⟨hb.block b h, h0⟩
theorem keepC {j : Nat} {c c' : Nat → Nat} {W W' : World} (hc : Chg j c c' W W') (hj : j ≠ 0) : ∀ b, b < W.heap.size → c b = 0 → W'.heap[b]? = W.heap[b]? ∧ c' b = 0 := fun b h h0 => ⟨hc.block b h (by omega), (hc.col b h).trans h0⟩
theorem RdC.below {c : Nat → Nat} {W W' : World} {v : Value} {l : Dk.Bs} (h : RdC c W v l) (hb : Below W.heap.size W W') : RdC c W' v l := h.keep hb.size (keep0 hb)
theorem RdC.own0 {c : Nat → Nat} {W : World} {B : Nat} {v : Value} {l : Dk.Bs} (h : W.ownsRow B 5 1 v l.length (dkCells l)) (hc : New0 c B) : RdC c W v l := RdC.of_own h (fun b hb _ => hc b hb)

/-- pending writes that are read, of colour 0 -/
def PendC (c : Nat → Nat) (W : World) (pv : Value) (l : List Dk.Wr) (vs : List Value) : Prop := PendIs W W.heap.size pv l vs ∧ (l ≠ [] → ∀ g, pv.ownBlock = some g → c g = 0)
theorem PendC.keep {c c' : Nat → Nat} {W W' : World} {pv : Value} {l : List Dk.Wr} {vs : List Value} (h : PendC c W pv l vs) (hs : W.heap.size ≤ W'.heap.size)
    (hk : ∀ b, b < W.heap.size → c b = 0 → W'.heap[b]? = W.heap[b]? ∧ c' b = 0) : PendC c' W' pv l vs := by
  obtain ⟨⟨ao, cap, hv, hcp, hx⟩, h2⟩ := h
  by_cases hl : l = []
  · subst hl
    exact ⟨⟨ao, cap, hv, hcp, fun hp => by simp at hp⟩, fun hne => absurd rfl hne⟩
  · have hp : 0 < l.length := List.length_pos_iff.2 hl
    obtain ⟨g, rfl, hg, hc⟩ := hx hp
    have hc0 := h2 hl g (by rw [hv]; rfl)
    obtain ⟨e1, e2⟩ := hk g hg hc0
    refine ⟨⟨_, cap, hv, hcp, fun _ => ⟨g, rfl, by omega, fun j u hj => ?_⟩⟩, fun _ k hk' => ?_⟩
    · rw [World.cell?_of_block (w := W) (a := ⟨g, j, none⟩) e1]
      exact hc j u hj
    · rw [hv] at hk'
      simp only [Value.ownBlock, Option.some.injEq] at hk'
      rw [← hk']; exact e2
theorem PendIs.of_ownW {W : World} {t : TypeId} {B : Nat} {pv : Value} {l : List Dk.Wr} {vs : List Value} (h : W.ownsRow B t 2 pv l.length (wrCells l vs)) : PendIs W W.heap.size pv l vs := by
  rcases h.2 with ⟨rfl, h0⟩ | ⟨g, cap, cur, rfl, hB, hh, hn, hcap, hcur, htake⟩
  · exact ⟨none, 0, by rw [h0], by omega, fun hp => by omega⟩
  · refine ⟨_, cap, rfl, hn, fun _ => ⟨g, rfl, (Array.getElem?_eq_some_iff.1 hh).1, fun j u hj => ?_⟩⟩
    have := h.cells (g := g) rfl j u hj
    rwa [dk_add, Nat.zero_add] at this
theorem PendC.own0 {c : Nat → Nat} {W : World} {t : TypeId} {B : Nat} {pv : Value} {l : List Dk.Wr} {vs : List Value} (h : W.ownsRow B t 2 pv l.length (wrCells l vs)) (hc : New0 c B) : PendC c W pv l vs :=
  ⟨PendIs.of_ownW h, fun _ g hg => hc g (h.lt g hg).1⟩
/-- the empty list of writes -/
theorem PendC.nil {c : Nat → Nat} {W : World} : PendC c W (.slice none 0 0) [] [] := ⟨⟨none, 0, rfl, Nat.le_refl _, fun h => by simp at h⟩, fun h => absurd rfl h⟩

/-! ### files -/
structure Re where
  nm : Dk.Bs
  dv : Value
  wv : Value
  vs : List Value
  f : Dk.Fl
def Re.ent (x : Re) : Dk.Bs × Dk.Fl := (x.nm, x.f)
def Re.cells (x : Re) : List Value := [.string ⟨x.nm.toArray⟩, x.dv, x.wv]
def Re.val (x : Re) : Value := .agg #[.string ⟨x.nm.toArray⟩, x.dv, x.wv]
def reCells (xs : List Re) : List Value := xs.flatMap Re.cells
theorem reCells_cons (x : Re) (xs : List Re) : reCells (x :: xs) = .string ⟨x.nm.toArray⟩ :: x.dv :: x.wv :: reCells xs := rfl
theorem reCells_append (xs ys : List Re) : reCells (xs ++ ys) = reCells xs ++ reCells ys := by unfold reCells; rw [List.flatMap_append]
theorem reCells_length : ∀ xs : List Re, (reCells xs).length = xs.length * 3
  | [] => rfl
  | x :: xs => by rw [reCells_cons]; simp only [List.length_cons]; rw [reCells_length xs]; omega
theorem reCells_at : ∀ (xs : List Re) (k : Nat) (x : Re), xs[k]? = some x → (reCells xs)[k * 3]? = some (.string ⟨x.nm.toArray⟩) ∧ (reCells xs)[k * 3 + 1]? = some x.dv ∧ (reCells xs)[k * 3 + 2]? = some x.wv
  | [], k, x, h => by simp at h
  | y :: xs, 0, x, h => by
    simp at h
    subst h
    exact ⟨rfl, rfl, rfl⟩
  | y :: xs, k + 1, x, h => by
    have := reCells_at xs k x (by simpa using h)
    rw [reCells_cons, show (k + 1) * 3 = k * 3 + 3 by omega]
    exact this
theorem reCells_take : ∀ (xs : List Re) (n : Nat), (reCells xs).take (n * 3) = reCells (xs.take n)
  | [], n => by simp [reCells]
  | x :: xs, 0 => by simp [reCells]
  | x :: xs, n + 1 => by
    rw [show (n + 1) * 3 = n * 3 + 3 by omega, List.take_succ_cons, reCells_cons, reCells_cons]
    simp only [List.take_succ_cons]
    rw [reCells_take xs n]
theorem reCells_drop : ∀ (xs : List Re) (n : Nat), (reCells xs).drop (n * 3) = reCells (xs.drop n)
  | [], n => by simp [reCells]
  | x :: xs, 0 => by simp
  | x :: xs, n + 1 => by
    rw [show (n + 1) * 3 = n * 3 + 3 by omega, List.drop_succ_cons, reCells_cons]
    simp only [List.drop_succ_cons]
    rw [reCells_drop xs n]
theorem reCells_set : ∀ (xs : List Re) (k : Nat) (x : Re), k < xs.length → (((reCells xs).set (k * 3) (.string ⟨x.nm.toArray⟩)).set (k * 3 + 1) x.dv).set (k * 3 + 2) x.wv = reCells (xs.set k x)
  | [], k, x, h => by simp at h
  | y :: xs, 0, x, _ => rfl
  | y :: xs, k + 1, x, h => by
    have := reCells_set xs k x (by simpa using h)
    rw [show (k + 1) * 3 = k * 3 + 3 by omega, List.set_cons_succ, reCells_cons, reCells_cons, ← this]
    rfl

structure ReAt (c : Nat → Nat) (W : World) (x : Re) : Prop where
  dur : RdC c W x.dv x.f.dur
  pend : PendC c W x.wv x.f.pend x.vs
  wr : WrC c W x.f.pend x.vs
  size : x.f.contents.length ≤ 16777216
  many : x.f.pend.length ≤ 65536
  nm : x.nm.length ≤ 9223372036854775807
theorem ReAt.keep {c c' : Nat → Nat} {W W' : World} {x : Re} (h : ReAt c W x) (hs : W.heap.size ≤ W'.heap.size)
    (hk : ∀ b, b < W.heap.size → c b = 0 → W'.heap[b]? = W.heap[b]? ∧ c' b = 0) : ReAt c' W' x :=
  ⟨h.dur.keep hs hk, h.pend.keep hs hk, h.wr.keep hs hk, h.size, h.many, h.nm⟩
theorem ReAt.below {c : Nat → Nat} {W W' : World} {x : Re} (h : ReAt c W x) (hb : Below W.heap.size W W') : ReAt c W' x := h.keep hb.size (keep0 hb)
theorem PendC.form {c : Nat → Nat} {W : World} {pv : Value} {l : List Dk.Wr} {vs : List Value} (h : PendC c W pv l vs) : ∃ a cap, pv = .slice a l.length cap ∧ (a = none → l.length = 0) := by
  obtain ⟨⟨ao, cap, hv, _, hx⟩, _⟩ := h
  refine ⟨ao, cap, hv, fun e => ?_⟩
  rcases Nat.eq_zero_or_pos l.length with h0 | hp
  · exact h0
  · obtain ⟨g, hg, _⟩ := hx hp
    rw [e] at hg
    cases hg
theorem ReAt.one {c : Nat → Nat} {W : World} {x : Re} (h : ReAt c W x) : ∀ u ∈ x.cells, u.oneCell' = true := by
  obtain ⟨a, k, hd⟩ := h.dur.1.form
  obtain ⟨a', k', hw, _⟩ := h.pend.form
  intro u hu
  simp only [Re.cells, List.mem_cons, List.not_mem_nil, or_false] at hu
  rcases hu with rfl | rfl | rfl
  · rfl
  · rw [hd]; rfl
  · rw [hw]; rfl

/-- a slice of files -/
def RfAt (c : Nat → Nat) (W : World) (sv : Value) (xs : List Re) : Prop :=
  (∃ ao cap, sv = .slice ao xs.length cap ∧ xs.length ≤ cap ∧ (ao = none → cap = 0) ∧ (∀ ad, ao = some ad → ∃ g, ad = ⟨g, 0, none⟩) ∧ (0 < xs.length → ∃ g, ao = some ⟨g, 0, none⟩ ∧ g < W.heap.size ∧ c g = 0 ∧ ∀ j u, (reCells xs)[j]? = some u → W.cell? ⟨g, j, none⟩ = some u)) ∧ (∀ x ∈ xs, ReAt c W x) ∧ xs.length ≤ 65536
theorem RfAt.keep {c c' : Nat → Nat} {W W' : World} {sv : Value} {xs : List Re} (h : RfAt c W sv xs) (hs : W.heap.size ≤ W'.heap.size)
    (hk : ∀ b, b < W.heap.size → c b = 0 → W'.heap[b]? = W.heap[b]? ∧ c' b = 0) : RfAt c' W' sv xs := by
  obtain ⟨⟨ao, cap, hv, hcp, hn, ha, hx⟩, h2, h3⟩ := h
  refine ⟨⟨ao, cap, hv, hcp, hn, ha, fun hp => ?_⟩, fun x hx => (h2 x hx).keep hs hk, h3⟩
  obtain ⟨g, rfl, hg, hc0, hc⟩ := hx hp
  obtain ⟨e1, e2⟩ := hk g hg hc0
  refine ⟨g, rfl, by omega, e2, fun j u hj => ?_⟩
  rw [World.cell?_of_block (w := W) (a := ⟨g, j, none⟩) e1]
  exact hc j u hj
theorem RfAt.below {c : Nat → Nat} {W W' : World} {sv : Value} {xs : List Re} (h : RfAt c W sv xs) (hb : Below W.heap.size W W') : RfAt c W' sv xs := h.keep hb.size (keep0 hb)
theorem RfAt.own0 {c : Nat → Nat} {W : World} {B : Nat} {sv : Value} {xs : List Re} (h : W.ownsRow B 199 3 sv xs.length (reCells xs)) (hc : New0 c B) (hx : ∀ x ∈ xs, ReAt c W x) (hl : xs.length ≤ 65536) : RfAt c W sv xs := by
  refine ⟨?_, hx, hl⟩
  rcases h.2 with ⟨rfl, h0⟩ | ⟨g, cap, cur, rfl, hB, hh, hn, hcap, hcur, htake⟩
  · exact ⟨none, 0, by rw [h0], by omega, fun _ => rfl, fun ad ha => (by cases ha), fun hp => by omega⟩
  · refine ⟨_, cap, rfl, hn, fun e => (by cases e), fun ad ha => ⟨g, (Option.some.inj ha).symm⟩, fun _ => ⟨g, rfl, (Array.getElem?_eq_some_iff.1 hh).1, hc g hB, fun j u hj => ?_⟩⟩
    have := h.cells (g := g) rfl j u hj
    rwa [dk_add, Nat.zero_add] at this
theorem RfAt.one {c : Nat → Nat} {W : World} {sv : Value} {xs : List Re} (h : RfAt c W sv xs) : ∀ u ∈ reCells xs, u.oneCell' = true := by
  intro u hu
  obtain ⟨x, hx, hu⟩ := List.mem_flatMap.1 hu
  exact (h.2.1 x hx).one u hu
/-- its cells at an index -/
theorem RfAt.at {c : Nat → Nat} {W : World} {sv : Value} {xs : List Re} (h : RfAt c W sv xs) : ∃ ao cap, sv = .slice ao xs.length cap ∧ xs.length ≤ cap ∧ ∀ k x, xs[k]? = some x → ∃ g, ao = some ⟨g, 0, none⟩ ∧ g < W.heap.size ∧
    W.cell? ⟨g, k * 3, none⟩ = some (.string ⟨x.nm.toArray⟩) ∧ W.cell? ⟨g, k * 3 + 1, none⟩ = some x.dv ∧ W.cell? ⟨g, k * 3 + 2, none⟩ = some x.wv ∧ ReAt c W x := by
  obtain ⟨⟨ao, cap, hv, hcp, _, _, hx⟩, h2, _⟩ := h
  refine ⟨ao, cap, hv, hcp, fun k x hk => ?_⟩
  obtain ⟨g, hg, hgl, _, hc⟩ := hx (by have := (List.getElem?_eq_some_iff.1 hk).1; omega)
  obtain ⟨e1, e2, e3⟩ := reCells_at xs k x hk
  exact ⟨g, hg, hgl, hc _ _ e1, hc _ _ e2, hc _ _ e3, h2 x (List.mem_of_getElem? hk)⟩
/-- a part of it as a source of append -/
theorem RfAt.source {c : Nat → Nat} {W : World} {sv : Value} {xs : List Re} (h : RfAt c W sv xs) : ∃ ao cap, sv = .slice ao xs.length cap ∧ xs.length ≤ cap ∧ (ao = none → cap = 0) ∧ (∀ ad, ao = some ad → ∃ g, ad = ⟨g, 0, none⟩) ∧
    ∀ W', Below W.heap.size W W' → ∀ ad, ao = some ad → ∀ j u, (reCells xs)[j]? = some u → W'.cell? (ad.add j) = some u := by
  obtain ⟨⟨ao, cap, hv, hcp, hn, ha0, hx⟩, h2, _⟩ := h
  refine ⟨ao, cap, hv, hcp, hn, ha0, fun W' hb ad ha j u hj => ?_⟩
  have hp : 0 < xs.length := by
    have := (List.getElem?_eq_some_iff.1 hj).1
    rw [reCells_length] at this
    omega
  obtain ⟨g, hg, hgl, _, hc⟩ := hx hp
  rw [hg] at ha
  cases ha
  rw [dk_add, Nat.zero_add]
  exact (hb.cell (p := ⟨g, j, none⟩) hgl).trans (hc j u hj)

/-! ### a disk of the reference -/
def rfVal (sv : Value) (D : Dk.D) : Value := .agg #[sv, .int .i64 D.bud, .bool D.down]
def RfD (c : Nat → Nat) (W : World) (v : Value) (D : Dk.D) : Prop := ∃ sv xs, v = rfVal sv D ∧ D.fs = xs.map Re.ent ∧ RfAt c W sv xs
theorem RfD.keep {c c' : Nat → Nat} {W W' : World} {v : Value} {D : Dk.D} (h : RfD c W v D) (hs : W.heap.size ≤ W'.heap.size)
    (hk : ∀ b, b < W.heap.size → c b = 0 → W'.heap[b]? = W.heap[b]? ∧ c' b = 0) : RfD c' W' v D := by
  obtain ⟨sv, xs, h1, h2, h3⟩ := h
  exact ⟨sv, xs, h1, h2, h3.keep hs hk⟩
theorem RfD.below {c : Nat → Nat} {W W' : World} {v : Value} {D : Dk.D} (h : RfD c W v D) (hb : Below W.heap.size W W') : RfD c W' v D := h.keep hb.size (keep0 hb)
theorem RfD.chg {j : Nat} {c c' : Nat → Nat} {W W' : World} {v : Value} {D : Dk.D} (h : RfD c W v D) (hc : Chg j c c' W W') (hj : j ≠ 0) : RfD c' W' v D := h.keep hc.size (keepC hc hj)
/-- paint all new blocks 0 -/
theorem RfD.paint {c : Nat → Nat} {W : World} {v : Value} {D : Dk.D} (h : RfD c W v D) : RfD (pnt c W.heap.size 0) W v D := h.keep (Nat.le_refl _) (fun _ hb h0 => ⟨rfl, (pnt_old hb).trans h0⟩)

end Go.Proofs.YtamencnachmhoaaGreatDoor
