/-
  A DISK IN MEMORY, MORE: the look-up of a name; a file that turns; the row that turns; a file more.
-/
import Derived.Test.YtegahpgnmeobhaaDoorDkState
namespace Go.Proofs.YtegahpgnmeobhaaDoor
open Go.RowKit

theorem DiskIs.rising {i : Nat} {c : Nat → Nat} {W : World} {g : Nat} {D : Dk.D} {m : Nat} {xs : List Fe} (h : DiskIs i c W g D m xs) : xs.Pairwise (fun x y => bytesBefore x.nm y.nm = true) := by
  obtain ⟨es, he, hp, _⟩ := h.map.canon dk_law
  obtain rfl : xs.map Fe.key = es := by simpa using he
  rw [List.pairwise_map] at hp
  exact hp
theorem bytesBefore_irrefl (l : Dk.Bs) : bytesBefore l l = false := by
  induction l with
  | nil => rfl
  | cons a r ih => simp [bytesBefore, ih]
theorem DiskIs.apart {i : Nat} {c : Nat → Nat} {W : World} {g : Nat} {D : Dk.D} {m : Nat} {xs : List Fe} (h : DiskIs i c W g D m xs) : xs.Pairwise (fun x y => x.nm ≠ y.nm) :=
  h.rising.imp (fun {a b} hab e => by rw [e, bytesBefore_irrefl] at hab; cases hab)

theorem find_key (n : Dk.Bs) : ∀ xs : List Fe, (xs.map Fe.key).find? (fun p => p.1.sameKey (.string n)) = (xs.find? (fun x => x.nm == n)).map Fe.key
  | [] => rfl
  | x :: xs => by
    rw [List.map_cons, List.find?_cons, List.find?_cons, find_key n xs]
    show (match (x.nm == n) with | true => some x.key | false => _) = _
    cases x.nm == n <;> rfl
theorem find_ent (n : Dk.Bs) : ∀ xs : List Fe, Dk.find n (xs.map Fe.ent) = (xs.find? (fun x => x.nm == n)).map Fe.f
  | [] => rfl
  | x :: xs => by
    have ih := find_ent n xs
    unfold Dk.find at ih ⊢
    rw [List.map_cons, List.find?_cons, List.find?_cons]
    show (match (x.nm == n) with | true => some x.ent | false => _).map _ = _
    cases hx : x.nm == n
    · simpa [hx] using ih
    · rfl
theorem DiskIs.find {i : Nat} {c : Nat → Nat} {W : World} {g : Nat} {D : Dk.D} {m : Nat} {xs : List Fe} (h : DiskIs i c W g D m xs) (n : Dk.Bs) : Dk.find n D.fs = (xs.find? (fun x => x.nm == n)).map Fe.f := by
  rw [h.fs]; exact find_ent n xs
theorem DiskIs.find_some {i : Nat} {c : Nat → Nat} {W : World} {g : Nat} {D : Dk.D} {m : Nat} {xs : List Fe} (h : DiskIs i c W g D m xs) {n : Dk.Bs} {f : Dk.Fl} (hf : Dk.find n D.fs = some f) :
    ∃ l1 x l2, xs = l1 ++ x :: l2 ∧ x.nm = n ∧ x.f = f := by
  rw [h.find n] at hf
  obtain ⟨x, hx, rfl⟩ := Option.map_eq_some_iff.1 hf
  obtain ⟨l1, l2, rfl⟩ := List.append_of_mem (List.mem_of_find?_eq_some hx)
  exact ⟨l1, x, l2, rfl, by simpa using List.find?_some hx, rfl⟩
theorem DiskIs.find_none {i : Nat} {c : Nat → Nat} {W : World} {g : Nat} {D : Dk.D} {m : Nat} {xs : List Fe} (h : DiskIs i c W g D m xs) {n : Dk.Bs} (hf : Dk.find n D.fs = none) : ∀ x ∈ xs, x.nm ≠ n := by
  rw [h.find n] at hf
  intro x hx e
  have := List.find?_eq_none.1 (Option.map_eq_none_iff.1 hf) x hx
  simp [e] at this

theorem DiskIs.look_none {i : Nat} {c : Nat → Nat} {W : World} {g : Nat} {D : Dk.D} {m : Nat} {xs : List Fe} (h : DiskIs i c W g D m xs) (s : ByteArray) (hs : s.size ≤ maxLen) (hf : Dk.find s.data.toList D.fs = none) :
    ∀ W', W'.heap = W.heap → (Instr.lookup 35 (.map (some m)) (.string s) false).run Tryd.prog W' = .ok (.pointer none) W' := by
  intro W' hW
  have hm := ownsMap_block (W' := W') h.map (by rw [hW])
  obtain ⟨v, ps, hrun, hv⟩ := hm.lookup dk_law Tryd.underlying35 (dk_zero W') (zd := .held none) (zp := []) rfl (Go.WideMaps.keyOf_string_mk Tryd.underlying9 hs)
  rw [h.find] at hf
  have hat : (DataW.map (xs.map Fe.key)).atKey (.string s.data.toList) (.held none) = .held none := by
    unfold DataW.atKey
    simp only [find_key, Option.map_eq_none_iff.1 hf]
    rfl
  rw [hat] at hv
  cases v <;> simp [ptrElem] at hv
  rw [hrun, hv.1]
theorem DiskIs.look_some {i : Nat} {c : Nat → Nat} {W : World} {g : Nat} {D : Dk.D} {m : Nat} {l1 l2 : List Fe} {x : Fe} (h : DiskIs i c W g D m (l1 ++ x :: l2)) (s : ByteArray) (hs : s.size ≤ maxLen) (hn : x.nm = s.data.toList) :
    ∀ W', W'.heap = W.heap → (Instr.lookup 35 (.map (some m)) (.string s) false).run Tryd.prog W' = .ok (.pointer (some ⟨x.g, 0, none⟩)) W' := by
  intro W' hW
  have hm := ownsMap_block (W' := W') h.map (by rw [hW])
  obtain ⟨v, ps, hrun, hv⟩ := hm.lookup dk_law Tryd.underlying35 (dk_zero W') (zd := .held none) (zp := []) rfl (Go.WideMaps.keyOf_string_mk Tryd.underlying9 hs)
  have hat : (DataW.map ((l1 ++ x :: l2).map Fe.key)).atKey (.string s.data.toList) (.held none) = .held (some ⟨x.g, 0, none⟩) := by
    refine WideAt.atKey_mem _ trivial ?_ (List.mem_map.2 ⟨x, by simp, by unfold Fe.key; rw [hn]⟩)
    rw [List.pairwise_map]
    exact h.apart.imp (fun {a b} hab e => hab (by simpa [Fe.key] using e))
  rw [hat] at hv
  cases v <;> simp [ptrElem] at hv
  rw [hrun, hv.1]

/-- one file's blocks among the others may be changed for others that are nowhere else -/
theorem nodup_swap (A B : List Nat) (o o' : List Nat) (h : (A ++ (o ++ B)).Nodup) (h' : o'.Nodup) (hd : ∀ b ∈ o', b ∈ o ∨ (b ∉ A ∧ b ∉ B)) : (A ++ (o' ++ B)).Nodup := by
  rw [List.nodup_append] at h
  obtain ⟨hA, hoB, hdis⟩ := h
  rw [List.nodup_append] at hoB
  obtain ⟨ho, hB, hdis2⟩ := hoB
  rw [List.nodup_append]
  refine ⟨hA, ?_, ?_⟩
  · rw [List.nodup_append]
    refine ⟨h', hB, fun a ha b hb e => ?_⟩
    subst e
    rcases hd a ha with h1 | ⟨_, h1⟩
    · exact hdis2 a h1 a hb rfl
    · exact h1 hb
  · intro a ha b hb e
    subst e
    rcases List.mem_append.1 hb with hb | hb
    · rcases hd a hb with h1 | ⟨h1, _⟩
      · exact hdis a ha a (List.mem_append_left _ h1) rfl
      · exact h1 ha
    · exact hdis a ha a (List.mem_append_right _ hb) rfl

theorem upd_ent (l1 l2 : List Fe) (x0 x1 : Fe) (hn : x1.nm = x0.nm) (h : (l1 ++ x0 :: l2).Pairwise (fun x y => x.nm ≠ y.nm)) :
    Dk.upd x0.nm x1.f ((l1 ++ x0 :: l2).map Fe.ent) = (l1 ++ x1 :: l2).map Fe.ent := by
  rw [List.pairwise_append] at h
  obtain ⟨h1, h2, h3⟩ := h
  rw [List.pairwise_cons] at h2
  have other : ∀ l : List Fe, (∀ y ∈ l, y.nm ≠ x0.nm) → Dk.upd x0.nm x1.f (l.map Fe.ent) = l.map Fe.ent := by
    intro l hl
    unfold Dk.upd
    rw [List.map_map]
    apply List.map_congr_left
    intro y hy
    simp [Fe.ent, hl y hy]
  have o1 := other l1 (fun y hy => h3 y hy x0 (by simp))
  have o2 := other l2 (fun y hy => (h2.1 y hy).symm)
  unfold Dk.upd at o1 o2 ⊢
  rw [List.map_append, List.map_append, List.map_append, o1, List.map_cons, List.map_cons, List.map_cons, o2]
  simp [Fe.ent, hn]

/-- ONE FILE TURNS -/
theorem DiskIs.turn {i : Nat} {c c' : Nat → Nat} {W W' : World} {g : Nat} {D : Dk.D} {m : Nat} {l1 l2 : List Fe} {x0 x1 : Fe} (h : DiskIs i c W g D m (l1 ++ x0 :: l2)) (hn : x1.nm = x0.nm) (hg : x1.g = x0.g)
    (hs : W.heap.size ≤ W'.heap.size) (hW : ∀ b, b < W.heap.size → b ∉ x0.blks → W'.heap[b]? = W.heap[b]?) (hc : ∀ b, b < W.heap.size → c' b = c b) (hx1 : FeAt c' W' x1)
    (hpv : ∀ b, x1.pv.ownBlock = some b → x0.pv.ownBlock = some b ∨ (W.heap.size ≤ b ∧ b < W'.heap.size ∧ c' b = i)) :
    DiskIs i c' W' g { D with fs := Dk.upd x0.nm x1.f D.fs } m (l1 ++ x1 :: l2) := by
  have hx0 : x0 ∈ l1 ++ x0 :: l2 := by simp
  have hnd := h.nd
  have e0 : g :: m :: (l1 ++ x0 :: l2).flatMap Fe.blks = (g :: m :: l1.flatMap Fe.blks) ++ (x0.blks ++ l2.flatMap Fe.blks) := by simp
  have e1 : g :: m :: (l1 ++ x1 :: l2).flatMap Fe.blks = (g :: m :: l1.flatMap Fe.blks) ++ (x1.blks ++ l2.flatMap Fe.blks) := by simp
  rw [e0] at hnd
  have hin : ∀ b ∈ g :: m :: l1.flatMap Fe.blks, b ∉ x0.blks := fun b hb hb' => (List.nodup_append.1 hnd).2.2 b hb b (List.mem_append_left _ hb') rfl
  have hin2 : ∀ b ∈ l2.flatMap Fe.blks, b ∉ x0.blks := fun b hb hb' => (List.nodup_append.1 (List.nodup_append.1 hnd).2.1).2.2 b hb' b hb rfl
  have hlt : ∀ b, b ∈ g :: m :: (l1 ++ x0 :: l2).flatMap Fe.blks → b < W.heap.size := fun b hb => (h.col b hb).2
  have keep : ∀ b ∈ g :: m :: l1.flatMap Fe.blks, W'.heap[b]? = W.heap[b]? := fun b hb => hW b (hlt b (by rw [e0]; exact List.mem_append_left _ hb)) (hin b hb)
  have keep2 : ∀ b ∈ l2.flatMap Fe.blks, W'.heap[b]? = W.heap[b]? := fun b hb => hW b (hlt b (by rw [e0]; exact List.mem_append_right _ (List.mem_append_right _ hb))) (hin2 b hb)
  have hx1b : ∀ b ∈ x1.blks, b ∈ x0.blks ∨ (W.heap.size ≤ b ∧ b < W'.heap.size ∧ c' b = i) := by
    intro b hb
    simp only [Fe.blks, List.mem_cons, Option.mem_toList] at hb ⊢
    rcases hb with rfl | hb
    · exact .inl (.inl hg)
    · rcases hpv b hb with h1 | h1
      · exact .inl (.inr h1)
      · exact .inr h1
  have hx0b : ∀ b ∈ x0.blks, c b = i ∧ b < W.heap.size := fun b hb => h.col b (mem_blks hx0 hb g m)
  have hread : ∀ b, b < W.heap.size → c b = 0 → W'.heap[b]? = W.heap[b]? ∧ c' b = 0 := fun b hb h0 =>
    ⟨hW b hb (fun hb' => by have := (hx0b b hb').1; exact h.ne (by omega)), (hc b hb).trans h0⟩
  refine ⟨(keep g (by simp)).trans h.row, ?_, ?_, ?_, ?_, ?_, h.ne⟩
  · have hm := ownsMap_block h.map (keep m (by simp))
    rw [List.map_append, List.map_cons] at hm
    rw [List.map_append, List.map_cons]
    have : x1.key = x0.key := by unfold Fe.key; rw [hn, hg]
    rw [this]
    simpa using hm
  · show Dk.upd x0.nm x1.f D.fs = _
    rw [h.fs]
    exact upd_ent l1 l2 x0 x1 hn h.apart
  · intro y hy
    rcases List.mem_append.1 hy with hy | hy
    · exact (h.file y (by simp [hy])).keep hs hread (fun b hb => keep b (List.mem_cons_of_mem _ (List.mem_cons_of_mem _ (List.mem_flatMap.2 ⟨y, hy, hb⟩))))
    · rcases List.mem_cons.1 hy with rfl | hy
      · exact hx1
      · exact (h.file y (by simp [hy])).keep hs hread (fun b hb => keep2 b (List.mem_flatMap.2 ⟨y, hy, hb⟩))
  · rw [e1]
    refine nodup_swap _ _ _ _ hnd ?_ (fun b hb => ?_)
    · have h0 : x0.blks.Nodup := (List.nodup_append.1 (List.nodup_append.1 hnd).2.1).1
      unfold Fe.blks at h0 ⊢
      cases hpb : x1.pv.ownBlock with
      | none => simp
      | some b =>
        simp only [Option.toList_some, List.nodup_cons, List.mem_singleton, List.not_mem_nil, not_false_eq_true, List.nodup_nil, and_true]
        rintro rfl
        rcases hpv _ hpb with h1 | h1
        · rw [h1] at h0
          simp [hg] at h0
        · have := (hx0b x0.g (by simp [Fe.blks])).2
          omega
    · rcases hx1b b hb with h1 | ⟨h1, _, _⟩
      · exact .inl h1
      · refine .inr ⟨fun h2 => ?_, fun h2 => ?_⟩
        · have := hlt b (by rw [e0]; exact List.mem_append_left _ h2); omega
        · have := hlt b (by rw [e0]; exact List.mem_append_right _ (List.mem_append_right _ h2)); omega
  · intro b hb
    rw [e1] at hb
    rcases List.mem_append.1 hb with hb | hb
    · have h1 := h.col b (by rw [e0]; exact List.mem_append_left _ hb)
      exact ⟨(hc b h1.2).trans h1.1, by omega⟩
    · rcases List.mem_append.1 hb with hb | hb
      · rcases hx1b b hb with h1 | ⟨_, h2, h3⟩
        · have := hx0b b h1
          exact ⟨(hc b this.2).trans this.1, by omega⟩
        · exact ⟨h3, h2⟩
      · have h1 := h.col b (by rw [e0]; exact List.mem_append_right _ (List.mem_append_right _ hb))
        exact ⟨(hc b h1.2).trans h1.1, by omega⟩

/-- .. and that is a step of the disk's colour -/
theorem DiskIs.turn_chg {i : Nat} {c c' : Nat → Nat} {W W' : World} {g : Nat} {D : Dk.D} {m : Nat} {l1 l2 : List Fe} {x0 : Fe} (h : DiskIs i c W g D m (l1 ++ x0 :: l2))
    (hos : W'.os = W.os) (htape : W'.tape = W.tape) (hout : W'.output = W.output) (hs : W.heap.size ≤ W'.heap.size) (hW : ∀ b, b < W.heap.size → b ∉ x0.blks → W'.heap[b]? = W.heap[b]?) (hc : ∀ b, b < W.heap.size → c' b = c b) : Chg i c c' W W' :=
  ⟨hos, htape, hout, hs, fun b hb hne => hW b hb (fun hb' => hne (h.col b (mem_blks (by simp) hb' g m)).1), hc⟩

/-- THE ROW TURNS: the budget, or whether it is down -/
theorem DiskIs.reset {i : Nat} {c : Nat → Nat} {W W' : World} {g : Nat} {D : Dk.D} {m : Nat} {xs : List Fe} (h : DiskIs i c W g D m xs) (bud : Int) (down : Bool) (hs : W.heap.size ≤ W'.heap.size)
    (hW : ∀ b, b < W.heap.size → b ≠ g → W'.heap[b]? = W.heap[b]?) (hrow : W'.heap[g]? = some (.cells #[.map (some m), .int .i64 bud, .bool down] 37 (0, 0))) :
    DiskIs i c W' g { D with bud := bud, down := down } m xs := by
  have hlt : ∀ b, b ∈ g :: m :: xs.flatMap Fe.blks → b < W.heap.size := fun b hb => (h.col b hb).2
  have hg : ∀ b ∈ m :: xs.flatMap Fe.blks, b ≠ g := fun b hb e => (List.nodup_cons.1 h.nd).1 (e ▸ hb)
  have keep : ∀ b ∈ m :: xs.flatMap Fe.blks, W'.heap[b]? = W.heap[b]? := fun b hb => hW b (hlt b (List.mem_cons_of_mem _ hb)) (hg b hb)
  have hgi := (h.col g (by simp)).1
  refine ⟨hrow, ownsMap_block h.map (keep m (by simp)), h.fs, fun x hx => (h.file x hx).keep hs (fun b hb h0 => ⟨hW b hb (fun e => h.ne (by rw [← hgi, ← e]; exact h0)), h0⟩) (fun b hb => keep b (List.mem_cons_of_mem _ (List.mem_flatMap.2 ⟨x, hx, hb⟩))), h.nd, fun b hb => ⟨(h.col b hb).1, Nat.lt_of_lt_of_le (h.col b hb).2 hs⟩, h.ne⟩

end Go.Proofs.YtegahpgnmeobhaaDoor
