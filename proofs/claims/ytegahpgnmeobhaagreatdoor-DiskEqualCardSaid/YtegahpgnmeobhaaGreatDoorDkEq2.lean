/-
  Equal: maps of files, disks.
-/
import Derived.Test.YtegahpgnmeobhaaGreatDoorDkEq1
import Derived.Test.YtegahpgnmeobhaaGreatDoorLawsPlain
import Derived.Maps.OwnSet
namespace Go.Proofs.YtegahpgnmeobhaaGreatDoor
open Go.RowKit

namespace Dk
theorem rising_sub_len : ∀ (m l : List (Bs × Fl)), Rising l → Rising m → (∀ p ∈ l, p ∈ m) → l.length ≤ m.length
  | [], l, _, _, h => by
    cases l with
    | nil => exact Nat.le_refl _
    | cons a l => exact absurd (h a (by simp)) (by simp)
  | b :: m, [], _, _, _ => Nat.zero_le _
  | b :: m, a :: l, hl, hm, h => by
    have hl2 := (List.pairwise_cons.1 hl)
    have hm2 := (List.pairwise_cons.1 hm)
    rcases List.mem_cons.1 (h a (by simp)) with e | ha
    · subst e
      have := rising_sub_len m l hl2.2 hm2.2 (fun p hp => by
        rcases List.mem_cons.1 (h p (by simp [hp])) with e | hp2
        · subst e
          have := hl2.1 p hp
          rw [WideAt.bytes_irrefl] at this; cases this
        · exact hp2)
      simp only [List.length_cons]; omega
    · have hba := hm2.1 a ha
      have := rising_sub_len m (a :: l) hl hm2.2 (fun p hp => by
        rcases List.mem_cons.1 (h p hp) with e | hp2
        · subst e
          rcases List.mem_cons.1 hp with e2 | hp3
          · rw [e2, WideAt.bytes_irrefl] at hba; cases hba
          · have h1 := hl2.1 p hp3
            rw [bytes_asymm h1] at hba; cases hba
        · exact hp2)
      exact Nat.le_succ_of_le this
theorem rising_eq : ∀ (m l : List (Bs × Fl)), Rising l → Rising m → (∀ p ∈ l, p ∈ m) → l.length = m.length → l = m
  | [], l, _, _, _, hn => List.eq_nil_of_length_eq_zero hn
  | b :: m, [], _, _, _, hn => by simp at hn
  | b :: m, a :: l, hl, hm, h, hn => by
    have hl2 := (List.pairwise_cons.1 hl)
    have hm2 := (List.pairwise_cons.1 hm)
    rcases List.mem_cons.1 (h a (by simp)) with e | ha
    · subst e
      have := rising_eq m l hl2.2 hm2.2 (fun p hp => by
        rcases List.mem_cons.1 (h p (by simp [hp])) with e | hp2
        · subst e
          have := hl2.1 p hp
          rw [WideAt.bytes_irrefl] at this; cases this
        · exact hp2) (by simpa using hn)
      rw [this]
    · have hba := hm2.1 a ha
      have := rising_sub_len m (a :: l) hl hm2.2 (fun p hp => by
        rcases List.mem_cons.1 (h p hp) with e | hp2
        · subst e
          rcases List.mem_cons.1 hp with e2 | hp3
          · rw [e2, WideAt.bytes_irrefl] at hba; cases hba
          · have h1 := hl2.1 p hp3
            rw [bytes_asymm h1] at hba; cases hba
        · exact hp2)
      rw [hn] at this
      simp only [List.length_cons] at this
      omega
end Dk

theorem has_key (xs : List Fe) (n : Dk.Bs) : Maps.has (DataW.map (xs.map Fe.key)) (.string n) = (Dk.find n (xs.map Fe.ent)).isSome := by
  rw [find_ent, Option.isSome_map]
  unfold Maps.has
  rw [Bool.eq_iff_iff, List.any_eq_true, List.find?_isSome]
  constructor
  · rintro ⟨p, hp, he⟩
    obtain ⟨x, hx, rfl⟩ := List.mem_map.1 hp
    exact ⟨x, hx, by simpa [Fe.key, Lit.sameKey] using he⟩
  · rintro ⟨x, hx, he⟩
    exact ⟨x.key, List.mem_map.2 ⟨x, hx, rfl⟩, by simpa [Fe.key, Lit.sameKey] using he⟩

theorem DiskIs.look2_none {i : Nat} {c : Nat → Nat} {W : World} {g : Nat} {D : Dk.D} {m : Nat} {xs : List Fe} (h : DiskIs i c W g D m xs) (s : ByteArray) (hs : s.size ≤ maxLen) (hf : Dk.find s.data.toList D.fs = none) :
    ∀ W', W'.heap[m]? = W.heap[m]? → (Instr.lookup 70 (.map (some m)) (.string s) true).run Tryz.prog W' = .ok (.tuple #[.pointer none, .bool false]) W' := by
  intro W' hW
  have hm := ownsMap_block (W' := W') h.map hW
  obtain ⟨v, ps, hrun, hv⟩ := hm.look_ok dk_law Tryz.underlying70 (dk_zero W') (zd := .held none) (zp := []) rfl (Go.WideMaps.keyOf_string_mk Tryz.underlying9 hs)
  rw [has_key, ← h.fs, hf] at hrun
  rw [h.find] at hf
  have hat : (DataW.map (xs.map Fe.key)).atKey (.string s.data.toList) (.held none) = .held none := by
    unfold DataW.atKey
    simp only [find_key, Option.map_eq_none_iff.1 hf]
    rfl
  rw [hat] at hv
  cases v <;> simp [ptrElem] at hv
  rw [hrun, hv.1]
  rfl
theorem DiskIs.look2_some {i : Nat} {c : Nat → Nat} {W : World} {g : Nat} {D : Dk.D} {m : Nat} {l1 l2 : List Fe} {x : Fe} (h : DiskIs i c W g D m (l1 ++ x :: l2)) (s : ByteArray) (hs : s.size ≤ maxLen) (hn : x.nm = s.data.toList) :
    ∀ W', W'.heap[m]? = W.heap[m]? → (Instr.lookup 70 (.map (some m)) (.string s) true).run Tryz.prog W' = .ok (.tuple #[.pointer (some ⟨x.g, 0, none⟩), .bool true]) W' := by
  intro W' hW
  have hm := ownsMap_block (W' := W') h.map hW
  obtain ⟨v, ps, hrun, hv⟩ := hm.look_ok dk_law Tryz.underlying70 (dk_zero W') (zd := .held none) (zp := []) rfl (Go.WideMaps.keyOf_string_mk Tryz.underlying9 hs)
  have hat : (DataW.map ((l1 ++ x :: l2).map Fe.key)).atKey (.string s.data.toList) (.held none) = .held (some ⟨x.g, 0, none⟩) := by
    refine WideAt.atKey_mem _ trivial ?_ (List.mem_map.2 ⟨x, by simp, by unfold Fe.key; rw [hn]⟩)
    rw [List.pairwise_map]
    exact h.apart.imp (fun {a b} hab e => hab (by simpa [Fe.key] using e))
  have hhas : Maps.has (DataW.map ((l1 ++ x :: l2).map Fe.key)) (.string s.data.toList) = true := by
    unfold Maps.has
    rw [List.any_eq_true]
    exact ⟨x.key, List.mem_map.2 ⟨x, by simp, rfl⟩, by simp [Fe.key, Lit.sameKey, hn]⟩
  rw [hhas] at hrun
  rw [hat] at hv
  cases v <;> simp [ptrElem] at hv
  rw [hrun, hv.1]

/-- the loop over the first disk's files -/
structure EqLoop (W : World) (A B : Dk.D) (m1 : Nat) (xs : List Fe) (r : Nat) (wr : World) (left : Lit → Bool) (cnt : Nat) : Prop where
  rng : wr.ranges Tryz.prog 9 ptrElem m1 r xs.length (.map (xs.map Fe.key)) left cnt
  bel : Below W.heap.size W wr
  new : W.heap.size ≤ r
  same : ∀ n f, (n, f) ∈ A.fs → left (.string n) = false → Dk.find n B.fs = some f

theorem DiskIs.came {i : Nat} {c : Nat → Nat} {W : World} {g : Nat} {D : Dk.D} {m : Nat} {xs : List Fe} (_h : DiskIs i c W g D m xs)
    {s : ByteArray} {p : Option Addr} {kl : Lit} {y : DataW (Option Addr) × List MemPlace} (hk : keyOf Tryz.prog 9 (.string s) = some kl) (hp : ptrElem (.pointer p) = some y) (hat : ∀ zd, (DataW.map (xs.map Fe.key)).atKey kl zd = y.1) :
    kl = .string s.data.toList ∧ s.size ≤ maxLen ∧ ∃ l1 x l2, xs = l1 ++ x :: l2 ∧ x.nm = s.data.toList ∧ p = some ⟨x.g, 0, none⟩ := by
  obtain ⟨s', hs', rfl, hlen⟩ := keyOf_string_inv hk
  cases hs'
  refine ⟨rfl, hlen, ?_⟩
  obtain ⟨p', hp', rfl⟩ := ptrElem_inv hp
  cases hp'
  cases hf : xs.find? (fun x => x.nm == s.data.toList) with
  | none =>
    have := hat .nil
    unfold DataW.atKey at this
    simp only [find_key, hf, Option.map_none] at this
    cases this
  | some x =>
    have := hat .nil
    unfold DataW.atKey at this
    simp only [find_key, hf, Option.map_some, Fe.key] at this
    obtain ⟨l1, l2, rfl⟩ := List.append_of_mem (List.mem_of_find?_eq_some hf)
    have hnm : x.nm = s.data.toList := by simpa using List.find?_some hf
    exact ⟨l1, x, l2, rfl, hnm, by cases this; rfl⟩

theorem map_len {W : World} {m n : Nat} {l : List (Lit × DataW (Option Addr))} (h : W.ownsMap Tryz.prog 9 ptrElem m n (.map l)) (t e : TypeId) (ht : Tryz.prog.underlying t = some (.map 9 e)) (ty : TypeId) :
    (Builtin.len_ #[t] ty #[.map (some m)]).run Tryz.prog W = .ok (.int .i64 l.length) W := by
  have := h.len ht ty
  simpa [Maps.size] using this

set_option maxRecDepth 100000 in
set_option maxHeartbeats 1000000 in
theorem eq_maps {i j : Nat} {c c' : Nat → Nat} {W : World} {g1 g2 m1 m2 : Nat} {A B : Dk.D} {xs ys : List Fe} (h1 : DiskIs i c W g1 A m1 xs) (h2 : DiskIs j c' W g2 B m2 ys) (hRA : Dk.Rising A.fs) (hRB : Dk.Rising B.fs) (_hx : xs.length ≤ 1073741824) (_hy : ys.length ≤ 1073741824) :
    Calls Tryz.prog 63 #[.map (some m1), .map (some m2), .func (.func 64) #[] #[]] W fun e W' => ∃ r : Bool, e = .returned (.bool r) ∧ (r = true ↔ A.fs = B.fs) ∧ Below W.heap.size W W' := by
  have HE := dk_entE1
  have H1 := Lib.hid h1
  have H2 := Lib.hid h2
  have hl1 : A.fs.length = xs.length := by rw [h1.fs, List.length_map]
  have hl2 : B.fs.length = ys.length := by rw [h2.fs, List.length_map]
  have HL1 := Lib.hid hl1
  have HL2 := Lib.hid hl2
  have HRA := Lib.hid hRA
  have HRB := Lib.hid hRB
  have k1 := fun ty => map_len h1.map 70 _ Tryz.underlying70 ty
  have k2 := fun ty => map_len h2.map 70 _ Tryz.underlying70 ty
  simp only [List.length_map] at k1 k2
  have hown := Lib.hid h1.map
  clear h1 h2 hl1 hl2 hRA hRB
  go_enter Tryz.func63, Tryz.ntmps63
  by_cases hlm : xs.length = ys.length
  · rw [hlm] at k1
    have HLM := Lib.hid hlm
    clear hlm
    go_wp2_with (at_range; refine wpList_range_own _ rfl _ 70 rfl 9 80 dk_law Tryz.underlying70 ptrElem m1 xs.length (.map (xs.map Fe.key)) rfl hown.out ?_; intro w0 hrg0 hg0 hs0)
    go_frame
    have hst : EqLoop W A B m1 xs W.heap.size w0 (Maps.has (DataW.map (xs.map Fe.key))) (Maps.size (DataW.map (xs.map Fe.key))) := ⟨hrg0, (Below.refl _ _).grown hg0 (Nat.le_refl _) (fun k hk => by cases hk), Nat.le_refl _, fun n f hm hl => by
      rw [has_key, ← H1.out.fs] at hl
      obtain ⟨k, hk⟩ := List.getElem?_of_mem hm
      obtain ⟨_, hf⟩ := Dk.find_place HRA.out k n f hk
      rw [hf] at hl; cases hl⟩
    have HST := Lib.hid hst
    clear hrg0 hg0 hs0 hst k1 k2
    go_loopw [7] (fun _ wr => ∃ left cnt, Hid (EqLoop W A B m1 xs W.heap.size wr left cnt)) (fun _ wr => wr.rangeLeft m1 W.heap.size)
    case atStart => exact ⟨_, _, HST⟩
    case round =>
      obtain ⟨left, cnt, hL⟩ := hrel
      clear hown HST
      go_wp2_with (at_next; (refine wpList_next_ranges _ rfl _ rfl 9 dk_law ptrElem Value.string Value.pointer (fun key kl hk => by obtain ⟨s, h1, _⟩ := keyOf_string_inv hk; exact ⟨s, h1⟩) (fun v y hv => by obtain ⟨p, h1, _⟩ := ptrElem_inv hv; exact ⟨p, h1⟩) m1 W.heap.size xs.length (.map (xs.map Fe.key)) left cnt rfl hL.out.rng ?_ ?_))
      · intro hc0 hl0
        have hfin : Hid (A.fs = B.fs) := Lib.hid (Dk.rising_eq _ _ HRA.out HRB.out (fun p hp => by
          have := hL.out.same p.1 p.2 hp (hl0 _)
          exact Dk.find_mem this) (by rw [HL1.out, HL2.out, HLM.out]))
        go_wp2_with fail
        go_ret
        exact ⟨true, rfl, by simp [hfin.out], hL.out.bel⟩
      · intro s p kl y1 y2 w1 cnt1 hk hlx hpy hat hrg1 hlt hg1 hs1 hen
        obtain ⟨rfl, hsl, l1, x, l2, hxs, hnm, rfl⟩ := H1.out.came (y := (y1, y2)) hk hpy hat
        have hxm : x ∈ xs := by rw [hxs]; simp
        have hb1 : Below W.heap.size W w1 := hL.out.bel.grown hg1 hL.out.bel.size (fun k hk => by cases hk; exact hL.out.new)
        have hF1 := (H1.out.chg (Chg.of_below' (i := i + 1) (c' := c) hb1 (fun _ _ => rfl)) (by omega) (by omega)).file x hxm
        have hAm : (x.nm, x.f) ∈ A.fs := by rw [H1.out.fs]; exact List.mem_map.2 ⟨x, hxm, rfl⟩
        have HB1 := Lib.hid hb1
        have HF1 := Lib.hid hF1
        have HAM := Lib.hid hAm
        have HNM := Lib.hid hnm
        have HRG := Lib.hid hrg1
        have HLT := Lib.hid hlt
        have h2m : w1.heap[m2]? = W.heap[m2]? := hb1.block m2 (H2.out.col m2 (by simp)).2
        cases hf : Dk.find s.data.toList B.fs with
        | none =>
          have hlk := H2.out.look2_none s hsl hf w1 h2m
          have hbad : Hid (A.fs ≠ B.fs) := Lib.hid (fun e => by
            have hm := HAM.out
            rw [HNM.out, e] at hm
            obtain ⟨k, hk⟩ := List.getElem?_of_mem hm
            obtain ⟨_, h⟩ := Dk.find_place HRB.out k _ _ hk
            rw [hf] at h; cases h)
          clear hb1 hF1 hAm hnm hrg1 hlt h2m hf hk hlx hpy hat hg1 hs1 hxs hxm
          go_wp2_with fail
          go_ret
          exact ⟨false, rfl, by simp [hbad.out], HB1.out⟩
        | some f2 =>
          obtain ⟨q1, y, q2, hys, hyn, rfl⟩ := H2.out.find_some hf
          have h2' : DiskIs j c' W g2 B m2 (q1 ++ y :: q2) := by rw [← hys]; exact H2.out
          have hlk := h2'.look2_some s hsl hyn w1 h2m
          have hF2 := (h2'.chg (Chg.of_below' (i := j + 1) (c' := c') hb1 (fun _ _ => rfl)) (by omega) (by omega)).file y (by simp)
          have hcall := eq_files hF1 hF2
          have HC := Lib.hid hcall
          have HF := Lib.hid hf
          clear hb1 hF1 hAm hnm hrg1 hlt h2m hf hk hlx hpy hat hg1 hs1 hxs hxm hF2 hcall hyn hys h2'
          have hsame : Hid (∀ r : Bool, (r = true ↔ x.f = y.f) → (r = true → ∀ n f, (n, f) ∈ A.fs → (left (.string n) && !(Lit.string n).sameKey (.string s.data.toList)) = false → Dk.find n B.fs = some f) ∧ (r = false → A.fs ≠ B.fs)) := Lib.hid (fun r hr => ⟨fun h n f hm hl => by
            by_cases hn : n = s.data.toList
            · subst hn
              have e1 := hr.1 h
              obtain ⟨k1, hk1⟩ := List.getElem?_of_mem hm
              obtain ⟨k2, hk2⟩ := List.getElem?_of_mem HAM.out
              rw [HNM.out] at hk2
              have p1 := (Dk.find_place HRA.out k1 _ _ hk1).2
              have p2 := (Dk.find_place HRA.out k2 _ _ hk2).2
              rw [p1] at p2
              rw [HF.out, Option.some.inj p2, e1]
            · refine hL.out.same n f hm ?_
              simpa [Lit.sameKey, hn] using hl, fun h e => by
            obtain ⟨k, hk⟩ := List.getElem?_of_mem HAM.out
            rw [HNM.out, e] at hk
            have := (Dk.find_place HRB.out k _ _ hk).2
            rw [HF.out] at this
            have := hr.2 (Option.some.inj this).symm
            rw [h] at this; cases this⟩)
          go_wp2_with fail
          refine HC.out.mono ?_
          rintro e w2 ⟨r, rfl, hr, hb2⟩
          obtain ⟨hs1, hs2⟩ := hsame.out r hr
          have hb02 := HB1.out.trans (hb2.mono HB1.out.size)
          have hrgk := HRG.out.kept (dk_grown_of_below none hb2) (by simp) (by simp)
          have HRGK := Lib.hid hrgk
          have HB02 := Lib.hid hb02
          clear hb2 hr hb02 hrgk
          cases r with
          | true =>
            have HP : Hid (EqLoop W A B m1 xs W.heap.size w2 (fun z => left z && !z.sameKey (.string s.data.toList)) cnt1) := Lib.hid ⟨HRGK.out, HB02.out, Nat.le_refl _, hs1 rfl⟩
            clear hs1 hs2
            go_wp2_with fail
            go_roundw
            case rel => exact ⟨_, _, HP⟩
            case measure => rw [HP.out.rng.left_eq, hL.out.rng.left_eq]; exact HLT.out
          | false =>
            have hne := hs2 rfl
            clear hs1 hs2
            go_wp2_with fail
            go_ret
            exact ⟨false, rfl, by simp [hne], HB02.out⟩
  · have hne : ((xs.length : Int) == (ys.length : Int)) = false := by simp; omega
    have hfs : Hid (A.fs ≠ B.fs) := Lib.hid (fun e => hlm (by rw [← HL1.out, ← HL2.out, e]))
    clear hlm
    go_wp2_with fail
    go_ret
    exact ⟨false, rfl, by simp [hfs.out], Below.refl _ _⟩

theorem dk_EqualNil (W : World) (g : Nat) : Calls Tryz.prog 34 #[.pointer (some ⟨g, 0, none⟩), .pointer none] W fun e W' => e = .returned (.bool false) ∧ W = W' := by
  go_enter Tryz.func34, Tryz.ntmps34
  go_wp2_with fail
  go_ret
  exact ⟨rfl, rfl⟩

set_option maxRecDepth 100000 in
set_option maxHeartbeats 1000000 in
theorem dk_Equal {i j : Nat} {c c' : Nat → Nat} {W : World} {g1 g2 : Nat} {A B : Dk.D} (h1 : DiskAt i c W g1 A) (h2 : DiskAt j c' W g2 B) (hA : A.fs.length ≤ 1073741824) (hB : B.fs.length ≤ 1073741824) (hRA : Dk.Rising A.fs) (hRB : Dk.Rising B.fs) :
    Calls Tryz.prog 34 #[.pointer (some ⟨g1, 0, none⟩), .pointer (some ⟨g2, 0, none⟩)] W fun e W' => ∃ r : Bool, e = .returned (.bool r) ∧ (r = true ↔ A.budget = B.budget ∧ A.down = B.down ∧ A.fs = B.fs) ∧ Below W.heap.size W W' := by
  have same1 : ∀ n, DiskAt i c (W.drewN n) g1 A := fun n => h1.chg (Chg.of_below' (i := i + 1) (dk_below_drewN (Below.refl _ _) n) (fun _ _ => rfl)) (by omega) (by omega)
  have same2 : ∀ n, DiskAt j c' (W.drewN n) g2 B := fun n => h2.chg (Chg.of_below' (i := j + 1) (dk_below_drewN (Below.refl _ _) n) (fun _ _ => rfl)) (by omega) (by omega)
  have b1 : ∀ n, Calls Tryz.prog 33 #[.pointer (some ⟨g1, 0, none⟩)] (W.drewN n) fun e W' => e = .returned (.int .i64 A.budget) ∧ W' = W.drewN n := fun n => (dk_Budget (same1 n)).mono (fun _ _ h => ⟨h.1, h.2.symm⟩)
  have b2 : ∀ n, Calls Tryz.prog 33 #[.pointer (some ⟨g2, 0, none⟩)] (W.drewN n) fun e W' => e = .returned (.int .i64 B.budget) ∧ W' = W.drewN n := fun n => (dk_Budget (same2 n)).mono (fun _ _ h => ⟨h.1, h.2.symm⟩)
  have s1 : Calls Tryz.prog 33 #[.pointer (some ⟨g1, 0, none⟩)] W.drew fun e W' => e = .returned (.int .i64 A.budget) ∧ W' = W.drew := (dk_Budget (h1.chg (Chg.of_below' (i := i + 1) (c' := c) (Below.refl _ W).drew (fun _ _ => rfl)) (by omega) (by omega))).mono (fun _ _ h => ⟨h.1, h.2.symm⟩)
  have s2 : Calls Tryz.prog 33 #[.pointer (some ⟨g2, 0, none⟩)] W.drew fun e W' => e = .returned (.int .i64 B.budget) ∧ W' = W.drew := (dk_Budget (h2.chg (Chg.of_below' (i := j + 1) (c' := c') (Below.refl _ W).drew (fun _ _ => rfl)) (by omega) (by omega))).mono (fun _ _ h => ⟨h.1, h.2.symm⟩)
  have HS1 := Lib.hid s1
  have HS2 := Lib.hid s2
  obtain ⟨m1, xs, d1⟩ := h1
  obtain ⟨m2, ys, d2⟩ := h2
  have hx : xs.length ≤ 1073741824 := by have := d1.fs; rw [this, List.length_map] at hA; exact hA
  have hy : ys.length ≤ 1073741824 := by have := d2.fs; rw [this, List.length_map] at hB; exact hB
  have e1 := d1.same (W' := W.drew) rfl
  have e2 := d2.same (W' := W.drew) rfl
  have hm := eq_maps e1 e2 hRA hRB hx hy
  obtain ⟨x0, x1, x2, -, -⟩ := d1.cells
  obtain ⟨y0, y1, y2, -, -⟩ := d2.cells
  have HB1 := Lib.hid b1
  have HB2 := Lib.hid b2
  have HM := Lib.hid hm
  clear b1 b2 s1 s2 hm e1 e2 d1 d2 same1 same2 hx hy hA hB hRA hRB x1 y1
  by_cases hb : A.budget = B.budget
  · by_cases hd : A.down = B.down
    · rw [hb] at HS1
      rw [hd] at x2
      have HBB := Lib.hid hb
      have HDD := Lib.hid hd
      clear hb hd HB1 HB2
      generalize B.budget = bb at *
      generalize B.down = bd at *
      go_enter Tryz.func34, Tryz.ntmps34
      go_wp2_with fail
      refine wp_region_still_tail 25 (by kernel_rfl) (by kernel_rfl) ?_
      simp only [List.take_succ_cons, List.take_zero, List.drop_succ_cons, List.drop_zero]
      change wpStill _ _ (World.drew _) _ _ _
      repeat still_step
      still_call HS1.out
      repeat still_step
      still_call HS2.out
      repeat still_step
      refine wpStill_nil ?_
      go_wp2_with fail
      refine HM.out.mono ?_
      rintro e w2 ⟨r, rfl, hr, hb2⟩
      have HB2 := Lib.hid ((Below.refl W.heap.size W).drew.trans (hb2.mono (Nat.le_refl _)))
      have HR := Lib.hid hr
      clear hb2 hr
      go_wp2_with fail
      go_ret
      exact ⟨r, rfl, by rw [HR.out]; simp [HBB.out, HDD.out], HB2.out⟩
    · have HDD := Lib.hid hd
      have hdb : (A.down == B.down) = false := by simpa using hd
      rw [hb] at HB1
      have HBB := Lib.hid hb
      clear hd hb HS1 HS2 HM
      generalize A.down = ad at *
      generalize B.down = bd at *
      generalize B.budget = bb at *
      go_enter Tryz.func34, Tryz.ntmps34
      go_wp2_with fail
      go_quiet ((first | (go_at_call 33; with_reducible exact Calls.quiet_of_same (HB1.out _)) | (go_at_call 33; with_reducible exact Calls.quiet_of_same (HB2.out _))))
      go_wp2_with fail
      go_ret
      exact ⟨false, rfl, by simp [HDD.out], dk_below_drewN (Below.refl _ _) _⟩
  · have HBB := Lib.hid hb
    have hbb : (A.budget == B.budget) = false := by simpa using hb
    clear hb HS1 HS2 HM
    generalize A.budget = ab at *
    generalize B.budget = bb at *
    go_enter Tryz.func34, Tryz.ntmps34
    go_wp2_with fail
    go_quiet ((first | (go_at_call 33; with_reducible exact Calls.quiet_of_same (HB1.out _)) | (go_at_call 33; with_reducible exact Calls.quiet_of_same (HB2.out _))))
    go_wp2_with fail
    go_ret
    exact ⟨false, rfl, by simp [HBB.out], dk_below_drewN (Below.refl _ _) _⟩

end Go.Proofs.YtegahpgnmeobhaaGreatDoor
