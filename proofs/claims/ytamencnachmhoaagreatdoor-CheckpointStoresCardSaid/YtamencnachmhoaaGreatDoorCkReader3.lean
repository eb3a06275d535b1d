/-
  codec.Reader: Blob, End.
-/
import Derived.Test.YtamencnachmhoaaGreatDoorCkReader2
namespace Go.Proofs.YtamencnachmhoaaGreatDoor
open Go.RowKit

theorem RdB.some_of {W : World} {B : Nat} {a : Option Addr} {n cap : Nat} {l : Dk.Bs} (h : RdB W B (.slice a n cap) l) (hl : 0 < l.length) : ∃ g off, a = some ⟨g, off, none⟩ ∧ n = l.length ∧ l.length ≤ cap := by
  rcases h with ⟨rfl, _⟩ | ⟨g, off, cap', hv, hc, _, _, _⟩
  · simp at hl
  · cases hv
    exact ⟨g, off, rfl, rfl, hc⟩

set_option maxRecDepth 100000 in
set_option maxHeartbeats 1000000 in
theorem cd_blobLit (W : World) (bv : Value) (b : Ck.Bs) (hb : RdB W W.heap.size bv b) (hl : b.length ≤ 100000000) :
    Calls Tryz.prog 104 #[bv] W fun e W' => ∃ v, e = .returned (.tuple #[v, .int .i64 (Ck.readB b).2.1, .int .i64 (Ck.readB b).2.2]) ∧ W'.ownsRow W.heap.size 5 1 v (Ck.readB b).1.length (dkCells (Ck.readB b).1) ∧ Below W.heap.size W W' := by
  have n1 := cd_integer W bv b hb (by omega)
  obtain ⟨a0, cap0, rfl⟩ := hb.form
  have hle := readU_le b
  have hso : (Ck.readU b).2.2 = 0 → 0 < (Ck.readU b).2.1 := fun h => by
    obtain ⟨v, m, e, hr⟩ : ∃ v m e, Ck.readU b = (v, m, e) := ⟨_, _, _, rfl⟩
    rw [hr] at h ⊢
    simp only [] at h ⊢
    subst h
    exact (Ck.readU_sound hr).2.1
  have HB := Lib.hid hb
  have HRB : Hid (Ck.readB b = if (Ck.readU b).2.2 ≠ 0 then ([], 0, (Ck.readU b).2.2) else if 1048576 < (Ck.readU b).1 then ([], 0, 5) else if b.length - (Ck.readU b).2.1 < (Ck.readU b).1 then ([], 0, 19) else ((b.drop (Ck.readU b).2.1).take (Ck.readU b).1, (Ck.readU b).2.1 + (Ck.readU b).1, 0)) := Lib.hid rfl
  generalize Ck.readU b = u at *
  obtain ⟨n, k, er⟩ := u
  simp only [] at n1 hle hso HRB
  have HSO := Lib.hid hso
  clear hb hso
  go_enter Tryz.func104, Tryz.ntmps104
  go_wp2_with fail
  refine n1.mono ?_
  rintro e W1 ⟨rfl, rfl⟩
  clear n1
  by_cases he : er = 0
  · subst he
    by_cases hbig : 1048576 < n
    · have hbI : (1048576 : Int) < (n : Int) := by omega
      have HQ : Hid (Ck.readB b = ([], 0, 5)) := Lib.hid (by rw [HRB.out, if_neg (by simp), if_pos hbig])
      go_wp2_with fail
      go_ret3
      rw [HQ.out]
      exact ⟨_, rfl, World.ownsRow_nil _ _ _ _, Below.refl _ _⟩
    · have hbI : ¬ (1048576 : Int) < (n : Int) := by omega
      obtain ⟨rest, hrest⟩ : ∃ rest, rest = b.length - k := ⟨_, rfl⟩
      have hsub : (b.length : Int) - (k : Int) = (rest : Int) := by omega
      have hw := wrapU64 (n := rest) (by omega)
      by_cases hsh : rest < n
      · have hsI : (rest : Int) < (n : Int) := by omega
        have HQ : Hid (Ck.readB b = ([], 0, 19)) := Lib.hid (by rw [HRB.out, if_neg (by simp), if_neg hbig, ← hrest, if_pos hsh])
        clear hrest
        go_wp2_with fail
        go_ret3
        rw [HQ.out]
        exact ⟨_, rfl, World.ownsRow_nil _ _ _ _, Below.refl _ _⟩
      · have hsI : ¬ (rest : Int) < (n : Int) := by omega
        have HQ : Hid (Ck.readB b = ((b.drop k).take n, k + n, 0)) := Lib.hid (by rw [HRB.out, if_neg (by simp), if_neg hbig, ← hrest, if_neg hsh])
        have hk0 := HSO.out rfl
        have hbl : 0 < b.length := by omega
        obtain ⟨g, off, rfl, -, hcap⟩ := HB.out.some_of hbl
        obtain ⟨en, hen⟩ : ∃ en, en = k + n := ⟨_, rfl⟩
        have henI : (k : Int) + (n : Int) = (en : Int) := by omega
        have i1 : (k : Int) ≤ (en : Int) := by omega
        have i2 : (en : Int) ≤ (cap0 : Int) := by omega
        have hnk : en - k = n := by omega
        have hpart := HB.out.part k n (by omega) hbl
        have hpl : ((b.drop k).take n).length = n := by rw [List.length_take, List.length_drop]; omega
        have HEN := Lib.hid hen
        have HPL := Lib.hid hpl
        have HPA := Lib.hid hpart.1
        clear hrest hpart hen hpl
        by_cases hck : cap0 = k
        · have hn0 : n = 0 := by omega
          have hemp : RdB W W.heap.size (.slice (some ⟨g, off, none⟩) n 0) ((b.drop k).take n) := by rw [hn0]; exact .inl ⟨by simp, _, _, rfl⟩
          have n2 := dk_cloneB _ _ W hemp (by rw [HPL.out]; omega)
          clear hn0 hemp
          go_wp2_with fail
          refine n2.mono ?_
          rintro e W2 ⟨v2, rfl, o2, b2⟩
          have HO := Lib.hid o2
          have HB2 := Lib.hid b2
          clear n2 o2 b2
          go_wp2_with fail
          go_ret3
          rw [HQ.out]
          exact ⟨v2, by rw [HEN.out]; rfl, HO.out, HB2.out⟩
        · have n2 := dk_cloneB _ _ W HPA.out (by rw [HPL.out]; omega)
          go_wp2_with fail
          refine n2.mono ?_
          rintro e W2 ⟨v2, rfl, o2, b2⟩
          have HO := Lib.hid o2
          have HB2 := Lib.hid b2
          clear n2 o2 b2
          go_wp2_with fail
          go_ret3
          rw [HQ.out]
          exact ⟨v2, by rw [HEN.out]; rfl, HO.out, HB2.out⟩
  · have HQ : Hid (Ck.readB b = ([], 0, er)) := Lib.hid (by rw [HRB.out, if_pos he])
    go_wp2_with fail
    go_ret3
    rw [HQ.out]
    exact ⟨_, rfl, World.ownsRow_nil _ _ _ _, Below.refl _ _⟩

theorem RdB.dropK {W : World} {B : Nat} {a : Option Addr} {n cap : Nat} {l : Dk.Bs} (h : RdB W B (.slice a n cap) l) (k : Nat) (hk : k ≤ l.length) : RdB W B (if cap = k then .slice a (l.length - k) 0 else .slice (a.map fun x => x.add k) (l.length - k) (cap - k)) (l.drop k) := by
  rcases h with ⟨rfl, a2, c2, hv⟩ | ⟨g, off, cap', hv, hc, hg, hgs, hx⟩
  · have h0 : k = 0 := by simpa using hk
    subst h0
    split
    · exact .inl ⟨by simp, _, _, rfl⟩
    · exact .inl ⟨by simp, _, _, rfl⟩
  · cases hv
    split
    · exact .inl ⟨List.drop_of_length_le (by omega), _, _, by rw [show l.length - k = 0 from by omega]⟩
    · refine .inr ⟨g, off + k, cap - k, by rw [List.length_drop]; simp [Addr.add], by rw [List.length_drop]; omega, hg, hgs, fun j c hj => ?_⟩
      rw [List.getElem?_drop] at hj
      rw [Nat.add_assoc]
      exact hx (k + j) c hj

theorem cd_S_step {w w3 : World} {r : Nat} {x0 x1 : Value} (H : w.cell? ⟨r, 0, none⟩ = some x0 ∧ w.cell? ⟨r, 1, none⟩ = some x1) (hb : Below w.heap.size w w3) : w3.cell? ⟨r, 0, none⟩ = some x0 ∧ w3.cell? ⟨r, 1, none⟩ = some x1 :=
  ⟨(hb.cell (World.block_lt_of_cell? w _ H.1)).trans H.1, (hb.cell (World.block_lt_of_cell? w _ H.2)).trans H.2⟩
theorem readB_le (b : Ck.Bs) : (Ck.readB b).2.1 ≤ b.length := by
  by_cases h : (Ck.readB b).2.2 = 0
  · obtain ⟨v, m, e, hr⟩ : ∃ v m e, Ck.readB b = (v, m, e) := ⟨_, _, _, rfl⟩
    rw [hr] at h ⊢
    simp only [] at h ⊢
    subst h
    exact (Ck.readB_sound hr).2
  · unfold Ck.readB at h ⊢
    repeat' split at h
    all_goals first | (rename_i h1; rw [if_pos h1]; exact Nat.zero_le _) | skip
    all_goals first | (rename_i h1 h2; rw [if_neg h1, if_pos h2]; exact Nat.zero_le _) | skip
    all_goals first | (rename_i h1 h2 h3; rw [if_neg h1, if_neg h2, if_pos h3]; exact Nat.zero_le _) | exact absurd rfl h
theorem readB_err {b : Ck.Bs} : (Ck.readB b).2.2 ≠ 0 → (Ck.readB b).1 = [] ∧ (Ck.readB b).2.1 = 0 := by
  unfold Ck.readB
  repeat' split
  all_goals first | exact fun _ => ⟨rfl, rfl⟩ | exact fun h => absurd rfl h

set_option maxRecDepth 100000 in
set_option maxHeartbeats 1000000 in
theorem cd_valueB {B : Nat} {W : World} {r : Nat} {v : Value} {p : Ck.Bs} {a : Nat} (h : RdIs B W r v p a 0) (hp0 : 0 < p.length) (hl : p.length ≤ 100000000) :
    Calls Tryz.prog 103 #[.pointer (some ⟨r, 0, none⟩), .func (.func 104) #[] #[]] W fun e W' => ∃ vr, e = .returned vr ∧ W'.ownsRow B 5 1 vr (Ck.readB (p.drop a)).1.length (dkCells (Ck.readB (p.drop a)).1) ∧
      RdIs B W' r v p (a + (Ck.readB (p.drop a)).2.1) (Ck.readB (p.drop a)).2.2 ∧ Below B W W' := by
  obtain ⟨x0, x1, x2, z1, z2⟩ := h.cells
  obtain ⟨va, vc, rfl⟩ := h.rd.form
  obtain ⟨g, off, rfl, -, hcap⟩ := h.rd.some_of hp0
  have hale := h.le
  have HR := Lib.hid h
  have he := cd_entB
  have hBW : B ≤ W.heap.size := by
    have h1 := HR.out.hB
    have h2 := (Array.getElem?_eq_some_iff.1 HR.out.row).1
    omega
  have hrl := readB_le (p.drop a)
  rw [List.length_drop] at hrl
  have hre := readB_err (b := p.drop a)
  have nG : ∀ vx : Value, (∀ o, Below W.heap.size W o → RdB o o.heap.size vx (p.drop a)) → Hid (∀ o, Below W.heap.size W o → Calls Tryz.prog 104 #[vx] o fun e W' => ∃ v, e = .returned (.tuple #[v, .int .i64 (Ck.readB (p.drop a)).2.1, .int .i64 (Ck.readB (p.drop a)).2.2]) ∧ W'.ownsRow o.heap.size 5 1 v (Ck.readB (p.drop a)).1.length (dkCells (Ck.readB (p.drop a)).1) ∧ Below o.heap.size o W') :=
    fun vx hx => Lib.hid (fun o ho => cd_blobLit o vx _ (hx o ho) (by rw [List.length_drop]; omega))
  have hdk := fun o (ho : Below W.heap.size W o) => (((HR.out.rd.below ho).mono ho.size).dropK a hale)
  have nI : (vc = a → Hid (∀ o, Below W.heap.size W o → Calls Tryz.prog 104 #[.slice (some ⟨g, off, none⟩) (p.length - a) 0] o fun e W' => ∃ v, e = .returned (.tuple #[v, .int .i64 (Ck.readB (p.drop a)).2.1, .int .i64 (Ck.readB (p.drop a)).2.2]) ∧ W'.ownsRow o.heap.size 5 1 v (Ck.readB (p.drop a)).1.length (dkCells (Ck.readB (p.drop a)).1) ∧ Below o.heap.size o W')) ∧
      (¬ vc = a → Hid (∀ o, Below W.heap.size W o → Calls Tryz.prog 104 #[.slice (some ⟨g, off + a, none⟩) (p.length - a) (vc - a)] o fun e W' => ∃ v, e = .returned (.tuple #[v, .int .i64 (Ck.readB (p.drop a)).2.1, .int .i64 (Ck.readB (p.drop a)).2.2]) ∧ W'.ownsRow o.heap.size 5 1 v (Ck.readB (p.drop a)).1.length (dkCells (Ck.readB (p.drop a)).1) ∧ Below o.heap.size o W')) :=
    ⟨fun hc => nG _ (fun o ho => by have := hdk o ho; rw [if_pos hc] at this; exact this), fun hc => nG _ (fun o ho => by have := hdk o ho; rw [if_neg hc, Option.map_some, dk_add] at this; exact this)⟩
  generalize Ck.readB (p.drop a) = u at *
  obtain ⟨d, k, er⟩ := u
  simp only [] at hrl hre nI ⊢
  have HER := Lib.hid hre
  have hak : (a : Int) ≤ (p.length : Int) := by omega
  have hac : (a : Int) ≤ (vc : Int) := by omega
  clear h hre nG hdk
  by_cases hck : vc = a
  · have nJ := nI.1 hck
    clear nI
    go_enter Tryz.func103, Tryz.ntmps103
    go_upto_region 4 with fail
    go_region_held3 (fun w' => w'.cell? ⟨r, 0, none⟩ = some (.slice (some ⟨g, off, none⟩) p.length vc) ∧ w'.cell? ⟨r, 1, none⟩ = some (.int .i64 a))
      (first | assumption | (refine ⟨?_, ?_⟩ <;> first | assumption | go_keep) | go_keep)
      (first
        | (go_at_fn 104; refine (nJ.out _ (by first | exact Below.refl _ _ | exact (Below.refl _ _).drew)).mono ?_; rintro e w2 ⟨vr, rfl, o2, b2⟩; have hS2 := cd_S_step (by assumption) b2))
    have bd2 : Below W.heap.size W w2 := Below.trans (Below.drew (Below.refl W.heap.size W)) b2
    have hrl0 : r < W.heap.size := (Array.getElem?_eq_some_iff.1 HR.out.row).1
    have HR2 := Lib.hid (HR.out.below bd2)
    have HBD := Lib.hid (bd2.mono hBW)
    have HO : Hid (w2.ownsRow B 5 1 vr d.length (dkCells d)) := Lib.hid (owns_mono o2 hBW)
    have HOL : Hid (∀ b, vr.ownBlock = some b → b ≠ r) := Lib.hid (fun b hb e => by have h1 : W.heap.size ≤ b := (o2.lt b hb).1; omega)
    clear x0 x1 x2 z1 z2 nJ HR bd2 b2 o2 hS2 hrl0
    obtain ⟨x0, x1, x2, z1, z2⟩ := HR2.out.cells
    by_cases he0 : er = 0
    · subst he0
      obtain ⟨s, hs⟩ : ∃ s, s = a + k := ⟨_, rfl⟩
      have hsI : (a : Int) + (k : Int) = (s : Int) := by rw [hs]; rfl
      obtain ⟨g1, g2⟩ := HR2.out.goes s (by omega)
      have HG1 := Lib.hid g1
      have HG2 := Lib.hid (HBD.out.trans g2)
      have HS := Lib.hid hs
      have HOK : Hid ((w2.setCell ⟨r, 1, none⟩ (.int .i64 s)).ownsRow B 5 1 vr d.length (dkCells d)) := Lib.hid (own_keep HO.out (fun b hb => (wl_set w2 r 1 (.int .i64 s)).block b (HO.out.lt b hb).2 (fun e => HOL.out b hb (by cases e; rfl))))
      clear g1 g2 hs
      go_wp2_with fail
      go_ret
      rw [← HS.out]
      exact ⟨vr, rfl, HOK.out, HG1.out, HG2.out⟩
    · obtain ⟨rfl, rfl⟩ := HER.out he0
      obtain ⟨g1, g2⟩ := HR2.out.fails er
      have HG1 := Lib.hid g1
      have HG2 := Lib.hid (HBD.out.trans g2)
      clear g1 g2
      go_wp2_with fail
      go_ret
      first
        | exact ⟨_, rfl, World.ownsRow_nil _ _ _ _, HG1.out, HG2.out⟩
        | (have h1 := HG1.out; rw [hck] at h1; exact ⟨_, rfl, World.ownsRow_nil _ _ _ _, h1, HG2.out⟩)
  · have nJ := nI.2 hck
    clear nI
    go_enter Tryz.func103, Tryz.ntmps103
    go_upto_region 4 with fail
    go_region_held3 (fun w' => w'.cell? ⟨r, 0, none⟩ = some (.slice (some ⟨g, off, none⟩) p.length vc) ∧ w'.cell? ⟨r, 1, none⟩ = some (.int .i64 a))
      (first | assumption | (refine ⟨?_, ?_⟩ <;> first | assumption | go_keep) | go_keep)
      (first
        | (go_at_fn 104; refine (nJ.out _ (by first | exact Below.refl _ _ | exact (Below.refl _ _).drew)).mono ?_; rintro e w2 ⟨vr, rfl, o2, b2⟩; have hS2 := cd_S_step (by assumption) b2))
    have bd2 : Below W.heap.size W w2 := Below.trans (Below.drew (Below.refl W.heap.size W)) b2
    have hrl0 : r < W.heap.size := (Array.getElem?_eq_some_iff.1 HR.out.row).1
    have HR2 := Lib.hid (HR.out.below bd2)
    have HBD := Lib.hid (bd2.mono hBW)
    have HO : Hid (w2.ownsRow B 5 1 vr d.length (dkCells d)) := Lib.hid (owns_mono o2 hBW)
    have HOL : Hid (∀ b, vr.ownBlock = some b → b ≠ r) := Lib.hid (fun b hb e => by have h1 : W.heap.size ≤ b := (o2.lt b hb).1; omega)
    clear x0 x1 x2 z1 z2 nJ HR bd2 b2 o2 hS2 hrl0
    obtain ⟨x0, x1, x2, z1, z2⟩ := HR2.out.cells
    by_cases he0 : er = 0
    · subst he0
      obtain ⟨s, hs⟩ : ∃ s, s = a + k := ⟨_, rfl⟩
      have hsI : (a : Int) + (k : Int) = (s : Int) := by rw [hs]; rfl
      obtain ⟨g1, g2⟩ := HR2.out.goes s (by omega)
      have HG1 := Lib.hid g1
      have HG2 := Lib.hid (HBD.out.trans g2)
      have HS := Lib.hid hs
      have HOK : Hid ((w2.setCell ⟨r, 1, none⟩ (.int .i64 s)).ownsRow B 5 1 vr d.length (dkCells d)) := Lib.hid (own_keep HO.out (fun b hb => (wl_set w2 r 1 (.int .i64 s)).block b (HO.out.lt b hb).2 (fun e => HOL.out b hb (by cases e; rfl))))
      clear g1 g2 hs
      go_wp2_with fail
      go_ret
      rw [← HS.out]
      exact ⟨vr, rfl, HOK.out, HG1.out, HG2.out⟩
    · obtain ⟨rfl, rfl⟩ := HER.out he0
      obtain ⟨g1, g2⟩ := HR2.out.fails er
      have HG1 := Lib.hid g1
      have HG2 := Lib.hid (HBD.out.trans g2)
      clear g1 g2
      go_wp2_with fail
      go_ret
      first
        | exact ⟨_, rfl, World.ownsRow_nil _ _ _ _, HG1.out, HG2.out⟩
        | (have h1 := HG1.out; rw [hck] at h1; exact ⟨_, rfl, World.ownsRow_nil _ _ _ _, h1, HG2.out⟩)

theorem cd_rBlob {B : Nat} {W : World} {r : Nat} {v : Value} {p : Ck.Bs} {a : Nat} (h : RdIs B W r v p a 0) (hp0 : 0 < p.length) (hl : p.length ≤ 100000000) :
    Calls Tryz.prog 48 #[.pointer (some ⟨r, 0, none⟩)] W fun e W' => ∃ vr, e = .returned vr ∧ W'.ownsRow B 5 1 vr (Ck.readB (p.drop a)).1.length (dkCells (Ck.readB (p.drop a)).1) ∧
      RdIs B W' r v p (a + (Ck.readB (p.drop a)).2.1) (Ck.readB (p.drop a)).2.2 ∧ Below B W W' := by
  have n1 := cd_valueB h hp0 hl
  clear h
  go_enter Tryz.func48, Tryz.ntmps48
  go_wp2_with fail
  refine n1.mono ?_
  rintro e W1 ⟨vr, rfl, h0, h1, h2⟩
  have H0 := Lib.hid h0
  have H1 := Lib.hid h1
  have H2 := Lib.hid h2
  clear n1 h0 h1 h2
  go_wp2_with fail
  go_ret
  exact ⟨vr, rfl, H0.out, H1.out, H2.out⟩
/-- behind an error nothing is read -/
theorem cd_rBlob_err {B : Nat} {W : World} {r : Nat} {v : Value} {p : Ck.Bs} {a : Nat} {er : Int} (h : RdIs B W r v p a er) (her : er ≠ 0) :
    Calls Tryz.prog 48 #[.pointer (some ⟨r, 0, none⟩)] W fun e W' => e = .returned (.slice none 0 0) ∧ W = W' := by
  have n1 : Calls Tryz.prog 103 #[.pointer (some ⟨r, 0, none⟩), .func (.func 104) #[] #[]] W fun e W' => e = .returned (.slice none 0 0) ∧ W = W' := by
    obtain ⟨x0, x1, x2, z1, z2⟩ := h.cells
    clear h
    go_enter Tryz.func103, Tryz.ntmps103
    go_wp2_with fail
    go_ret
    exact ⟨rfl, rfl⟩
  clear h
  go_enter Tryz.func48, Tryz.ntmps48
  go_wp2_with fail
  refine n1.mono ?_
  rintro e W1 ⟨rfl, rfl⟩
  clear n1
  go_wp2_with fail
  go_ret
  exact ⟨rfl, rfl⟩

theorem cd_rErr {B : Nat} {W : World} {r : Nat} {v : Value} {p : Ck.Bs} {a : Nat} {er : Int} (h : RdIs B W r v p a er) :
    Calls Tryz.prog 105 #[.pointer (some ⟨r, 0, none⟩)] W fun e W' => e = .returned (.int .i64 er) ∧ W = W' := by
  obtain ⟨x0, x1, x2, z1, z2⟩ := h.cells
  clear h x0 x1 z1 z2
  go_enter Tryz.func105, Tryz.ntmps105
  go_wp2_with fail
  go_ret
  exact ⟨rfl, rfl⟩
theorem cd_rRest {B : Nat} {W : World} {r : Nat} {v : Value} {p : Ck.Bs} {a : Nat} {er : Int} (h : RdIs B W r v p a er) (hl : p.length ≤ 100000000) :
    Calls Tryz.prog 106 #[.pointer (some ⟨r, 0, none⟩)] W fun e W' => e = .returned (.int .i64 ((p.length - a : Nat) : Int)) ∧ Below W.heap.size W W' := by
  obtain ⟨x0, x1, x2, z1, z2⟩ := h.cells
  obtain ⟨va, vc, rfl⟩ := h.rd.form
  have hle := h.le
  obtain ⟨s, hs⟩ : ∃ s, s = p.length - a := ⟨_, rfl⟩
  have hsI : (p.length : Int) - (a : Int) = (s : Int) := by omega
  rw [← hs]
  clear h z1 z2 x2 hs
  go_enter Tryz.func106, Tryz.ntmps106
  go_upto_region 3 with fail
  go_quiet (fail)
  go_wp2_with fail
  go_ret
  exact ⟨rfl, dk_below_drewN (Below.refl _ _) nq⟩

end Go.Proofs.YtamencnachmhoaaGreatDoor
