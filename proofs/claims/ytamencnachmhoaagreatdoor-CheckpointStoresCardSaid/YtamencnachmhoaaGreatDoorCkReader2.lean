/-
  codec.Reader: value, Uint, Blob, End.
-/
import Derived.Test.YtamencnachmhoaaGreatDoorCkReader
namespace Go.Proofs.YtamencnachmhoaaGreatDoor
open Go.RowKit

/-- a reader of p at a place, with an error; all of it lies at B or above -/
structure RdIs (B : Nat) (W : World) (r : Nat) (v : Value) (p : Ck.Bs) (a : Nat) (e : Int) : Prop where
  row : W.heap[r]? = some (.cells #[v, .int .i64 a, .int .i64 e] 163 (0, 0))
  rd : RdB W W.heap.size v p
  ne : v.ownBlock ≠ some r
  hB : B ≤ r
  le : a ≤ p.length
theorem RdB.keep1 {W W' : World} {v : Value} {p : Dk.Bs} {r : Nat} (h : RdB W W.heap.size v p) (hne : v.ownBlock ≠ some r) (hs : W.heap.size ≤ W'.heap.size) (hb : ∀ b, b < W.heap.size → b ≠ r → W'.heap[b]? = W.heap[b]?) : RdB W' W'.heap.size v p := by
  rcases h with ⟨h0, h1⟩ | ⟨g, off, cap, hv, hc, hg, hgs, hx⟩
  · exact .inl ⟨h0, h1⟩
  · have hgr : g ≠ r := fun e => hne (by rw [hv, ← e]; rfl)
    refine .inr ⟨g, off, cap, hv, hc, by omega, by omega, fun j c hj => ?_⟩
    exact (World.cell?_of_block (a := ⟨g, off + j, none⟩) (hb g hgs hgr)).trans (hx j c hj)
theorem RdIs.below {B : Nat} {W W' : World} {r : Nat} {v : Value} {p : Ck.Bs} {a : Nat} {e : Int} (h : RdIs B W r v p a e) (hb : Below W.heap.size W W') : RdIs B W' r v p a e :=
  ⟨(hb.block r (Array.getElem?_eq_some_iff.1 h.row).1).trans h.row, (h.rd.below hb).mono hb.size, h.ne, h.hB, h.le⟩
/-- the place moves on -/
theorem RdIs.goes {B : Nat} {W : World} {r : Nat} {v : Value} {p : Ck.Bs} {a : Nat} {e : Int} (h : RdIs B W r v p a e) (a' : Nat) (hle : a' ≤ p.length) : RdIs B (W.setCell ⟨r, 1, none⟩ (.int .i64 a')) r v p a' e ∧ Below B W (W.setCell ⟨r, 1, none⟩ (.int .i64 a')) := by
  have r2 := dk_setCell W r 1 _ _ (.int .i64 (a' : Int)) h.row
  have g2 := wl_set W r 1 (.int .i64 (a' : Int))
  have hB := h.hB
  refine ⟨⟨by rw [r2]; simp, h.rd.keep1 h.ne g2.size (fun b hb hne => g2.block b hb (fun e => hne (by cases e; rfl))), h.ne, h.hB, hle⟩, g2.os, g2.tape, g2.output, g2.size, fun b hb => g2.block b (by have := (Array.getElem?_eq_some_iff.1 h.row).1; omega) (fun e => by cases e; omega)⟩
theorem RdIs.fails {B : Nat} {W : World} {r : Nat} {v : Value} {p : Ck.Bs} {a : Nat} {e : Int} (h : RdIs B W r v p a e) (e' : Int) : RdIs B (W.setCell ⟨r, 2, none⟩ (.int .i64 e')) r v p a e' ∧ Below B W (W.setCell ⟨r, 2, none⟩ (.int .i64 e')) := by
  have r2 := dk_setCell W r 2 _ _ (.int .i64 e') h.row
  have g2 := wl_set W r 2 (.int .i64 e')
  have hB := h.hB
  refine ⟨⟨by rw [r2]; simp, h.rd.keep1 h.ne g2.size (fun b hb hne => g2.block b hb (fun e => hne (by cases e; rfl))), h.ne, h.hB, h.le⟩, g2.os, g2.tape, g2.output, g2.size, fun b hb => g2.block b (by have := (Array.getElem?_eq_some_iff.1 h.row).1; omega) (fun e => by cases e; omega)⟩
theorem RdIs.cells {B : Nat} {W : World} {r : Nat} {v : Value} {p : Ck.Bs} {a : Nat} {e : Int} (h : RdIs B W r v p a e) :
    W.cell? ⟨r, 0, none⟩ = some v ∧ W.cell? ⟨r, 1, none⟩ = some (.int .i64 a) ∧ W.cell? ⟨r, 2, none⟩ = some (.int .i64 e) ∧ W.frozen? ⟨r, 1, none⟩ = false ∧ W.frozen? ⟨r, 2, none⟩ = false := by
  refine ⟨?_, ?_, ?_, dk_frozen _ _ _ _ _ h.row, dk_frozen _ _ _ _ _ h.row⟩ <;> rw [cell_of_row _ _ _ _ _ _ h.row] <;> rfl

theorem cd_NewReader (W : World) (bv : Value) (p : Ck.Bs) (hp : RdB W W.heap.size bv p) (hl : p.length ≤ 100000000) :
    Calls Tryz.prog 46 #[bv] W fun e W' => ∃ r v, e = .returned (.pointer (some ⟨r, 0, none⟩)) ∧ RdIs W.heap.size W' r v p 0 0 ∧ Below W.heap.size W W' := by
  have n1 := dk_cloneB bv p W hp (by omega)
  obtain ⟨a0, cap0, rfl⟩ := hp.form
  clear hp
  go_enter Tryz.func46, Tryz.ntmps46
  go_wp2_with fail
  refine n1.mono ?_
  rintro e W1 ⟨v1, rfl, o1, b1⟩
  have HO := Lib.hid o1
  have HB := Lib.hid b1
  obtain ⟨a1, c1, rfl⟩ := own_slice o1
  clear n1 o1 b1
  go_wp2_with fail
  go_ret
  have hb2 : Below W1.heap.size W1 (W1.alloc (.cells #[.slice a1 p.length c1, .int .i64 0, .int .i64 0] 163)) := (Below.refl _ _).alloc (Nat.le_refl _) _
  refine ⟨W1.heap.size, _, rfl, ⟨heap_alloc_new _ _, ((RdB.of_own HO.out).below hb2).mono hb2.size, fun e => ?_, HB.out.size, Nat.zero_le _⟩, HB.out.trans (hb2.mono HB.out.size)⟩
  have := (HO.out.lt _ e).2
  omega

theorem cd_ent : ∀ args w, (callFunc 102 args).run Tryz.prog w = .ok (.enter 102 args) w := enters_of Tryz.func102 (by kernel_rfl) rfl
theorem cd_entB : ∀ args w, (callFunc 104 args).run Tryz.prog w = .ok (.enter 104 args) w := enters_of Tryz.func104 (by kernel_rfl) rfl

theorem RdB.drop {W : World} {B : Nat} {a : Option Addr} {n cap : Nat} {l : Dk.Bs} (h : RdB W B (.slice a n cap) l) (k : Nat) (hk : k ≤ l.length) : ∀ a2, (a2 = a ∨ ∃ g off, a = some ⟨g, off, none⟩ ∧ a2 = some ⟨g, off + k, none⟩) → (k = 0 → a2 = a) → (∀ g off, a = some ⟨g, off, none⟩ → k < l.length → a2 = some ⟨g, off + k, none⟩) → RdB W B (.slice a2 (l.length - k) (cap - k)) (l.drop k) := by
  intro a2 _ _ h2
  rcases h with ⟨rfl, _⟩ | ⟨g, off, cap', hv, hc, hg, hgs, hx⟩
  · exact .inl ⟨by simp, a2, cap - k, by simp⟩
  · cases hv
    rcases Nat.lt_or_ge k l.length with hlt | hge
    · obtain rfl := h2 g off rfl hlt
      refine .inr ⟨g, off + k, cap - k, by rw [List.length_drop], by rw [List.length_drop]; omega, hg, hgs, fun j c hj => ?_⟩
      rw [List.getElem?_drop] at hj
      rw [Nat.add_assoc]
      exact hx (k + j) c hj
    · exact .inl ⟨List.drop_of_length_le hge, a2, cap - k, by simp [show l.length - k = 0 from by omega]⟩

theorem readF_err : ∀ (b : Ck.Bs) (i x : Nat), (Ck.readF i x b).2.2 ≠ 0 → (Ck.readF i x b).1 = 0 ∧ (Ck.readF i x b).2.1 = 0
  | [], _, _, _ => ⟨rfl, rfl⟩
  | c :: b, i, x, h => by
    rw [Ck.readF] at h ⊢
    split at h
    · rename_i h1; rw [if_pos h1]; exact ⟨rfl, rfl⟩
    · rename_i h1
      rw [if_neg h1]
      split at h
      · rename_i h2; rw [if_pos h2]; exact readF_err b _ _ h
      · rename_i h2
        rw [if_neg h2]
        split at h
        · rename_i h3; rw [if_pos h3]; exact ⟨rfl, rfl⟩
        · exact absurd rfl h
theorem readU_le (b : Ck.Bs) : (Ck.readU b).2.1 ≤ b.length := by
  by_cases h : (Ck.readU b).2.2 = 0
  · obtain ⟨v, m, e, hr⟩ : ∃ v m e, Ck.readU b = (v, m, e) := ⟨_, _, _, rfl⟩
    rw [hr] at h ⊢
    simp only [] at h ⊢
    subst h
    exact (Ck.readU_sound hr).2.2.1
  · have h0 : (Ck.readU b).2.1 = 0 := (readF_err b 0 0 h).2
    omega

set_option maxRecDepth 100000 in
set_option maxHeartbeats 1000000 in
theorem cd_valueU {B : Nat} {W : World} {r : Nat} {v : Value} {p : Ck.Bs} (h : RdIs B W r v p 0 0) (hl : p.length ≤ 100000000) :
    Calls Tryz.prog 101 #[.pointer (some ⟨r, 0, none⟩), .func (.func 102) #[] #[]] W fun e W' => e = .returned (.int .u64 (Ck.readU p).1) ∧ RdIs B W' r v p (Ck.readU p).2.1 (Ck.readU p).2.2 ∧ Below B W W' := by
  obtain ⟨x0, x1, x2, z1, z2⟩ := h.cells
  obtain ⟨va, vc, rfl⟩ := h.rd.form
  replace x1 : W.cell? ⟨r, 1, none⟩ = some (.int .i64 0) := x1
  have HR := Lib.hid h
  have he := cd_ent
  have hle := readU_le p
  have her : (Ck.readU p).2.2 ≠ 0 → (Ck.readU p).1 = 0 ∧ (Ck.readU p).2.1 = 0 := readF_err p 0 0
  have nI : Hid (∀ o, Below W.heap.size W o → Calls Tryz.prog 102 #[.slice va p.length vc] o fun e W' => e = .returned (.tuple #[.int .u64 (Ck.readU p).1, .int .i64 (Ck.readU p).2.1, .int .i64 (Ck.readU p).2.2]) ∧ o = W') :=
    Lib.hid (fun o ho => cd_integer o _ p ((HR.out.rd.below ho).mono ho.size) (by omega))
  generalize Ck.readU p = u at *
  obtain ⟨n, k, er⟩ := u
  simp only [] at her hle nI ⊢
  have HER := Lib.hid her
  clear h her
  go_enter Tryz.func101, Tryz.ntmps101
  go_upto_region 4 with fail
  go_region_held3 (fun w' => w'.cell? ⟨r, 0, none⟩ = some (.slice va p.length vc) ∧ w'.cell? ⟨r, 1, none⟩ = some (.int .i64 0))
    (first | assumption | (refine ⟨?_, ?_⟩ <;> first | assumption | go_keep) | go_keep)
    (first
      | (go_at_fn 102; refine (nI.out _ (by first | exact Below.refl _ _ | exact (Below.refl _ _).drew)).mono ?_; rintro e w2 ⟨rfl, rfl⟩))
  have bd : Below W.heap.size W W.drew := (Below.refl _ _).drew
  have HR2 := Lib.hid (HR.out.below bd)
  have hBW : B ≤ W.heap.size := by
    have h1 := HR.out.hB
    have h2 := (Array.getElem?_eq_some_iff.1 HR.out.row).1
    omega
  have HBD := Lib.hid (bd.mono hBW)
  clear x0 x1 x2 z1 z2 nI HR bd
  generalize W.drew = w3 at *
  obtain ⟨x0, x1, x2, z1, z2⟩ := HR2.out.cells
  replace x1 : w3.cell? ⟨r, 1, none⟩ = some (.int .i64 0) := x1
  by_cases he0 : er = 0
  · subst he0
    obtain ⟨g1, g2⟩ := HR2.out.goes k hle
    have HG1 := Lib.hid g1
    have HG2 := Lib.hid (HBD.out.trans g2)
    clear g1 g2
    go_wp2_with fail
    trace_state
    go_ret
    exact ⟨rfl, HG1.out, HG2.out⟩
  · obtain ⟨rfl, rfl⟩ := HER.out he0
    obtain ⟨g1, g2⟩ := HR2.out.fails er
    have HG1 := Lib.hid g1
    have HG2 := Lib.hid (HBD.out.trans g2)
    clear g1 g2
    go_wp2_with fail
    go_ret
    exact ⟨rfl, HG1.out, HG2.out⟩

theorem cd_rUint {B : Nat} {W : World} {r : Nat} {v : Value} {p : Ck.Bs} (h : RdIs B W r v p 0 0) (hl : p.length ≤ 100000000) :
    Calls Tryz.prog 47 #[.pointer (some ⟨r, 0, none⟩)] W fun e W' => e = .returned (.int .u64 (Ck.readU p).1) ∧ RdIs B W' r v p (Ck.readU p).2.1 (Ck.readU p).2.2 ∧ Below B W W' := by
  have n1 := cd_valueU h hl
  clear h
  go_enter Tryz.func47, Tryz.ntmps47
  go_wp2_with fail
  refine n1.mono ?_
  rintro e W1 ⟨rfl, h1, h2⟩
  have H1 := Lib.hid h1
  have H2 := Lib.hid h2
  clear n1 h1 h2
  go_wp2_with fail
  go_ret
  exact ⟨rfl, H1.out, H2.out⟩

end Go.Proofs.YtamencnachmhoaaGreatDoor
