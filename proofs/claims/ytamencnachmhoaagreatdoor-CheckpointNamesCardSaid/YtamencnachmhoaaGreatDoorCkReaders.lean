/-
  codec.Reader, as checkpoints use it.
  codec.Reader: value, Uint, Blob, End.
  codec.Reader: Blob, End.
-/
import Derived.Test.YtamencnachmhoaaGreatDoorCkWriter
import Derived.Test.YtamencnachmhoaaGreatDoorWlNext

namespace Go.Proofs.YtamencnachmhoaaGreatDoor
open Go.RowKit

theorem or_join (i x m : Nat) (hx : x < 128 ^ i) : x ||| m * 128 ^ i = x + m * 128 ^ i := by
  have e : 128 ^ i = 2 ^ (7 * i) := by rw [Nat.pow_mul]
  rw [e] at hx ⊢
  rw [Nat.or_comm, nat_join (7 * i) (m * 2 ^ (7 * i)) x (Nat.mul_mod_left _ _) hx, Nat.add_comm]
theorem pow8 : 127 * (128 : Nat) ^ 8 < 18446744073709551616 := by decide +kernel
theorem pow9 : (128 : Nat) ^ 9 < 18446744073709551616 := by decide +kernel
theorem sh_lt {i m : Nat} (hi : i ≤ 9) (hm : m < 128) (h9 : i = 9 → m ≤ 1) : m * 128 ^ i < 18446744073709551616 := by
  rcases Nat.lt_or_ge i 9 with h | h
  · have h2 : (128 : Nat) ^ i ≤ 128 ^ 8 := Nat.pow_le_pow_right (by decide) (by omega)
    exact Nat.lt_of_le_of_lt (Nat.mul_le_mul (by omega : m ≤ 127) h2) pow8
  · obtain rfl : i = 9 := by omega
    have h1 := h9 rfl
    rcases Nat.eq_zero_or_pos m with h0 | h0
    · rw [h0, Nat.zero_mul]; decide
    · obtain rfl : m = 1 := by omega
      rw [Nat.one_mul]; exact pow9
set_option maxRecDepth 100000 in
/-- one byte joins the number -/
theorem int_step {i x m : Nat} (hi : i ≤ 9) (hx : x < 128 ^ i) (hm : m < 128) (h9 : i = 9 → m ≤ 1) : bits .or .u64 (x : Int) ((m * 128 ^ i : Nat) : Int) = ((x + m * 128 ^ i : Nat) : Int) := by
  have h1 := sh_lt hi hm h9
  have h2 : (128 : Nat) ^ i ≤ 128 ^ 9 := Nat.pow_le_pow_right (by decide) hi
  rw [u64_or_nat _ _ (Nat.lt_trans (Nat.lt_of_lt_of_le hx h2) pow9) h1, or_join i x m hx]

theorem int_stepI {i x : Nat} {c : UInt8} (hi : i ≤ 9) (hx : x < 128 ^ i) (h9 : i = 9 → c.toNat ≤ 1) :
    bits .or .u64 (x : Int) (IntKind.u64.wrap ((c.toNat : Int) % 128 * 2 ^ (7 * i))) = ((x + c.toNat % 128 * 128 ^ i : Nat) : Int) := by
  have hm : c.toNat % 128 < 128 := Nat.mod_lt _ (by decide)
  have h9' : i = 9 → c.toNat % 128 ≤ 1 := fun h => by have := h9 h; omega
  have e : (c.toNat : Int) % 128 * 2 ^ (7 * i) = ((c.toNat % 128 * 128 ^ i : Nat) : Int) := by
    rw [Int.natCast_mul, Int.natCast_pow, Int.natCast_emod, Int.pow_mul]
    rfl
  rw [e, wrapU64 (sh_lt hi hm h9'), int_step hi hx hm h9']
theorem int_lt {i x m : Nat} (hx : x < 128 ^ i) (hm : m < 128) : x + m * 128 ^ i < 128 ^ (i + 1) := by
  rw [Nat.pow_succ, Nat.mul_comm (128 ^ i) 128]
  have : m * 128 ^ i ≤ 127 * 128 ^ i := Nat.mul_le_mul (by omega) (Nat.le_refl _)
  generalize 128 ^ i = z at *
  omega
theorem RdB.cellAt {W : World} {B : Nat} {a : Option Addr} {n cap : Nat} {l : Dk.Bs} (h : RdB W B (.slice a n cap) l) {i : Nat} {c : UInt8} (hc : l[i]? = some c) : ∃ g off, a = some ⟨g, off, none⟩ ∧ W.cell? ⟨g, off + i, none⟩ = some (.int .u8 c.toNat) := by
  rcases h with ⟨rfl, _⟩ | ⟨g, off, cap', hv, _, _, _, hx⟩
  · simp at hc
  · cases hv
    exact ⟨g, off, rfl, hx i c hc⟩

set_option maxRecDepth 100000 in
set_option maxHeartbeats 1000000 in
theorem cd_integer (W : World) (bv : Value) (b : Ck.Bs) (hb : RdB W W.heap.size bv b) (hl : b.length ≤ 1000000000) :
    Calls Tryz.prog 102 #[bv] W fun e W' => e = .returned (.tuple #[.int .u64 (Ck.readU b).1, .int .i64 (Ck.readU b).2.1, .int .i64 (Ck.readU b).2.2]) ∧ W = W' := by
  obtain ⟨a0, cap0, rfl⟩ := hb.form
  have HB := Lib.hid hb
  clear hb
  go_enter Tryz.func102, Tryz.ntmps102
  go_wp2_with fail
  go_loopw [5, 10] (fun xv iv wr => ∃ i x : Nat, iv = .int .i64 i ∧ xv = .int .u64 x ∧ i ≤ b.length ∧ i ≤ 9 ∧ Hid (x < 128 ^ i) ∧ Hid (Ck.readU b = Ck.readF i x (b.drop i)) ∧ wr = W) (fun _ iv _ => b.length - (RowKit.intOf iv).toNat)
  case atStart => exact ⟨0, 0, rfl, rfl, Nat.zero_le _, Nat.zero_le _, Lib.hid (by decide), Lib.hid (by rw [List.drop_zero]; rfl), rfl⟩
  case round =>
    obtain ⟨i, x, rfl, rfl, hi, hi9, HX, HR, rfl⟩ := hrel
    by_cases hlt : i < b.length
    · obtain ⟨c, hcd⟩ : ∃ c, b[i]? = some c := ⟨_, List.getElem?_eq_getElem hlt⟩
      obtain ⟨bg, boff, rfl, y0⟩ := HB.out.cellAt hcd
      have hc8 := c.toNat_lt
      have hdrop : b.drop i = c :: b.drop (i + 1) := by
        rw [List.drop_eq_getElem_cons hlt]
        congr 1
        exact Option.some.inj ((List.getElem?_eq_getElem hlt).symm.trans hcd)
      have hrd := HR.out
      rw [hdrop, Ck.readF] at hrd
      have HRD := Lib.hid hrd
      have hm128 : c.toNat % 128 < 128 := Nat.mod_lt _ (by decide)
      have ha127 : bits .and .u8 (c.toNat : Int) 127 = ((c.toNat % 128 : Nat) : Int) := and127 ⟨c.toNat, hc8⟩
      have ha128 : bits .and .u8 (c.toNat : Int) 128 = ((if c.toNat < 128 then 0 else 128 : Nat) : Int) := and128 ⟨c.toNat, hc8⟩
      clear hcd hdrop hrd
      by_cases h9 : i = 9 ∧ 1 < c.toNat
      · obtain ⟨h9e, hc1⟩ := h9
        have hb9 : ((i : Int) == 9) = true := by rw [h9e]; rfl
        have hc1I : (1 : Int) < (c.toNat : Int) := by omega
        have HQ : Hid (Ck.readU b = (0, 0, 2)) := Lib.hid (by rw [HRD.out, if_pos ⟨h9e, hc1⟩])
        clear ha127 ha128 h9e
        go_wp2_with fail
        go_ret3
        rw [HQ.out]
        exact ⟨rfl, rfl⟩
      · have h9' : i = 9 → c.toNat ≤ 1 := fun h => by
          rcases Nat.lt_or_ge 1 c.toNat with h1 | h1
          · exact absurd ⟨h, h1⟩ h9
          · exact h1
        obtain ⟨x2, hx2⟩ : ∃ x2, x2 = x + c.toNat % 128 * 128 ^ i := ⟨_, rfl⟩
        have hst := int_stepI hi9 HX.out h9'
        rw [← hx2] at hst
        have hlt2 : x2 < 128 ^ (i + 1) := by rw [hx2]; exact int_lt HX.out hm128
        obtain ⟨b9, hb9⟩ : ∃ b9, ((i : Int) == 9) = b9 := ⟨_, rfl⟩
        have hgd : b9 = true → ¬ (1 : Int) < (c.toNat : Int) := fun h => by
          rw [h] at hb9
          have : (i : Int) = 9 := by simpa using hb9
          have := h9' (by omega)
          omega
        have HX2 := Lib.hid hx2
        have HLT2 := Lib.hid hlt2
        have H9 := Lib.hid h9
        have H9' := Lib.hid h9'
        clear hx2 hlt2 h9 h9' hm128
        by_cases hcb : 128 ≤ c.toNat
        · have hc2 : ¬ c.toNat < 128 := by omega
          rw [if_neg hc2] at ha128
          have hr1 : Ck.readU b = Ck.readF (i + 1) x2 (b.drop (i + 1)) := by
            rw [HRD.out, if_neg H9.out, if_pos hcb, HX2.out]
            congr 3
            omega
          have HR1 := Lib.hid hr1
          have hi8 : i ≤ 8 := by
            have := H9'.out
            omega
          clear hr1 hc2 hcb
          cases b9 with
          | true =>
            have hc1 := hgd rfl
            clear hgd
            go_wp2_with fail
            refine ⟨⟨i + 1, x2, by go_num, rfl, by omega, by omega, HLT2, HR1, trivial⟩, by simp [RowKit.intOf] <;> omega⟩
          | false =>
            clear hgd
            go_wp2_with fail
            refine ⟨⟨i + 1, x2, by go_num, rfl, by omega, by omega, HLT2, HR1, trivial⟩, by simp [RowKit.intOf] <;> omega⟩
        · have hc2 : c.toNat < 128 := by omega
          rw [if_pos hc2] at ha128
          have hxx : x2 = x + c.toNat * 128 ^ i := by rw [HX2.out, Nat.mod_eq_of_lt hc2]
          have hr1 : Ck.readU b = if c.toNat = 0 ∧ 0 < i then (0, 0, 3) else (x2, i + 1, 0) := by
            rw [HRD.out, if_neg H9.out, if_neg hcb, hxx]
          have HR1 := Lib.hid hr1
          clear hr1 hcb hxx hc2
          by_cases h0 : c.toNat = 0
          · have h0I : ((c.toNat : Int) == 0) = true := by rw [h0]; rfl
            by_cases hp : 0 < i
            · have hpI : (0 : Int) < (i : Int) := by omega
              have HQ : Hid (Ck.readU b = (0, 0, 3)) := Lib.hid (by rw [HR1.out, if_pos ⟨h0, hp⟩])
              clear h0
              cases b9 with
              | true =>
                have hc1 := hgd rfl
                clear hgd
                go_wp2_with fail
                go_ret3
                rw [HQ.out]
                exact ⟨rfl, rfl⟩
              | false =>
                clear hgd
                go_wp2_with fail
                go_ret3
                rw [HQ.out]
                exact ⟨rfl, rfl⟩
            · have hpI : ¬ (0 : Int) < (i : Int) := by omega
              have HQ : Hid (Ck.readU b = (x2, i + 1, 0)) := Lib.hid (by rw [HR1.out, if_neg (fun h => hp h.2)])
              clear h0
              cases b9 with
              | true =>
                have hc1 := hgd rfl
                clear hgd
                go_wp2_with fail
                go_ret3
                rw [HQ.out]
                exact ⟨rfl, rfl⟩
              | false =>
                clear hgd
                go_wp2_with fail
                go_ret3
                rw [HQ.out]
                exact ⟨rfl, rfl⟩
          · have h0I : ((c.toNat : Int) == 0) = false := by simpa using h0
            have HQ : Hid (Ck.readU b = (x2, i + 1, 0)) := Lib.hid (by rw [HR1.out, if_neg (fun h => h0 h.1)])
            clear h0
            cases b9 with
            | true =>
              have hc1 := hgd rfl
              clear hgd
              go_wp2_with fail
              go_ret3
              rw [HQ.out]
              exact ⟨rfl, rfl⟩
            | false =>
              clear hgd
              go_wp2_with fail
              go_ret3
              rw [HQ.out]
              exact ⟨rfl, rfl⟩
    · have hie : i = b.length := by omega
      have HQ : Hid (Ck.readU b = (0, 0, 19)) := Lib.hid (by rw [HR.out, List.drop_of_length_le (by omega)]; rfl)
      have hltI : ¬ (i : Int) < (b.length : Int) := by omega
      go_wp2_with fail
      go_ret3
      rw [HQ.out]
      exact ⟨rfl, rfl⟩

end Go.Proofs.YtamencnachmhoaaGreatDoor

namespace Go.Proofs.YtamencnachmhoaaGreatDoor
open Go.RowKit

/-- a reader of p at a place, with an error; all of it lies at B or above -/
structure RdIs (B : Nat) (W : World) (r : Nat) (v : Value) (p : Ck.Bs) (a : Nat) (e : Int) : Prop where
  row : W.heap[r]? = some (.cells #[v, .int .i64 a, .int .i64 e] 163 (0, 0))
  rd : RdB W W.heap.size v p
  ne : v.ownBlock ≠ some r
  hB : B ≤ r
  le : a ≤ p.length
theorem RdB.keep1 {W W' : World} {v : Value} {p : Dk.Bs} {r : Nat} (h : RdB W W.heap.size v p) (hne : v.ownBlock ≠ some r) (hs : W.heap.size ≤ W'.heap.size) (hb : ∀ b, b < W.heap.size → b ≠ r → W'.heap[b]? = W.heap[b]?) : RdB W' W'.heap.size v p := by
  rcases h with ⟨h0, h1⟩ | ⟨g, off, cap, hv, hc, hg, hgs, hx⟩
  · exact .inl ⟨h0, h1⟩
  · have hgr : g ≠ r := fun e => hne (by rw [hv, ← e]; rfl)
    refine .inr ⟨g, off, cap, hv, hc, by omega, by omega, fun j c hj => ?_⟩
    exact (World.cell?_of_block (a := ⟨g, off + j, none⟩) (hb g hgs hgr)).trans (hx j c hj)
theorem RdIs.below {B : Nat} {W W' : World} {r : Nat} {v : Value} {p : Ck.Bs} {a : Nat} {e : Int} (h : RdIs B W r v p a e) (hb : Below W.heap.size W W') : RdIs B W' r v p a e :=
  ⟨(hb.block r (Array.getElem?_eq_some_iff.1 h.row).1).trans h.row, (h.rd.below hb).mono hb.size, h.ne, h.hB, h.le⟩
/-- the place moves on -/
theorem RdIs.goes {B : Nat} {W : World} {r : Nat} {v : Value} {p : Ck.Bs} {a : Nat} {e : Int} (h : RdIs B W r v p a e) (a' : Nat) (hle : a' ≤ p.length) : RdIs B (W.setCell ⟨r, 1, none⟩ (.int .i64 a')) r v p a' e ∧ Below B W (W.setCell ⟨r, 1, none⟩ (.int .i64 a')) := by
  have r2 := dk_setCell W r 1 _ _ (.int .i64 (a' : Int)) h.row
  have g2 := wl_set W r 1 (.int .i64 (a' : Int))
  have hB := h.hB
  refine ⟨⟨by rw [r2]; simp, h.rd.keep1 h.ne g2.size (fun b hb hne => g2.block b hb (fun e => hne (by cases e; rfl))), h.ne, h.hB, hle⟩, g2.os, g2.tape, g2.output, g2.size, fun b hb => g2.block b (by have := (Array.getElem?_eq_some_iff.1 h.row).1; omega) (fun e => by cases e; omega)⟩
theorem RdIs.fails {B : Nat} {W : World} {r : Nat} {v : Value} {p : Ck.Bs} {a : Nat} {e : Int} (h : RdIs B W r v p a e) (e' : Int) : RdIs B (W.setCell ⟨r, 2, none⟩ (.int .i64 e')) r v p a e' ∧ Below B W (W.setCell ⟨r, 2, none⟩ (.int .i64 e')) := by
  have r2 := dk_setCell W r 2 _ _ (.int .i64 e') h.row
  have g2 := wl_set W r 2 (.int .i64 e')
  have hB := h.hB
  refine ⟨⟨by rw [r2]; simp, h.rd.keep1 h.ne g2.size (fun b hb hne => g2.block b hb (fun e => hne (by cases e; rfl))), h.ne, h.hB, h.le⟩, g2.os, g2.tape, g2.output, g2.size, fun b hb => g2.block b (by have := (Array.getElem?_eq_some_iff.1 h.row).1; omega) (fun e => by cases e; omega)⟩
theorem RdIs.cells {B : Nat} {W : World} {r : Nat} {v : Value} {p : Ck.Bs} {a : Nat} {e : Int} (h : RdIs B W r v p a e) :
    W.cell? ⟨r, 0, none⟩ = some v ∧ W.cell? ⟨r, 1, none⟩ = some (.int .i64 a) ∧ W.cell? ⟨r, 2, none⟩ = some (.int .i64 e) ∧ W.frozen? ⟨r, 1, none⟩ = false ∧ W.frozen? ⟨r, 2, none⟩ = false := by
  refine ⟨?_, ?_, ?_, dk_frozen _ _ _ _ _ h.row, dk_frozen _ _ _ _ _ h.row⟩ <;> rw [cell_of_row _ _ _ _ _ _ h.row] <;> rfl

theorem cd_NewReader (W : World) (bv : Value) (p : Ck.Bs) (hp : RdB W W.heap.size bv p) (hl : p.length ≤ 100000000) :
    Calls Tryz.prog 46 #[bv] W fun e W' => ∃ r v, e = .returned (.pointer (some ⟨r, 0, none⟩)) ∧ RdIs W.heap.size W' r v p 0 0 ∧ Below W.heap.size W W' := by
  have n1 := dk_cloneB bv p W hp (by omega)
  obtain ⟨a0, cap0, rfl⟩ := hp.form
  clear hp
  go_enter Tryz.func46, Tryz.ntmps46
  go_wp2_with fail
  refine n1.mono ?_
  rintro e W1 ⟨v1, rfl, o1, b1⟩
  have HO := Lib.hid o1
  have HB := Lib.hid b1
  obtain ⟨a1, c1, rfl⟩ := own_slice o1
  clear n1 o1 b1
  go_wp2_with fail
  go_ret
  have hb2 : Below W1.heap.size W1 (W1.alloc (.cells #[.slice a1 p.length c1, .int .i64 0, .int .i64 0] 163)) := (Below.refl _ _).alloc (Nat.le_refl _) _
  refine ⟨W1.heap.size, _, rfl, ⟨heap_alloc_new _ _, ((RdB.of_own HO.out).below hb2).mono hb2.size, fun e => ?_, HB.out.size, Nat.zero_le _⟩, HB.out.trans (hb2.mono HB.out.size)⟩
  have := (HO.out.lt _ e).2
  omega

theorem cd_ent : ∀ args w, (callFunc 102 args).run Tryz.prog w = .ok (.enter 102 args) w := enters_of Tryz.func102 (by kernel_rfl) rfl
theorem cd_entB : ∀ args w, (callFunc 104 args).run Tryz.prog w = .ok (.enter 104 args) w := enters_of Tryz.func104 (by kernel_rfl) rfl

theorem RdB.drop {W : World} {B : Nat} {a : Option Addr} {n cap : Nat} {l : Dk.Bs} (h : RdB W B (.slice a n cap) l) (k : Nat) (hk : k ≤ l.length) : ∀ a2, (a2 = a ∨ ∃ g off, a = some ⟨g, off, none⟩ ∧ a2 = some ⟨g, off + k, none⟩) → (k = 0 → a2 = a) → (∀ g off, a = some ⟨g, off, none⟩ → k < l.length → a2 = some ⟨g, off + k, none⟩) → RdB W B (.slice a2 (l.length - k) (cap - k)) (l.drop k) := by
  intro a2 _ _ h2
  rcases h with ⟨rfl, _⟩ | ⟨g, off, cap', hv, hc, hg, hgs, hx⟩
  · exact .inl ⟨by simp, a2, cap - k, by simp⟩
  · cases hv
    rcases Nat.lt_or_ge k l.length with hlt | hge
    · obtain rfl := h2 g off rfl hlt
      refine .inr ⟨g, off + k, cap - k, by rw [List.length_drop], by rw [List.length_drop]; omega, hg, hgs, fun j c hj => ?_⟩
      rw [List.getElem?_drop] at hj
      rw [Nat.add_assoc]
      exact hx (k + j) c hj
    · exact .inl ⟨List.drop_of_length_le hge, a2, cap - k, by simp [show l.length - k = 0 from by omega]⟩

theorem readF_err : ∀ (b : Ck.Bs) (i x : Nat), (Ck.readF i x b).2.2 ≠ 0 → (Ck.readF i x b).1 = 0 ∧ (Ck.readF i x b).2.1 = 0
  | [], _, _, _ => ⟨rfl, rfl⟩
  | c :: b, i, x, h => by
    rw [Ck.readF] at h ⊢
    split at h
    · rename_i h1; rw [if_pos h1]; exact ⟨rfl, rfl⟩
    · rename_i h1
      rw [if_neg h1]
      split at h
      · rename_i h2; rw [if_pos h2]; exact readF_err b _ _ h
      · rename_i h2
        rw [if_neg h2]
        split at h
        · rename_i h3; rw [if_pos h3]; exact ⟨rfl, rfl⟩
        · exact absurd rfl h
theorem readU_le (b : Ck.Bs) : (Ck.readU b).2.1 ≤ b.length := by
  by_cases h : (Ck.readU b).2.2 = 0
  · obtain ⟨v, m, e, hr⟩ : ∃ v m e, Ck.readU b = (v, m, e) := ⟨_, _, _, rfl⟩
    rw [hr] at h ⊢
    simp only [] at h ⊢
    subst h
    exact (Ck.readU_sound hr).2.2.1
  · have h0 : (Ck.readU b).2.1 = 0 := (readF_err b 0 0 h).2
    omega

set_option maxRecDepth 100000 in
set_option maxHeartbeats 1000000 in
theorem cd_valueU {B : Nat} {W : World} {r : Nat} {v : Value} {p : Ck.Bs} (h : RdIs B W r v p 0 0) (hl : p.length ≤ 100000000) :
    Calls Tryz.prog 101 #[.pointer (some ⟨r, 0, none⟩), .func (.func 102) #[] #[]] W fun e W' => e = .returned (.int .u64 (Ck.readU p).1) ∧ RdIs B W' r v p (Ck.readU p).2.1 (Ck.readU p).2.2 ∧ Below B W W' := by
  obtain ⟨x0, x1, x2, z1, z2⟩ := h.cells
  obtain ⟨va, vc, rfl⟩ := h.rd.form
  replace x1 : W.cell? ⟨r, 1, none⟩ = some (.int .i64 0) := x1
  have HR := Lib.hid h
  have he := cd_ent
  have hle := readU_le p
  have her : (Ck.readU p).2.2 ≠ 0 → (Ck.readU p).1 = 0 ∧ (Ck.readU p).2.1 = 0 := readF_err p 0 0
  have nI : Hid (∀ o, Below W.heap.size W o → Calls Tryz.prog 102 #[.slice va p.length vc] o fun e W' => e = .returned (.tuple #[.int .u64 (Ck.readU p).1, .int .i64 (Ck.readU p).2.1, .int .i64 (Ck.readU p).2.2]) ∧ o = W') :=
    Lib.hid (fun o ho => cd_integer o _ p ((HR.out.rd.below ho).mono ho.size) (by omega))
  generalize Ck.readU p = u at *
  obtain ⟨n, k, er⟩ := u
  simp only [] at her hle nI ⊢
  have HER := Lib.hid her
  clear h her
  go_enter Tryz.func101, Tryz.ntmps101
  go_upto_region 4 with fail
  go_region_held3 (fun w' => w'.cell? ⟨r, 0, none⟩ = some (.slice va p.length vc) ∧ w'.cell? ⟨r, 1, none⟩ = some (.int .i64 0))
    (first | assumption | (refine ⟨?_, ?_⟩ <;> first | assumption | go_keep) | go_keep)
    (first
      | (go_at_fn 102; refine (nI.out _ (by first | exact Below.refl _ _ | exact (Below.refl _ _).drew)).mono ?_; rintro e w2 ⟨rfl, rfl⟩))
  have bd : Below W.heap.size W W.drew := (Below.refl _ _).drew
  have HR2 := Lib.hid (HR.out.below bd)
  have hBW : B ≤ W.heap.size := by
    have h1 := HR.out.hB
    have h2 := (Array.getElem?_eq_some_iff.1 HR.out.row).1
    omega
  have HBD := Lib.hid (bd.mono hBW)
  clear x0 x1 x2 z1 z2 nI HR bd
  generalize W.drew = w3 at *
  obtain ⟨x0, x1, x2, z1, z2⟩ := HR2.out.cells
  replace x1 : w3.cell? ⟨r, 1, none⟩ = some (.int .i64 0) := x1
  by_cases he0 : er = 0
  · subst he0
    obtain ⟨g1, g2⟩ := HR2.out.goes k hle
    have HG1 := Lib.hid g1
    have HG2 := Lib.hid (HBD.out.trans g2)
    clear g1 g2
    go_wp2_with fail
    trace_state
    go_ret
    exact ⟨rfl, HG1.out, HG2.out⟩
  · obtain ⟨rfl, rfl⟩ := HER.out he0
    obtain ⟨g1, g2⟩ := HR2.out.fails er
    have HG1 := Lib.hid g1
    have HG2 := Lib.hid (HBD.out.trans g2)
    clear g1 g2
    go_wp2_with fail
    go_ret
    exact ⟨rfl, HG1.out, HG2.out⟩

theorem cd_rUint {B : Nat} {W : World} {r : Nat} {v : Value} {p : Ck.Bs} (h : RdIs B W r v p 0 0) (hl : p.length ≤ 100000000) :
    Calls Tryz.prog 47 #[.pointer (some ⟨r, 0, none⟩)] W fun e W' => e = .returned (.int .u64 (Ck.readU p).1) ∧ RdIs B W' r v p (Ck.readU p).2.1 (Ck.readU p).2.2 ∧ Below B W W' := by
  have n1 := cd_valueU h hl
  clear h
  go_enter Tryz.func47, Tryz.ntmps47
  go_wp2_with fail
  refine n1.mono ?_
  rintro e W1 ⟨rfl, h1, h2⟩
  have H1 := Lib.hid h1
  have H2 := Lib.hid h2
  clear n1 h1 h2
  go_wp2_with fail
  go_ret
  exact ⟨rfl, H1.out, H2.out⟩

end Go.Proofs.YtamencnachmhoaaGreatDoor

namespace Go.Proofs.YtamencnachmhoaaGreatDoor
open Go.RowKit

theorem RdB.some_of {W : World} {B : Nat} {a : Option Addr} {n cap : Nat} {l : Dk.Bs} (h : RdB W B (.slice a n cap) l) (hl : 0 < l.length) : ∃ g off, a = some ⟨g, off, none⟩ ∧ n = l.length ∧ l.length ≤ cap := by
  rcases h with ⟨rfl, _⟩ | ⟨g, off, cap', hv, hc, _, _, _⟩
  · simp at hl
  · cases hv
    exact ⟨g, off, rfl, rfl, hc⟩

set_option maxRecDepth 100000 in
set_option maxHeartbeats 1000000 in
theorem cd_blobLit (W : World) (bv : Value) (b : Ck.Bs) (hb : RdB W W.heap.size bv b) (hl : b.length ≤ 100000000) :
    Calls Tryz.prog 104 #[bv] W fun e W' => ∃ v, e = .returned (.tuple #[v, .int .i64 (Ck.readB b).2.1, .int .i64 (Ck.readB b).2.2]) ∧ W'.ownsRow W.heap.size 5 1 v (Ck.readB b).1.length (dkCells (Ck.readB b).1) ∧ Below W.heap.size W W' := by
  have n1 := cd_integer W bv b hb (by omega)
  obtain ⟨a0, cap0, rfl⟩ := hb.form
  have hle := readU_le b
  have hso : (Ck.readU b).2.2 = 0 → 0 < (Ck.readU b).2.1 := fun h => by
    obtain ⟨v, m, e, hr⟩ : ∃ v m e, Ck.readU b = (v, m, e) := ⟨_, _, _, rfl⟩
    rw [hr] at h ⊢
    simp only [] at h ⊢
    subst h
    exact (Ck.readU_sound hr).2.1
  have HB := Lib.hid hb
  have HRB : Hid (Ck.readB b = if (Ck.readU b).2.2 ≠ 0 then ([], 0, (Ck.readU b).2.2) else if 1048576 < (Ck.readU b).1 then ([], 0, 5) else if b.length - (Ck.readU b).2.1 < (Ck.readU b).1 then ([], 0, 19) else ((b.drop (Ck.readU b).2.1).take (Ck.readU b).1, (Ck.readU b).2.1 + (Ck.readU b).1, 0)) := Lib.hid rfl
  generalize Ck.readU b = u at *
  obtain ⟨n, k, er⟩ := u
  simp only [] at n1 hle hso HRB
  have HSO := Lib.hid hso
  clear hb hso
  go_enter Tryz.func104, Tryz.ntmps104
  go_wp2_with fail
  refine n1.mono ?_
  rintro e W1 ⟨rfl, rfl⟩
  clear n1
  by_cases he : er = 0
  · subst he
    by_cases hbig : 1048576 < n
    · have hbI : (1048576 : Int) < (n : Int) := by omega
      have HQ : Hid (Ck.readB b = ([], 0, 5)) := Lib.hid (by rw [HRB.out, if_neg (by simp), if_pos hbig])
      go_wp2_with fail
      go_ret3
      rw [HQ.out]
      exact ⟨_, rfl, World.ownsRow_nil _ _ _ _, Below.refl _ _⟩
    · have hbI : ¬ (1048576 : Int) < (n : Int) := by omega
      obtain ⟨rest, hrest⟩ : ∃ rest, rest = b.length - k := ⟨_, rfl⟩
      have hsub : (b.length : Int) - (k : Int) = (rest : Int) := by omega
      have hw := wrapU64 (n := rest) (by omega)
      by_cases hsh : rest < n
      · have hsI : (rest : Int) < (n : Int) := by omega
        have HQ : Hid (Ck.readB b = ([], 0, 19)) := Lib.hid (by rw [HRB.out, if_neg (by simp), if_neg hbig, ← hrest, if_pos hsh])
        clear hrest
        go_wp2_with fail
        go_ret3
        rw [HQ.out]
        exact ⟨_, rfl, World.ownsRow_nil _ _ _ _, Below.refl _ _⟩
      · have hsI : ¬ (rest : Int) < (n : Int) := by omega
        have HQ : Hid (Ck.readB b = ((b.drop k).take n, k + n, 0)) := Lib.hid (by rw [HRB.out, if_neg (by simp), if_neg hbig, ← hrest, if_neg hsh])
        have hk0 := HSO.out rfl
        have hbl : 0 < b.length := by omega
        obtain ⟨g, off, rfl, -, hcap⟩ := HB.out.some_of hbl
        obtain ⟨en, hen⟩ : ∃ en, en = k + n := ⟨_, rfl⟩
        have henI : (k : Int) + (n : Int) = (en : Int) := by omega
        have i1 : (k : Int) ≤ (en : Int) := by omega
        have i2 : (en : Int) ≤ (cap0 : Int) := by omega
        have hnk : en - k = n := by omega
        have hpart := HB.out.part k n (by omega) hbl
        have hpl : ((b.drop k).take n).length = n := by rw [List.length_take, List.length_drop]; omega
        have HEN := Lib.hid hen
        have HPL := Lib.hid hpl
        have HPA := Lib.hid hpart.1
        clear hrest hpart hen hpl
        by_cases hck : cap0 = k
        · have hn0 : n = 0 := by omega
          have hemp : RdB W W.heap.size (.slice (some ⟨g, off, none⟩) n 0) ((b.drop k).take n) := by rw [hn0]; exact .inl ⟨by simp, _, _, rfl⟩
          have n2 := dk_cloneB _ _ W hemp (by rw [HPL.out]; omega)
          clear hn0 hemp
          go_wp2_with fail
          refine n2.mono ?_
          rintro e W2 ⟨v2, rfl, o2, b2⟩
          have HO := Lib.hid o2
          have HB2 := Lib.hid b2
          clear n2 o2 b2
          go_wp2_with fail
          go_ret3
          rw [HQ.out]
          exact ⟨v2, by rw [HEN.out]; rfl, HO.out, HB2.out⟩
        · have n2 := dk_cloneB _ _ W HPA.out (by rw [HPL.out]; omega)
          go_wp2_with fail
          refine n2.mono ?_
          rintro e W2 ⟨v2, rfl, o2, b2⟩
          have HO := Lib.hid o2
          have HB2 := Lib.hid b2
          clear n2 o2 b2
          go_wp2_with fail
          go_ret3
          rw [HQ.out]
          exact ⟨v2, by rw [HEN.out]; rfl, HO.out, HB2.out⟩
  · have HQ : Hid (Ck.readB b = ([], 0, er)) := Lib.hid (by rw [HRB.out, if_pos he])
    go_wp2_with fail
    go_ret3
    rw [HQ.out]
    exact ⟨_, rfl, World.ownsRow_nil _ _ _ _, Below.refl _ _⟩

theorem RdB.dropK {W : World} {B : Nat} {a : Option Addr} {n cap : Nat} {l : Dk.Bs} (h : RdB W B (.slice a n cap) l) (k : Nat) (hk : k ≤ l.length) : RdB W B (if cap = k then .slice a (l.length - k) 0 else .slice (a.map fun x => x.add k) (l.length - k) (cap - k)) (l.drop k) := by
  rcases h with ⟨rfl, a2, c2, hv⟩ | ⟨g, off, cap', hv, hc, hg, hgs, hx⟩
  · have h0 : k = 0 := by simpa using hk
    subst h0
    split
    · exact .inl ⟨by simp, _, _, rfl⟩
    · exact .inl ⟨by simp, _, _, rfl⟩
  · cases hv
    split
    · exact .inl ⟨List.drop_of_length_le (by omega), _, _, by rw [show l.length - k = 0 from by omega]⟩
    · refine .inr ⟨g, off + k, cap - k, by rw [List.length_drop]; simp [Addr.add], by rw [List.length_drop]; omega, hg, hgs, fun j c hj => ?_⟩
      rw [List.getElem?_drop] at hj
      rw [Nat.add_assoc]
      exact hx (k + j) c hj

theorem cd_S_step {w w3 : World} {r : Nat} {x0 x1 : Value} (H : w.cell? ⟨r, 0, none⟩ = some x0 ∧ w.cell? ⟨r, 1, none⟩ = some x1) (hb : Below w.heap.size w w3) : w3.cell? ⟨r, 0, none⟩ = some x0 ∧ w3.cell? ⟨r, 1, none⟩ = some x1 :=
  ⟨(hb.cell (World.block_lt_of_cell? w _ H.1)).trans H.1, (hb.cell (World.block_lt_of_cell? w _ H.2)).trans H.2⟩
theorem readB_le (b : Ck.Bs) : (Ck.readB b).2.1 ≤ b.length := by
  by_cases h : (Ck.readB b).2.2 = 0
  · obtain ⟨v, m, e, hr⟩ : ∃ v m e, Ck.readB b = (v, m, e) := ⟨_, _, _, rfl⟩
    rw [hr] at h ⊢
    simp only [] at h ⊢
    subst h
    exact (Ck.readB_sound hr).2
  · unfold Ck.readB at h ⊢
    repeat' split at h
    all_goals first | (rename_i h1; rw [if_pos h1]; exact Nat.zero_le _) | skip
    all_goals first | (rename_i h1 h2; rw [if_neg h1, if_pos h2]; exact Nat.zero_le _) | skip
    all_goals first | (rename_i h1 h2 h3; rw [if_neg h1, if_neg h2, if_pos h3]; exact Nat.zero_le _) | exact absurd rfl h
theorem readB_err {b : Ck.Bs} : (Ck.readB b).2.2 ≠ 0 → (Ck.readB b).1 = [] ∧ (Ck.readB b).2.1 = 0 := by
  unfold Ck.readB
  repeat' split
  all_goals first | exact fun _ => ⟨rfl, rfl⟩ | exact fun h => absurd rfl h

set_option maxRecDepth 100000 in
set_option maxHeartbeats 1000000 in
theorem cd_valueB {B : Nat} {W : World} {r : Nat} {v : Value} {p : Ck.Bs} {a : Nat} (h : RdIs B W r v p a 0) (hp0 : 0 < p.length) (hl : p.length ≤ 100000000) :
    Calls Tryz.prog 103 #[.pointer (some ⟨r, 0, none⟩), .func (.func 104) #[] #[]] W fun e W' => ∃ vr, e = .returned vr ∧ W'.ownsRow B 5 1 vr (Ck.readB (p.drop a)).1.length (dkCells (Ck.readB (p.drop a)).1) ∧
      RdIs B W' r v p (a + (Ck.readB (p.drop a)).2.1) (Ck.readB (p.drop a)).2.2 ∧ Below B W W' := by
  obtain ⟨x0, x1, x2, z1, z2⟩ := h.cells
  obtain ⟨va, vc, rfl⟩ := h.rd.form
  obtain ⟨g, off, rfl, -, hcap⟩ := h.rd.some_of hp0
  have hale := h.le
  have HR := Lib.hid h
  have he := cd_entB
  have hBW : B ≤ W.heap.size := by
    have h1 := HR.out.hB
    have h2 := (Array.getElem?_eq_some_iff.1 HR.out.row).1
    omega
  have hrl := readB_le (p.drop a)
  rw [List.length_drop] at hrl
  have hre := readB_err (b := p.drop a)
  have nG : ∀ vx : Value, (∀ o, Below W.heap.size W o → RdB o o.heap.size vx (p.drop a)) → Hid (∀ o, Below W.heap.size W o → Calls Tryz.prog 104 #[vx] o fun e W' => ∃ v, e = .returned (.tuple #[v, .int .i64 (Ck.readB (p.drop a)).2.1, .int .i64 (Ck.readB (p.drop a)).2.2]) ∧ W'.ownsRow o.heap.size 5 1 v (Ck.readB (p.drop a)).1.length (dkCells (Ck.readB (p.drop a)).1) ∧ Below o.heap.size o W') :=
    fun vx hx => Lib.hid (fun o ho => cd_blobLit o vx _ (hx o ho) (by rw [List.length_drop]; omega))
  have hdk := fun o (ho : Below W.heap.size W o) => (((HR.out.rd.below ho).mono ho.size).dropK a hale)
  have nI : (vc = a → Hid (∀ o, Below W.heap.size W o → Calls Tryz.prog 104 #[.slice (some ⟨g, off, none⟩) (p.length - a) 0] o fun e W' => ∃ v, e = .returned (.tuple #[v, .int .i64 (Ck.readB (p.drop a)).2.1, .int .i64 (Ck.readB (p.drop a)).2.2]) ∧ W'.ownsRow o.heap.size 5 1 v (Ck.readB (p.drop a)).1.length (dkCells (Ck.readB (p.drop a)).1) ∧ Below o.heap.size o W')) ∧
      (¬ vc = a → Hid (∀ o, Below W.heap.size W o → Calls Tryz.prog 104 #[.slice (some ⟨g, off + a, none⟩) (p.length - a) (vc - a)] o fun e W' => ∃ v, e = .returned (.tuple #[v, .int .i64 (Ck.readB (p.drop a)).2.1, .int .i64 (Ck.readB (p.drop a)).2.2]) ∧ W'.ownsRow o.heap.size 5 1 v (Ck.readB (p.drop a)).1.length (dkCells (Ck.readB (p.drop a)).1) ∧ Below o.heap.size o W')) :=
    ⟨fun hc => nG _ (fun o ho => by have := hdk o ho; rw [if_pos hc] at this; exact this), fun hc => nG _ (fun o ho => by have := hdk o ho; rw [if_neg hc, Option.map_some, dk_add] at this; exact this)⟩
  generalize Ck.readB (p.drop a) = u at *
  obtain ⟨d, k, er⟩ := u
  simp only [] at hrl hre nI ⊢
  have HER := Lib.hid hre
  have hak : (a : Int) ≤ (p.length : Int) := by omega
  have hac : (a : Int) ≤ (vc : Int) := by omega
  clear h hre nG hdk
  by_cases hck : vc = a
  · have nJ := nI.1 hck
    clear nI
    go_enter Tryz.func103, Tryz.ntmps103
    go_upto_region 4 with fail
    go_region_held3 (fun w' => w'.cell? ⟨r, 0, none⟩ = some (.slice (some ⟨g, off, none⟩) p.length vc) ∧ w'.cell? ⟨r, 1, none⟩ = some (.int .i64 a))
      (first | assumption | (refine ⟨?_, ?_⟩ <;> first | assumption | go_keep) | go_keep)
      (first
        | (go_at_fn 104; refine (nJ.out _ (by first | exact Below.refl _ _ | exact (Below.refl _ _).drew)).mono ?_; rintro e w2 ⟨vr, rfl, o2, b2⟩; have hS2 := cd_S_step (by assumption) b2))
    have bd2 : Below W.heap.size W w2 := Below.trans (Below.drew (Below.refl W.heap.size W)) b2
    have hrl0 : r < W.heap.size := (Array.getElem?_eq_some_iff.1 HR.out.row).1
    have HR2 := Lib.hid (HR.out.below bd2)
    have HBD := Lib.hid (bd2.mono hBW)
    have HO : Hid (w2.ownsRow B 5 1 vr d.length (dkCells d)) := Lib.hid (owns_mono o2 hBW)
    have HOL : Hid (∀ b, vr.ownBlock = some b → b ≠ r) := Lib.hid (fun b hb e => by have h1 : W.heap.size ≤ b := (o2.lt b hb).1; omega)
    clear x0 x1 x2 z1 z2 nJ HR bd2 b2 o2 hS2 hrl0
    obtain ⟨x0, x1, x2, z1, z2⟩ := HR2.out.cells
    by_cases he0 : er = 0
    · subst he0
      obtain ⟨s, hs⟩ : ∃ s, s = a + k := ⟨_, rfl⟩
      have hsI : (a : Int) + (k : Int) = (s : Int) := by rw [hs]; rfl
      obtain ⟨g1, g2⟩ := HR2.out.goes s (by omega)
      have HG1 := Lib.hid g1
      have HG2 := Lib.hid (HBD.out.trans g2)
      have HS := Lib.hid hs
      have HOK : Hid ((w2.setCell ⟨r, 1, none⟩ (.int .i64 s)).ownsRow B 5 1 vr d.length (dkCells d)) := Lib.hid (own_keep HO.out (fun b hb => (wl_set w2 r 1 (.int .i64 s)).block b (HO.out.lt b hb).2 (fun e => HOL.out b hb (by cases e; rfl))))
      clear g1 g2 hs
      go_wp2_with fail
      go_ret
      rw [← HS.out]
      exact ⟨vr, rfl, HOK.out, HG1.out, HG2.out⟩
    · obtain ⟨rfl, rfl⟩ := HER.out he0
      obtain ⟨g1, g2⟩ := HR2.out.fails er
      have HG1 := Lib.hid g1
      have HG2 := Lib.hid (HBD.out.trans g2)
      clear g1 g2
      go_wp2_with fail
      go_ret
      first
        | exact ⟨_, rfl, World.ownsRow_nil _ _ _ _, HG1.out, HG2.out⟩
        | (have h1 := HG1.out; rw [hck] at h1; exact ⟨_, rfl, World.ownsRow_nil _ _ _ _, h1, HG2.out⟩)
  · have nJ := nI.2 hck
    clear nI
    go_enter Tryz.func103, Tryz.ntmps103
    go_upto_region 4 with fail
    go_region_held3 (fun w' => w'.cell? ⟨r, 0, none⟩ = some (.slice (some ⟨g, off, none⟩) p.length vc) ∧ w'.cell? ⟨r, 1, none⟩ = some (.int .i64 a))
      (first | assumption | (refine ⟨?_, ?_⟩ <;> first | assumption | go_keep) | go_keep)
      (first
        | (go_at_fn 104; refine (nJ.out _ (by first | exact Below.refl _ _ | exact (Below.refl _ _).drew)).mono ?_; rintro e w2 ⟨vr, rfl, o2, b2⟩; have hS2 := cd_S_step (by assumption) b2))
    have bd2 : Below W.heap.size W w2 := Below.trans (Below.drew (Below.refl W.heap.size W)) b2
    have hrl0 : r < W.heap.size := (Array.getElem?_eq_some_iff.1 HR.out.row).1
    have HR2 := Lib.hid (HR.out.below bd2)
    have HBD := Lib.hid (bd2.mono hBW)
    have HO : Hid (w2.ownsRow B 5 1 vr d.length (dkCells d)) := Lib.hid (owns_mono o2 hBW)
    have HOL : Hid (∀ b, vr.ownBlock = some b → b ≠ r) := Lib.hid (fun b hb e => by have h1 : W.heap.size ≤ b := (o2.lt b hb).1; omega)
    clear x0 x1 x2 z1 z2 nJ HR bd2 b2 o2 hS2 hrl0
    obtain ⟨x0, x1, x2, z1, z2⟩ := HR2.out.cells
    by_cases he0 : er = 0
    · subst he0
      obtain ⟨s, hs⟩ : ∃ s, s = a + k := ⟨_, rfl⟩
      have hsI : (a : Int) + (k : Int) = (s : Int) := by rw [hs]; rfl
      obtain ⟨g1, g2⟩ := HR2.out.goes s (by omega)
      have HG1 := Lib.hid g1
      have HG2 := Lib.hid (HBD.out.trans g2)
      have HS := Lib.hid hs
      have HOK : Hid ((w2.setCell ⟨r, 1, none⟩ (.int .i64 s)).ownsRow B 5 1 vr d.length (dkCells d)) := Lib.hid (own_keep HO.out (fun b hb => (wl_set w2 r 1 (.int .i64 s)).block b (HO.out.lt b hb).2 (fun e => HOL.out b hb (by cases e; rfl))))
      clear g1 g2 hs
      go_wp2_with fail
      go_ret
      rw [← HS.out]
      exact ⟨vr, rfl, HOK.out, HG1.out, HG2.out⟩
    · obtain ⟨rfl, rfl⟩ := HER.out he0
      obtain ⟨g1, g2⟩ := HR2.out.fails er
      have HG1 := Lib.hid g1
      have HG2 := Lib.hid (HBD.out.trans g2)
      clear g1 g2
      go_wp2_with fail
      go_ret
      first
        | exact ⟨_, rfl, World.ownsRow_nil _ _ _ _, HG1.out, HG2.out⟩
        | (have h1 := HG1.out; rw [hck] at h1; exact ⟨_, rfl, World.ownsRow_nil _ _ _ _, h1, HG2.out⟩)

theorem cd_rBlob {B : Nat} {W : World} {r : Nat} {v : Value} {p : Ck.Bs} {a : Nat} (h : RdIs B W r v p a 0) (hp0 : 0 < p.length) (hl : p.length ≤ 100000000) :
    Calls Tryz.prog 48 #[.pointer (some ⟨r, 0, none⟩)] W fun e W' => ∃ vr, e = .returned vr ∧ W'.ownsRow B 5 1 vr (Ck.readB (p.drop a)).1.length (dkCells (Ck.readB (p.drop a)).1) ∧
      RdIs B W' r v p (a + (Ck.readB (p.drop a)).2.1) (Ck.readB (p.drop a)).2.2 ∧ Below B W W' := by
  have n1 := cd_valueB h hp0 hl
  clear h
  go_enter Tryz.func48, Tryz.ntmps48
  go_wp2_with fail
  refine n1.mono ?_
  rintro e W1 ⟨vr, rfl, h0, h1, h2⟩
  have H0 := Lib.hid h0
  have H1 := Lib.hid h1
  have H2 := Lib.hid h2
  clear n1 h0 h1 h2
  go_wp2_with fail
  go_ret
  exact ⟨vr, rfl, H0.out, H1.out, H2.out⟩
/-- behind an error nothing is read -/
theorem cd_rBlob_err {B : Nat} {W : World} {r : Nat} {v : Value} {p : Ck.Bs} {a : Nat} {er : Int} (h : RdIs B W r v p a er) (her : er ≠ 0) :
    Calls Tryz.prog 48 #[.pointer (some ⟨r, 0, none⟩)] W fun e W' => e = .returned (.slice none 0 0) ∧ W = W' := by
  have n1 : Calls Tryz.prog 103 #[.pointer (some ⟨r, 0, none⟩), .func (.func 104) #[] #[]] W fun e W' => e = .returned (.slice none 0 0) ∧ W = W' := by
    obtain ⟨x0, x1, x2, z1, z2⟩ := h.cells
    clear h
    go_enter Tryz.func103, Tryz.ntmps103
    go_wp2_with fail
    go_ret
    exact ⟨rfl, rfl⟩
  clear h
  go_enter Tryz.func48, Tryz.ntmps48
  go_wp2_with fail
  refine n1.mono ?_
  rintro e W1 ⟨rfl, rfl⟩
  clear n1
  go_wp2_with fail
  go_ret
  exact ⟨rfl, rfl⟩

theorem cd_rErr {B : Nat} {W : World} {r : Nat} {v : Value} {p : Ck.Bs} {a : Nat} {er : Int} (h : RdIs B W r v p a er) :
    Calls Tryz.prog 105 #[.pointer (some ⟨r, 0, none⟩)] W fun e W' => e = .returned (.int .i64 er) ∧ W = W' := by
  obtain ⟨x0, x1, x2, z1, z2⟩ := h.cells
  clear h x0 x1 z1 z2
  go_enter Tryz.func105, Tryz.ntmps105
  go_wp2_with fail
  go_ret
  exact ⟨rfl, rfl⟩
theorem cd_rRest {B : Nat} {W : World} {r : Nat} {v : Value} {p : Ck.Bs} {a : Nat} {er : Int} (h : RdIs B W r v p a er) (hl : p.length ≤ 100000000) :
    Calls Tryz.prog 106 #[.pointer (some ⟨r, 0, none⟩)] W fun e W' => e = .returned (.int .i64 ((p.length - a : Nat) : Int)) ∧ Below W.heap.size W W' := by
  obtain ⟨x0, x1, x2, z1, z2⟩ := h.cells
  obtain ⟨va, vc, rfl⟩ := h.rd.form
  have hle := h.le
  obtain ⟨s, hs⟩ : ∃ s, s = p.length - a := ⟨_, rfl⟩
  have hsI : (p.length : Int) - (a : Int) = (s : Int) := by omega
  rw [← hs]
  clear h z1 z2 x2 hs
  go_enter Tryz.func106, Tryz.ntmps106
  go_upto_region 3 with fail
  go_quiet (fail)
  go_wp2_with fail
  go_ret
  exact ⟨rfl, dk_below_drewN (Below.refl _ _) nq⟩

end Go.Proofs.YtamencnachmhoaaGreatDoor
