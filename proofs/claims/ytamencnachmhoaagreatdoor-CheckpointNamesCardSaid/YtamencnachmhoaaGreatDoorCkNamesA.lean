/-
  FileName for any name and number; giroref12.FileName.
  giroref12: digits, FileName.
-/
import Derived.Test.YtamencnachmhoaaGreatDoorCkOpens
import Derived.Test.YtamencnachmhoaaGreatDoorCkRefs
import Derived.Test.YtamencnachmhoaaGreatDoorCkKnows
import Derived.Lib.LaidTab

namespace Go.Proofs.YtamencnachmhoaaGreatDoor
open Go.RowKit

theorem ck_below_grow (w : World) (k : Nat) (os : Array Obj) : Below w.heap.size w (Sort.grow (w.drewN k) os) :=
  ⟨rfl, rfl, rfl, by rw [Sort.size_grow]; exact Nat.le_add_right _ _, fun j hj => Sort.heap_grow_old (w.drewN k) os hj⟩

set_option maxRecDepth 100000 in
set_option maxHeartbeats 1000000 in
theorem wl_repeat0 (W : World) : Calls Tryz.prog 35 #[.string ⟨#[48]⟩, .int .i64 0] W fun e W' => e = .returned (.string ⟨(List.replicate 0 48).toArray⟩) ∧ Below W.heap.size W W' := by
  have nM := Tryz.bits_Mul 1 0 (by decide) (by decide)
  have nP := Tryz.strings_HasPrefix
  go_enter Tryz.func35, Tryz.ntmps35
  go_wp2_with (first | (go_at_call 87; refine (nM _).mono ?_; rintro e w1 ⟨rfl, rfl⟩) | (go_at_call 88; refine (nP _ _ _).mono ?_; rintro e w1 ⟨rfl, rfl⟩))
  go_ret
  exact ⟨rfl, Below.refl _ _⟩

set_option maxRecDepth 100000 in
set_option maxHeartbeats 1000000 in
theorem wl_repeat1 (W : World) : Calls Tryz.prog 35 #[.string ⟨#[48]⟩, .int .i64 1] W fun e W' => e = .returned (.string ⟨(List.replicate 1 48).toArray⟩) ∧ Below W.heap.size W W' := by
  have nM := Tryz.bits_Mul 1 1 (by decide) (by decide)
  have nP := Tryz.strings_HasPrefix
  go_enter Tryz.func35, Tryz.ntmps35
  go_wp2_with (first | (go_at_call 87; refine (nM _).mono ?_; rintro e w1 ⟨rfl, rfl⟩) | (go_at_call 88; refine (nP _ _ _).mono ?_; rintro e w1 ⟨rfl, rfl⟩))
  go_ret
  exact ⟨rfl, Below.refl _ _⟩

set_option maxRecDepth 100000 in
set_option maxHeartbeats 1000000 in
theorem wl_repeat2 (W : World) : Calls Tryz.prog 35 #[.string ⟨#[48]⟩, .int .i64 2] W fun e W' => e = .returned (.string ⟨(List.replicate 2 48).toArray⟩) ∧ Below W.heap.size W W' := by
  have nM := Tryz.bits_Mul 1 2 (by decide) (by decide)
  have nP := Tryz.strings_HasPrefix
  go_enter Tryz.func35, Tryz.ntmps35
  go_wp2_with (first | (go_at_call 87; refine (nM _).mono ?_; rintro e w1 ⟨rfl, rfl⟩) | (go_at_call 88; refine (nP _ _ _).mono ?_; rintro e w1 ⟨rfl, rfl⟩))
  go_ret
  exact ⟨rfl, Below.refl _ _⟩

set_option maxRecDepth 100000 in
set_option maxHeartbeats 1000000 in
theorem wl_repeat3 (W : World) : Calls Tryz.prog 35 #[.string ⟨#[48]⟩, .int .i64 3] W fun e W' => e = .returned (.string ⟨(List.replicate 3 48).toArray⟩) ∧ Below W.heap.size W W' := by
  have nM := Tryz.bits_Mul 1 3 (by decide) (by decide)
  have nP := Tryz.strings_HasPrefix
  go_enter Tryz.func35, Tryz.ntmps35
  go_wp2_with (first | (go_at_call 87; refine (nM _).mono ?_; rintro e w1 ⟨rfl, rfl⟩) | (go_at_call 88; refine (nP _ _ _).mono ?_; rintro e w1 ⟨rfl, rfl⟩))
  go_ret
  exact ⟨rfl, Below.refl _ _⟩

set_option maxRecDepth 100000 in
set_option maxHeartbeats 1000000 in
theorem wl_repeat4 (W : World) : Calls Tryz.prog 35 #[.string ⟨#[48]⟩, .int .i64 4] W fun e W' => e = .returned (.string ⟨(List.replicate 4 48).toArray⟩) ∧ Below W.heap.size W W' := by
  have nM := Tryz.bits_Mul 1 4 (by decide) (by decide)
  have nP := Tryz.strings_HasPrefix
  go_enter Tryz.func35, Tryz.ntmps35
  go_wp2_with (first | (go_at_call 87; refine (nM _).mono ?_; rintro e w1 ⟨rfl, rfl⟩) | (go_at_call 88; refine (nP _ _ _).mono ?_; rintro e w1 ⟨rfl, rfl⟩))
  go_ret
  exact ⟨rfl, Below.refl _ _⟩

set_option maxRecDepth 100000 in
set_option maxHeartbeats 1000000 in
theorem wl_repeat5 (W : World) : Calls Tryz.prog 35 #[.string ⟨#[48]⟩, .int .i64 5] W fun e W' => e = .returned (.string ⟨(List.replicate 5 48).toArray⟩) ∧ Below W.heap.size W W' := by
  have nM := Tryz.bits_Mul 1 5 (by decide) (by decide)
  have nP := Tryz.strings_HasPrefix
  go_enter Tryz.func35, Tryz.ntmps35
  go_wp2_with (first | (go_at_call 87; refine (nM _).mono ?_; rintro e w1 ⟨rfl, rfl⟩) | (go_at_call 88; refine (nP _ _ _).mono ?_; rintro e w1 ⟨rfl, rfl⟩))
  go_ret
  exact ⟨rfl, Below.refl _ _⟩

set_option maxRecDepth 100000 in
set_option maxHeartbeats 1000000 in
theorem wl_repeat6 (W : World) : Calls Tryz.prog 35 #[.string ⟨#[48]⟩, .int .i64 6] W fun e W' => e = .returned (.string ⟨(List.replicate 6 48).toArray⟩) ∧ Below W.heap.size W W' := by
  have nM := Tryz.bits_Mul 1 6 (by decide) (by decide)
  have nP := Tryz.strings_HasPrefix
  go_enter Tryz.func35, Tryz.ntmps35
  go_wp2_with (first | (go_at_call 87; refine (nM _).mono ?_; rintro e w1 ⟨rfl, rfl⟩) | (go_at_call 88; refine (nP _ _ _).mono ?_; rintro e w1 ⟨rfl, rfl⟩))
  go_ret
  exact ⟨rfl, Below.refl _ _⟩

set_option maxRecDepth 100000 in
set_option maxHeartbeats 1000000 in
theorem wl_repeat7 (W : World) : Calls Tryz.prog 35 #[.string ⟨#[48]⟩, .int .i64 7] W fun e W' => e = .returned (.string ⟨(List.replicate 7 48).toArray⟩) ∧ Below W.heap.size W W' := by
  have nM := Tryz.bits_Mul 1 7 (by decide) (by decide)
  have nP := Tryz.strings_HasPrefix
  go_enter Tryz.func35, Tryz.ntmps35
  go_wp2_with (first | (go_at_call 87; refine (nM _).mono ?_; rintro e w1 ⟨rfl, rfl⟩) | (go_at_call 88; refine (nP _ _ _).mono ?_; rintro e w1 ⟨rfl, rfl⟩))
  go_ret
  exact ⟨rfl, Below.refl _ _⟩

theorem wl_repeatK (k : Nat) (hk : k < 10) (W : World) : Calls Tryz.prog 35 #[.string ⟨#[48]⟩, .int .i64 k] W fun e W' => e = .returned (.string ⟨(List.replicate k 48).toArray⟩) ∧ Below W.heap.size W W' := by
  match k, hk with
  | 0, _ => exact wl_repeat0 W
  | 1, _ => exact wl_repeat1 W
  | 2, _ => exact wl_repeat2 W
  | 3, _ => exact wl_repeat3 W
  | 4, _ => exact wl_repeat4 W
  | 5, _ => exact wl_repeat5 W
  | 6, _ => exact wl_repeat6 W
  | 7, _ => exact wl_repeat7 W
  | 8, _ => exact wl_repeat8 W
  | 9, _ => exact wl_repeat9 W

namespace Ck
/-- FileName with its errors -/
def fileNameC (nm : Bs) (n : Int) : Bs × Int := if Wl.validP nm = false then ([], 6) else if n < 0 ∨ 1000000000 < n then ([], 2) else (fileName nm n.toNat, 0)
theorem decDigits_len {n : Nat} (h : n < 10000000000) : 1 ≤ (Lib.decDigits n).length ∧ (Lib.decDigits n).length ≤ 10 := by
  have h2 := Wl.pad_length h
  unfold Wl.pad at h2
  rw [List.length_append, List.length_replicate] at h2
  have h3 : Lib.decDigits n ≠ [] := by
    unfold Lib.decDigits
    split <;> simp
  have h4 := List.length_pos_iff.2 h3
  omega
end Ck

set_option maxRecDepth 100000 in
set_option maxHeartbeats 1000000 in
theorem ck_FileNameC (W : World) (p : ByteArray) (n : Int) (hp : p.size ≤ 1000) (htab : Lib.TabIs Tryz.prog W "internal/strconv.uint64pow10" .u64 Lib.pow10Tab) (hk : ∀ W', Below W.heap.size W W' → Lib.TabIs Tryz.prog W' "internal/strconv.uint64pow10" .u64 Lib.pow10Tab) :
    Calls Tryz.prog 11 #[.string p, .int .i64 n] W fun e W' => e = .returned (.tuple #[.string ⟨(Ck.fileNameC p.data.toList n).1.toArray⟩, .int .i64 (Ck.fileNameC p.data.toList n).2]) ∧ Below W.heap.size W W' := by
  have n0 := ck_named p W (by omega)
  obtain ⟨vb, hvb⟩ : ∃ vb, vb = Wl.validP p.data.toList := ⟨_, rfl⟩
  rw [← hvb] at n0
  have HQ : Hid (Ck.fileNameC p.data.toList n = if vb = false then ([], 6) else if n < 0 ∨ 1000000000 < n then ([], 2) else (Ck.fileName p.data.toList n.toNat, 0)) := Lib.hid (by unfold Ck.fileNameC; rw [hvb])
  clear hvb
  cases vb with
  | false =>
    go_enter Tryz.func11, Tryz.ntmps11
    go_wp2_with fail
    refine n0.mono ?_
    rintro e w0 ⟨rfl, b0⟩
    have HB0 := Lib.hid b0
    clear n0 b0
    go_wp2_with fail
    go_ret2
    rw [HQ.out]
    exact ⟨rfl, HB0.out⟩
  | true =>
    by_cases hr : n < 0 ∨ 1000000000 < n
    · obtain ⟨x1, hx1⟩ : ∃ x, decide (n < 0) = x := ⟨_, rfl⟩
      obtain ⟨x2, hx2⟩ : ∃ x, decide (1000000000 < n) = x := ⟨_, rfl⟩
      have hor : (x1 || x2) = true := by rw [← hx1, ← hx2]; simpa using hr
      have HR := Lib.hid hr
      clear hr
      cases x1
      all_goals cases x2
      all_goals try (exact absurd hor (by decide))
      all_goals
        simp only [decide_eq_true_eq, decide_eq_false_iff_not] at hx1 hx2
        go_enter Tryz.func11, Tryz.ntmps11
        go_wp2_with fail
        refine n0.mono ?_
        rintro e w0 ⟨rfl, b0⟩
        have HB0 := Lib.hid b0
        clear n0 b0
        go_wp2_with fail
        go_ret2
        rw [HQ.out, if_neg (by decide), if_pos HR.out]
        exact ⟨rfl, HB0.out⟩
    · obtain ⟨m, rfl⟩ : ∃ m : Nat, n = m := ⟨n.toNat, by omega⟩
      have hm : m ≤ 1000000000 := by omega
      have HQ2 : Hid (Ck.fileNameC p.data.toList m = (Ck.fileName p.data.toList m, 0)) := Lib.hid (by rw [HQ.out, if_neg (by decide), if_neg hr]; rfl)
      obtain ⟨d, hd⟩ : ∃ d, d = Lib.decDigits m := ⟨_, rfl⟩
      have hnm : Ck.fileName p.data.toList m = p.data.toList ++ [45] ++ List.replicate (10 - d.length) 48 ++ d ++ [46, 99, 107, 112, 116] := by unfold Ck.fileName Wl.name Wl.pad Ck.ckpt; rw [hd]; simp
      have hl : 1 ≤ d.length ∧ d.length ≤ 10 := by rw [hd]; exact Ck.decDigits_len (by omega)
      obtain ⟨k, hk10⟩ : ∃ k, k = 10 - d.length := ⟨_, rfl⟩
      rw [← hk10] at hnm
      have hkI : (10 : Int) - (d.length : Int) = (k : Int) := by omega
      have n1 : Hid (∀ w, Below W.heap.size W w → Calls Tryz.prog 34 #[.int .i64 m] w fun e w' => e = .returned (.string ⟨d.toArray⟩) ∧ ∃ k os, w' = Sort.grow (w.drewN k) os) := Lib.hid (fun w hw => by
        have h := Tryz.strconv_Itoa (m : Int) (by omega) (by omega) w (hk w hw)
        rw [Lib.itoa_nonneg, ← hd] at h
        exact h)
      have nR : Hid (∀ w, Calls Tryz.prog 35 #[.string ⟨#[48]⟩, .int .i64 k] w fun e W' => e = .returned (.string ⟨(List.replicate k 48).toArray⟩) ∧ Below w.heap.size w W') := Lib.hid (fun w => wl_repeatK k (by omega) w)
      have i1 : ¬ (m : Int) < 0 := by omega
      have i2 : ¬ (1000000000 : Int) < (m : Int) := by omega
      have HNM := Lib.hid hnm
      have hds : d.length ≤ 10 := hl.2
      clear hnm hd hr hk10 hl HQ htab hk
      go_enter Tryz.func11, Tryz.ntmps11
      go_wp2_with fail
      refine n0.mono ?_
      rintro e w0 ⟨rfl, b0⟩
      have HB0 := Lib.hid b0
      clear n0 b0
      go_wp2_with fail
      refine (n1.out w0 HB0.out).mono ?_
      rintro e w1 ⟨rfl, kk, os, hw1⟩
      have HB1 : Hid (Below W.heap.size W w1) := Lib.hid (by rw [hw1]; exact HB0.out.trans (ck_below_grow w0 kk os |>.mono HB0.out.size))
      have n2 := nR.out w1
      clear hw1
      go_wp2_with fail
      refine n2.mono ?_
      rintro e w2 ⟨rfl, b2⟩
      have HB2 := Lib.hid (HB1.out.trans (b2.mono HB1.out.size))
      clear n2 b2
      go_wp2_with fail
      go_ret2
      rw [HQ2.out, HNM.out]
      refine ⟨congrArg (fun s => Ending.returned (.tuple #[.string s, .int .i64 0])) ?_, HB2.out⟩
      show p ++ ⟨[45].toArray⟩ ++ ⟨(List.replicate k 48).toArray⟩ ++ ⟨d.toArray⟩ ++ ⟨[46, 99, 107, 112, 116].toArray⟩ = _
      rw [ba_cat, ba_cat, ba_cat, ba_cat]

/-! ### the reference -/
namespace Ck
def dig : Nat → Nat → Bs
  | _, 0 => []
  | n, k + 1 => dig (n / 10) k ++ [UInt8.ofNat (48 + n % 10)]
theorem dig_zero : ∀ k, dig 0 k = List.replicate k 48
  | 0 => rfl
  | k + 1 => by
    rw [dig, dig_zero k, List.replicate_succ']
    rfl
theorem dig_eq : ∀ (k n : Nat), n < 10 ^ (k + 1) → dig n (k + 1) = List.replicate (k + 1 - (Lib.decDigits n).length) 48 ++ Lib.decDigits n
  | 0, n, h => by
    have h : n < 10 := by simpa using h
    rw [Lib.decDigits_one h, dig, dig, show n % 10 = n from by omega]
    rfl
  | k + 1, n, h => by
    rw [dig]
    by_cases h10 : n < 10
    · rw [show n / 10 = 0 from by omega, dig_zero, Lib.decDigits_one h10, show n % 10 = n from by omega]
      rfl
    · have ih := dig_eq k (n / 10) (by rw [Nat.pow_succ, Nat.mul_comm] at h; exact Nat.div_lt_of_lt_mul h)
      have e : Lib.decDigits n = Lib.decDigits (n / 10) ++ [UInt8.ofNat (48 + n % 10)] := by rw [Lib.decDigits, dif_neg h10]
      rw [ih, e, List.length_append, List.length_singleton, List.append_assoc, show k + 1 + 1 - ((Lib.decDigits (n / 10)).length + 1) = k + 1 - (Lib.decDigits (n / 10)).length from by omega]
theorem dig_pad {n : Nat} (h : n < 10000000000) : dig n 10 = Wl.pad n := dig_eq 9 n (by simpa using h)
theorem dig_length : ∀ (k n : Nat), (dig n k).length = k
  | 0, _ => rfl
  | k + 1, n => by rw [dig, List.length_append, dig_length k]; rfl
end Ck

end Go.Proofs.YtamencnachmhoaaGreatDoor

namespace Go.Proofs.YtamencnachmhoaaGreatDoor
open Go.RowKit

set_option maxRecDepth 100000 in
set_option maxHeartbeats 200000 in
theorem r12_digits0 (W : World) (n : Int) : Calls Tryz.prog 36 #[.int .i64 n, .int .i64 0] W fun e W' => e = .returned (.string ⟨#[]⟩) ∧ Below W.heap.size W W' := by
  go_enter Tryz.func36, Tryz.ntmps36
  go_wp2_with fail
  go_ret
  exact ⟨rfl, Below.refl _ _⟩

theorem r12_b1 {W w1 : World} (b : Below W.drew.heap.size W.drew w1) : Below W.heap.size W w1 := ((Below.refl W.heap.size W).drew).trans b
theorem r12_b2 {W w1 : World} {o : Obj} (b : Below (W.alloc o).drew.heap.size (W.alloc o).drew w1) : Below W.heap.size W w1 := (((Below.refl W.heap.size W).alloc (Nat.le_refl _) o).drew).trans (b.mono (by show W.heap.size ≤ (W.alloc o).heap.size; simp))
theorem r12_one (c : UInt8) : ∀ w : World, (convert 22 9 (.slice (some ⟨w.heap.size, 0, none⟩) 1 1)).run Tryz.prog (w.alloc (.cells #[.int .u8 c.toNat] 5)) = .ok (.string ⟨#[c]⟩) (w.alloc (.cells #[.int .u8 c.toNat] 5)) := fun w => by
  refine run_convert_bytes_back _ _ _ _ ⟨w.heap.size, 0, none⟩ 1 [c] Tryz.underlying22 Tryz.underlying5 Tryz.underlying9 (fun j hj => ?_)
  obtain rfl : j = 0 := by simpa using hj
  rw [dk_add, cell_of_row _ _ _ _ _ _ (World.alloc_heap_new w _)]
  rfl

theorem r12_after {w w1 : World} {g : Nat} (c : UInt8) (hb : Below (w.alloc (.cells #[.int .u8 c.toNat] 5)).drew.heap.size (w.alloc (.cells #[.int .u8 c.toNat] 5)).drew w1) (hg : g = w.heap.size) :
    (convert 22 9 (.slice (some ⟨g, 0, none⟩) 1 1)).run Tryz.prog w1 = .ok (.string ⟨#[c]⟩) w1 := by
  subst hg
  refine run_convert_bytes_back _ _ _ _ ⟨w.heap.size, 0, none⟩ 1 [c] Tryz.underlying22 Tryz.underlying5 Tryz.underlying9 (fun j hj => ?_)
  obtain rfl : j = 0 := by simpa using hj
  have h1 : (w.alloc (.cells #[.int .u8 c.toNat] 5)).drew.cell? ⟨w.heap.size, 0, none⟩ = some (.int .u8 c.toNat) := by
    show (w.alloc (.cells #[.int .u8 c.toNat] 5)).cell? ⟨w.heap.size, 0, none⟩ = _
    rw [cell_of_row _ _ _ _ _ _ (World.alloc_heap_new w _)]; rfl
  rw [dk_add]
  exact (hb.cell (World.block_lt_of_cell? _ _ h1)).trans h1

set_option maxRecDepth 100000 in
set_option maxHeartbeats 200000 in
theorem r12_digitsS (W : World) (n k m q : Int) (s : Ck.Bs) (hs : s.length ≤ 100) (c : UInt8) (h1 : (k == 0) = false) (h2 : IntKind.i64.wrap (k - 1) = m) (h4 : IntKind.i64.wrap (n.tdiv 10) = q) (h3 : IntKind.u8.wrap (IntKind.i64.wrap (48 + n.tmod 10)) = (c.toNat : Int))
    (HI : Hid (∀ w, Calls Tryz.prog 36 #[.int .i64 q, .int .i64 m] w fun e W' => e = .returned (.string ⟨s.toArray⟩) ∧ Below w.heap.size w W')) :
    Calls Tryz.prog 36 #[.int .i64 n, .int .i64 k] W fun e W' => e = .returned (.string ⟨(s ++ [c]).toArray⟩) ∧ Below W.heap.size W W' := by
  go_enter Tryz.func36, Tryz.ntmps36
  go_wp2_with fail
  have hS0 : Below W.heap.size W W := Below.refl _ _
  have R1 := r12_one c
  have R1d : ∀ w : World, (convert 22 9 (.slice (some ⟨w.heap.size, 0, none⟩) 1 1)).run Tryz.prog (w.alloc (.cells #[.int .u8 c.toNat] 5)).drew = .ok (.string ⟨#[c]⟩) (w.alloc (.cells #[.int .u8 c.toNat] 5)).drew := fun w => r12_after c (Below.refl _ _) rfl
  go_region_with (first | (go_at_call 36; refine (HI.out _).mono ?_; rintro e w1 ⟨rfl, b1⟩; have hS1 : Below W.heap.size W w1 := (by first | exact r12_b1 b1 | exact r12_b2 b1); try (have R2 := r12_after (g := W.heap.size) c b1 rfl)))
  all_goals
    clear R1 R1d h1 h2 h3 h4 HI
    go_wp2_with fail
    go_ret
    refine ⟨congrArg (fun s => Ending.returned (.string s)) ?_, by first | exact hS1 | exact hS1.alloc hS1.size _⟩
    exact ba_cat _ _

theorem r12_digits : ∀ (k n : Nat) (W : World), k ≤ 10 → n ≤ 10000000000 → Calls Tryz.prog 36 #[.int .i64 n, .int .i64 k] W fun e W' => e = .returned (.string ⟨(Ck.dig n k).toArray⟩) ∧ Below W.heap.size W W'
  | 0, n, W, _, _ => r12_digits0 W n
  | k + 1, n, W, hk, hn => by
    have ih := fun w => r12_digits k (n / 10) w (by omega) (by omega)
    have hc : (UInt8.ofNat (48 + n % 10)).toNat = 48 + n % 10 := Ck.toNat_of (by omega)
    have e1 : (n : Int).tmod 10 = ((n % 10 : Nat) : Int) := by rw [Int.tmod_eq_emod_of_nonneg (by omega)]; omega
    have e2 : (n : Int).tdiv 10 = ((n / 10 : Nat) : Int) := by rw [Int.tdiv_eq_ediv_of_nonneg (by omega)]; omega
    have e3 : IntKind.i64.wrap (48 + ((n % 10 : Nat) : Int)) = ((48 + n % 10 : Nat) : Int) := (IntWalk.i64_in _ (by omega)).trans (by omega)
    refine r12_digitsS W n ((k + 1 : Nat) : Int) k ((n / 10 : Nat) : Int) (Ck.dig (n / 10) k) (by rw [Ck.dig_length]; omega) (UInt8.ofNat (48 + n % 10)) (by rw [beq_eq_false_iff_ne]; omega) ((IntWalk.i64_in _ (by omega)).trans (by omega)) ?_ ?_ (Lib.hid ih)
    · rw [e2]; exact IntWalk.i64_in _ (by omega)
    · rw [e1, e3, hc]
      show ((48 + n % 10 : Nat) : Int) % 256 = _
      omega

set_option maxRecDepth 100000 in
set_option maxHeartbeats 400000 in
theorem r12_FnUnknown (W : World) (p : ByteArray) (n : Int)
    (n1 : Calls Tryz.prog 24 #[.string p] W fun e W' => e = .returned (.bool false) ∧ W = W') :
    Calls Tryz.prog 12 #[.string p, .int .i64 n] W fun e W' => e = .returned (.tuple #[.string ⟨#[]⟩, .int .i64 6]) ∧ Below W.heap.size W W' := by
  go_enter Tryz.func12, Tryz.ntmps12
  go_wp2_with fail
  refine n1.mono ?_
  rintro e w1 ⟨rfl, rfl⟩
  clear n1
  go_wp2_with fail
  go_ret2
  exact ⟨rfl, Below.refl _ _⟩

set_option maxRecDepth 100000 in
set_option maxHeartbeats 400000 in
theorem r12_FnRange (W : World) (p : ByteArray) (n : Int) (x1 x2 : Bool) (h1 : decide (n < 0) = x1) (h2 : decide (1000000000 < n) = x2) (hx : (x1 || x2) = true)
    (n1 : Calls Tryz.prog 24 #[.string p] W fun e W' => e = .returned (.bool true) ∧ W = W') :
    Calls Tryz.prog 12 #[.string p, .int .i64 n] W fun e W' => e = .returned (.tuple #[.string ⟨#[]⟩, .int .i64 2]) ∧ Below W.heap.size W W' := by
  cases x1
  all_goals cases x2
  all_goals try (exact absurd hx (by decide))
  all_goals
    simp only [decide_eq_true_eq, decide_eq_false_iff_not] at h1 h2
    go_enter Tryz.func12, Tryz.ntmps12
    go_wp2_with fail
    refine n1.mono ?_
    rintro e w1 ⟨rfl, rfl⟩
    clear n1
    go_wp2_with fail
    go_ret2
    exact ⟨rfl, Below.refl _ _⟩

set_option maxRecDepth 100000 in
set_option maxHeartbeats 400000 in
theorem r12_FnOk (W : World) (p : ByteArray) (hp : p.size ≤ 1000) (n : Nat) (d : Ck.Bs) (hd : d.length ≤ 100) (h1 : ¬ (n : Int) < 0) (h2 : ¬ (1000000000 : Int) < (n : Int))
    (n1 : Calls Tryz.prog 24 #[.string p] W fun e W' => e = .returned (.bool true) ∧ W = W')
    (n2 : Calls Tryz.prog 36 #[.int .i64 n, .int .i64 10] W fun e W' => e = .returned (.string ⟨d.toArray⟩) ∧ Below W.heap.size W W') :
    Calls Tryz.prog 12 #[.string p, .int .i64 n] W fun e W' => e = .returned (.tuple #[.string ⟨(p.data.toList ++ [45] ++ d ++ [46, 99, 107, 112, 116]).toArray⟩, .int .i64 0]) ∧ Below W.heap.size W W' := by
  go_enter Tryz.func12, Tryz.ntmps12
  go_wp2_with fail
  refine n1.mono ?_
  rintro e w1 ⟨rfl, rfl⟩
  clear n1
  go_wp2_with fail
  refine n2.mono ?_
  rintro e w2 ⟨rfl, b2⟩
  clear n2
  go_wp2_with fail
  go_ret2
  refine ⟨congrArg (fun s => Ending.returned (.tuple #[.string s, .int .i64 0])) ?_, b2⟩
  show p ++ ⟨[45].toArray⟩ ++ ⟨d.toArray⟩ ++ ⟨[46, 99, 107, 112, 116].toArray⟩ = _
  rw [ba_cat, ba_cat, ba_cat]

set_option maxRecDepth 100000 in
theorem r12_FileName (W : World) (p : ByteArray) (n : Int) (hp : p.size ≤ 1000) :
    Calls Tryz.prog 12 #[.string p, .int .i64 n] W fun e W' => e = .returned (.tuple #[.string ⟨(Ck.fileNameC p.data.toList n).1.toArray⟩, .int .i64 (Ck.fileNameC p.data.toList n).2]) ∧ Below W.heap.size W W' := by
  have nV := rk_ValidName p W (by omega)
  obtain ⟨vb, hvb⟩ : ∃ vb, vb = Wl.validP p.data.toList := ⟨_, rfl⟩
  rw [← hvb] at nV
  have hQ : Ck.fileNameC p.data.toList n = if vb = false then ([], 6) else if n < 0 ∨ 1000000000 < n then ([], 2) else (Ck.fileName p.data.toList n.toNat, 0) := by unfold Ck.fileNameC; rw [hvb]
  cases vb with
  | false => rw [hQ, if_pos rfl]; exact r12_FnUnknown W p n nV
  | true =>
    rw [if_neg (by decide)] at hQ
    by_cases hr : n < 0 ∨ 1000000000 < n
    · rw [hQ, if_pos hr]
      exact r12_FnRange W p n _ _ rfl rfl (by simpa using hr) nV
    · obtain ⟨m, rfl⟩ : ∃ m : Nat, n = m := ⟨n.toNat, by omega⟩
      rw [hQ, if_neg hr]
      have e : Ck.fileName p.data.toList (m : Int).toNat = p.data.toList ++ [45] ++ Ck.dig m 10 ++ [46, 99, 107, 112, 116] := by
        rw [Ck.dig_pad (by omega)]
        show Wl.name _ m ++ Ck.ckpt = _
        unfold Wl.name Ck.ckpt
        simp
      rw [e]
      exact r12_FnOk W p hp m (Ck.dig m 10) (by rw [Ck.dig_length]; decide) (by omega) (by omega) nV (r12_digits 10 m W (Nat.le_refl _) (by omega))

end Go.Proofs.YtamencnachmhoaaGreatDoor
