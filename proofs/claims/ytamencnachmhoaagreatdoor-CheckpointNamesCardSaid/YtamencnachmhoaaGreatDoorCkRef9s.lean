/-
  The reference of records: giroref09 (checksum bit by bit, Encode, Next).
  The reference of records: giroref09.Next.
-/
import Derived.Test.YtamencnachmhoaaGreatDoorWlNext
import Derived.Test.YtamencnachmhoaaGreatDoorWlRef
import Derived.Test.YtamencnachmhoaaGreatDoorCkReaders

namespace Go.Proofs.YtamencnachmhoaaGreatDoor
open Go.RowKit

theorem u8_32 (c : UInt8) : (c.toNat : Int) % 4294967296 = (c.toNat : Int) := by have := UInt8.toNat_lt c; omega

set_option maxRecDepth 100000 in
set_option maxHeartbeats 1000000 in
theorem r9_step (W : World) (x : Nat) (hx : x < 4294967296) (c : UInt8) : Calls Tryz.prog 160 #[.int .u32 x, .int .u8 c.toNat] W fun e W' => e = .returned (.int .u32 (Wl.refStep x c : Nat)) ∧ W = W' := by
  have hc := UInt8.toNat_lt c
  have h0 : bits .xor .u32 (x : Int) (c.toNat : Int) = ((x ^^^ c.toNat : Nat) : Int) := u32_xor_nat x c.toNat hx (by omega)
  have hy : x ^^^ c.toNat < 4294967296 := Nat.xor_lt_two_pow (n := 32) (by simpa using hx) (by show c.toNat < 4294967296; omega)
  have HR : Hid (Wl.refStep x c = Wl.crcBits 8 (x ^^^ c.toNat)) := Lib.hid rfl
  have hc32 := u8_32 c
  generalize x ^^^ c.toNat = y at *
  have HY := Lib.hid hy
  clear hy
  go_enter Tryz.func160, Tryz.ntmps160
  go_wp2_with fail
  go_loopw [0, 5] (fun xv jv wr => ∃ j : Nat, jv = .int .i64 j ∧ j ≤ 8 ∧ xv = .int .u32 ((Wl.crcBits j y : Nat) : Int) ∧ wr = W) (fun _ jv _ => 8 - (RowKit.intOf jv).toNat)
  case atStart => exact ⟨0, rfl, by decide, rfl, rfl⟩
  case round =>
    obtain ⟨j, rfl, hj, rfl, rfl⟩ := hrel
    by_cases hjl : j < 8
    · have hx := Wl.crcBits_lt j HY.out
      have hnx := Wl.crcBits_next j y
      obtain ⟨z, hze⟩ : ∃ z, z = Wl.crcBits j y := ⟨_, rfl⟩
      rw [← hze] at hx hnx ⊢
      have ha : bits .and .u32 (z : Int) 1 = ((z % 2 : Nat) : Int) := by
        have := u32_and_nat z 1 hx (by decide)
        rw [Nat.and_one_is_mod] at this
        exact this
      have hb : bits .xor .u32 ((z : Int) / 2) 2197175160 = ((z / 2 ^^^ 2197175160 : Nat) : Int) := u32_xor_nat (z / 2) 2197175160 (by omega) (by decide)
      have HNX := Lib.hid hnx
      clear hnx hze
      rcases Nat.mod_two_eq_zero_or_one z with h2 | h2
      all_goals
        rw [h2] at ha
        go_wp2_with fail
        refine ⟨⟨j + 1, by go_num, by omega, ?_, trivial⟩, by simp [RowKit.intOf]; omega⟩
        rw [HNX.out]
        unfold Wl.crcBit
        rw [h2]
        simp
    · obtain rfl : j = 8 := by omega
      go_wp2_with fail
      go_ret
      rw [HR.out]
      exact ⟨rfl, rfl⟩

theorem u32_not' (n : Nat) (h : n < 4294967296) : bits .xor .u32 (n : Int) 4294967295 = ((Wl.crcNot n : Nat) : Int) := by
  have := u32_xor_nat n 4294967295 h (by decide)
  rw [Nat.xor_comm, u32_ones n h] at this
  exact this

theorem refRun_lt (b : Dk.Bs) : b.foldl Wl.refStep 4294967295 < 4294967296 := by
  rw [Wl.foldl_refStep]
  exact Wl.crcRun_lt b (by decide)

set_option maxRecDepth 100000 in
set_option maxHeartbeats 1000000 in
theorem r9_Sum (W : World) (bv : Value) (b : Dk.Bs) (hb : RdB W W.heap.size bv b) (hl : b.length ≤ 9223372036854775807) : Calls Tryz.prog 99 #[bv] W fun e W' => e = .returned (.int .u32 (Wl.refSum b : Nat)) ∧ W = W' := by
  obtain ⟨a, cap, rfl⟩ := hb.form
  have HB := Lib.hid hb
  clear hb
  go_enter Tryz.func99, Tryz.ntmps99
  go_wp2_with fail
  go_loopw [3, 4] (fun xv iv wr => ∃ k : Nat, iv = .int .i64 k ∧ k ≤ b.length ∧ xv = .int .u32 (((b.take k).foldl Wl.refStep 4294967295 : Nat) : Int) ∧ wr = W) (fun _ iv _ => b.length - (RowKit.intOf iv).toNat)
  case atStart => exact ⟨0, rfl, Nat.zero_le _, by rw [List.take_zero]; rfl, rfl⟩
  case round =>
    obtain ⟨k, rfl, hk, rfl, rfl⟩ := hrel
    by_cases hlt : k < b.length
    · obtain ⟨g, off, rfl, hcell⟩ := HB.out.at k hlt
      have hx := refRun_lt (b.take k)
      have HST : Hid ((b.take (k + 1)).foldl Wl.refStep 4294967295 = Wl.refStep ((b.take k).foldl Wl.refStep 4294967295) b[k]) := Lib.hid (by
        rw [List.take_succ_eq_append_getElem hlt, List.foldl_append]; rfl)
      generalize (b.take k).foldl Wl.refStep 4294967295 = x at *
      obtain ⟨c, hce⟩ : ∃ c, c = b[k] := ⟨_, rfl⟩
      rw [← hce] at hcell HST
      have n1 := r9_step wr x hx c
      clear hce
      go_wp2_with fail
      refine n1.mono ?_
      rintro e w1 ⟨rfl, rfl⟩
      clear n1
      go_wp2_with fail
      exact ⟨⟨k + 1, by go_num, by omega, by rw [HST.out], trivial⟩, by simp [RowKit.intOf]; omega⟩
    · obtain rfl : k = b.length := by omega
      rw [List.take_length]
      have hN := u32_not' _ (refRun_lt b)
      have HS : Hid (Wl.refSum b = Wl.crcNot (b.foldl Wl.refStep 4294967295)) := Lib.hid rfl
      generalize b.foldl Wl.refStep 4294967295 = x at *
      go_wp2_with fail
      go_ret
      rw [HS.out]
      exact ⟨rfl, rfl⟩

set_option maxRecDepth 100000 in
set_option maxHeartbeats 1000000 in
theorem r9_word (W : World) (n : Nat) (hn : n < 4294967296) :
    Calls Tryz.prog 98 #[.int .u32 n] W fun e W' => ∃ v, e = .returned v ∧ W'.ownsRow W.heap.size 5 1 v (Wl.word n).length (dkCells (Wl.word n)) ∧ Below W.heap.size W W' := by
  go_enter Tryz.func98, Tryz.ntmps98
  go_wp2_with fail
  go_ret
  refine ⟨_, rfl, ⟨by simp [dkCells_length], .inr ⟨W.heap.size, 4, _, rfl, Nat.le_refl _, heap_alloc_new _ _, Nat.le_refl _, by decide, rfl, ?_⟩⟩, (Below.refl _ _).alloc (Nat.le_refl _) _⟩
  simp [Wl.word, Lib.byteCells]
  omega

/-- an empty literal -/
theorem own_lit0 (W : World) {B : Nat} (hB : B ≤ W.heap.size) : (W.alloc (.cells #[] 5)).ownsRow B 5 1 (.slice (some ⟨W.heap.size, 0, none⟩) 0 0) ([] : Dk.Bs).length (dkCells []) :=
  ⟨rfl, .inr ⟨W.heap.size, 0, #[], rfl, hB, heap_alloc_new _ _, Nat.le_refl _, by decide, rfl, rfl⟩⟩

/-- bytes behind an empty literal -/
theorem lit_append (W : World) {v : Value} {l : Dk.Bs} (h : RdB W W.heap.size v l) (hl : l.length ≤ 100000000) :
    ∃ v1 w1, (Builtin.append_ #[22, 22] 22 #[.slice (some ⟨W.heap.size, 0, none⟩) 0 0, v]).run Tryz.prog (W.alloc (.cells #[] 5)) = .ok v1 w1 ∧ w1.ownsRow W.heap.size 5 1 v1 l.length (dkCells l) ∧ Below W.heap.size W w1 := by
  have hb : Below W.heap.size W (W.alloc (.cells #[] 5)) := (Below.refl _ _).alloc (Nat.le_refl _) _
  obtain ⟨v1, w1, r1, o1, g1⟩ := bytes_append (own_lit0 W (Nat.le_refl _)) ((h.below hb).mono hb.size) (by simp; omega) hb.size 22
  exact ⟨v1, w1, r1, by simpa using o1, hb.grown g1 hb.size (fun k hk => by cases hk; exact Nat.le_refl _)⟩
/-- bytes behind a row of the call's own -/
theorem more_append {W w : World} {v v2 : Value} {l m : Dk.Bs} (hb : Below W.heap.size W w) (o : w.ownsRow W.heap.size 5 1 v l.length (dkCells l)) (h : RdB w w.heap.size v2 m) (hl : l.length + m.length ≤ 100000000) :
    ∃ v1 w1, (Builtin.append_ #[22, 22] 22 #[v, v2]).run Tryz.prog w = .ok v1 w1 ∧ w1.ownsRow W.heap.size 5 1 v1 (l ++ m).length (dkCells (l ++ m)) ∧ Below W.heap.size W w1 := by
  obtain ⟨v1, w1, r1, o1, g1⟩ := bytes_append o h (by omega) hb.size 22
  exact ⟨v1, w1, r1, o1, hb.grown g1 hb.size (fun k hk => (o.lt k hk).1)⟩

set_option maxRecDepth 100000 in
set_option maxHeartbeats 1000000 in
theorem r9_Encode (W : World) (bv : Value) (p : Wl.Bs) (hb : RdB W W.heap.size bv p) (hl : p.length ≤ 1048576) :
    Calls Tryz.prog 44 #[bv] W fun e W' => ∃ v, e = .returned v ∧ W'.ownsRow W.heap.size 5 1 v (Wl.enc p).length (dkCells (Wl.enc p)) ∧ Below W.heap.size W W' := by
  have n1 := r9_word W p.length (by omega)
  have hp : (p.length : Int) % 4294967296 = p.length := by omega
  obtain ⟨a, cap, rfl⟩ := hb.form
  have HB := Lib.hid hb
  clear hb
  go_enter Tryz.func44, Tryz.ntmps44
  go_wp2_with fail
  refine n1.mono ?_
  rintro e w1 ⟨v1, rfl, o1, b1⟩
  have HW1 := Lib.hid (RdB.of_own o1)
  obtain ⟨v2, w2, r2, o2, b2⟩ := lit_append w1 (RdB.of_own o1) (by rw [Wl.word_length]; omega)
  have hB2 := b1.trans (b2.mono b1.size)
  obtain ⟨v3, w3, r3, o3, b3⟩ := more_append b2 o2 ((HB.out.below hB2).mono hB2.size) (by rw [Wl.word_length]; omega)
  have hB3 := b1.trans (b3.mono b1.size)
  have n4 := r9_Sum w3 v3 _ (RdB.of_own o3) (by rw [List.length_append, Wl.word_length]; omega)
  rw [Wl.refSum_eq] at n4
  obtain ⟨c, hc⟩ : ∃ c, c = Wl.ext (Wl.ext 0 (Wl.word p.length)) p := ⟨_, rfl⟩
  have hc32 : c < 4294967296 := by rw [hc]; exact Wl.ext_lt _ _
  rw [← hc] at n4
  obtain ⟨a1, c1, rfl⟩ := own_slice o1
  obtain ⟨z3, hz3⟩ : ∃ z, z = (Wl.word p.length ++ p).length := ⟨_, rfl⟩
  rw [← hz3] at o3
  obtain ⟨a3, c3, rfl⟩ := own_slice o3
  clear hz3
  have HB3 := Lib.hid hB3
  have HB13 := Lib.hid b3
  have HC := Lib.hid hc
  clear n1 o1 b1 hB2 hB3 b2 b3 o2 o3 hc
  have R2 := Lib.hid r2
  have R3 := Lib.hid r3
  clear r2 r3
  --@1
  go_wp2_with (at_builtin; first | refine Lib.wpList_append_run _ rfl _ _ _ _ rfl _ _ rfl rfl _ _ R2.out ?_ | refine Lib.wpList_append_run _ rfl _ _ _ _ rfl _ _ rfl rfl _ _ R3.out ?_)
  refine n4.mono ?_
  rintro e w4 ⟨rfl, rfl⟩
  have hw1 := (HW1.out.below HB13.out).mono HB13.out.size
  obtain ⟨v5, w5, r5, o5, b5⟩ := lit_append w3 hw1 (by rw [Wl.word_length]; omega)
  have n6 := r9_word w5 c hc32
  have R5 := Lib.hid r5
  clear n4 r5 R2 R3
  --@2
  go_wp2_with (at_builtin; refine Lib.wpList_append_run _ rfl _ _ _ _ rfl _ _ rfl rfl _ _ R5.out ?_)
  refine n6.mono ?_
  rintro e w6 ⟨v6, rfl, o6, b6⟩
  have hb36 := b5.trans (b6.mono b5.size)
  obtain ⟨v7, w7, r7, o7, b7⟩ := more_append hb36 (owns_below o5 b6) (RdB.of_own o6) (by rw [Wl.word_length, Wl.word_length]; omega)
  have hB7 := HB3.out.trans (b7.mono HB3.out.size)
  obtain ⟨v8, w8, r8, o8, b8⟩ := more_append b7 o7 ((HB.out.below hB7).mono hB7.size) (by rw [List.length_append, Wl.word_length, Wl.word_length]; omega)
  have he : Wl.word p.length ++ Wl.word c ++ p = Wl.enc p := by rw [HC.out]; exact List.append_assoc _ _ _
  rw [he] at o8
  have O8 := Lib.hid (owns_mono o8 HB3.out.size)
  have HB8 := Lib.hid (HB3.out.trans (b8.mono HB3.out.size))
  have R7 := Lib.hid r7
  have R8 := Lib.hid r8
  clear n6 r7 r8 R5 o5 b5 o6 b6 hb36 o7 b7 hB7 o8 b8 he hw1
  --@3
  go_wp2_with (at_builtin; first | refine Lib.wpList_append_run _ rfl _ _ _ _ rfl _ _ rfl rfl _ _ R7.out ?_ | refine Lib.wpList_append_run _ rfl _ _ _ _ rfl _ _ rfl rfl _ _ R8.out ?_)
  go_ret
  exact ⟨_, rfl, O8.out, HB8.out⟩

set_option maxRecDepth 100000 in
set_option maxHeartbeats 1000000 in
theorem r9_read (W : World) (bv : Value) (b : Wl.Bs) (hb : RdB W W.heap.size bv b) (hl : 4 ≤ b.length) :
    Calls Tryz.prog 107 #[bv] W fun e W' => e = .returned (.int .u32 (Wl.num b)) ∧ Below W.heap.size W W' ∧ W'.heap = W.heap := by
  obtain ⟨a, cap, rfl⟩ := hb.form
  obtain ⟨g, off, rfl, c0⟩ := hb.at 0 (by omega)
  obtain ⟨g1, off1, e1, c1⟩ := hb.at 1 (by omega)
  cases e1
  obtain ⟨g2, off2, e2, c2⟩ := hb.at 2 (by omega)
  cases e2
  obtain ⟨g3, off3, e3, c3⟩ := hb.at 3 (by omega)
  cases e3
  obtain ⟨x0, x1, x2, x3, r, rfl⟩ : ∃ x0 x1 x2 x3 r, b = x0 :: x1 :: x2 :: x3 :: r := by
    match b, hl with
    | x0 :: x1 :: x2 :: x3 :: r, _ => exact ⟨x0, x1, x2, x3, r, rfl⟩
  simp only [List.getElem_cons_zero, List.getElem_cons_succ, Nat.add_zero] at c0 c1 c2 c3
  have hn : Wl.num (x0 :: x1 :: x2 :: x3 :: r) = x0.toNat + 256 * x1.toNat + 65536 * x2.toNat + 16777216 * x3.toNat := rfl
  rw [hn]
  have h0 := UInt8.toNat_lt x0
  have h1 := UInt8.toNat_lt x1
  have h2 := UInt8.toNat_lt x2
  have h3 := UInt8.toNat_lt x3
  generalize (x0 :: x1 :: x2 :: x3 :: r).length = n at *
  have q0 : (0 : Int) < (n : Int) := by omega
  have q1 : (1 : Int) < (n : Int) := by omega
  have q2 : (2 : Int) < (n : Int) := by omega
  have q3 : (3 : Int) < (n : Int) := by omega
  have r0 : 0 < n := by omega
  have r1 : 1 < n := by omega
  have r2 : 2 < n := by omega
  have r3 : 3 < n := by omega
  generalize x0.toNat = y0 at *
  generalize x1.toNat = y1 at *
  generalize x2.toNat = y2 at *
  generalize x3.toNat = y3 at *
  have w : ∀ n : Nat, n < 4294967296 → IntKind.u32.wrap (n : Int) = (n : Int) := fun n hn => by simp [IntKind.wrap, IntKind.bits, IntKind.signed]; omega
  have v0 := w y0 (by omega)
  have v1 := w y1 (by omega)
  have v2 := w y2 (by omega)
  have v3 := w y3 (by omega)
  obtain ⟨m1, hm1⟩ : ∃ m, m = y1 * 256 := ⟨_, rfl⟩
  obtain ⟨m2, hm2⟩ : ∃ m, m = y2 * 65536 := ⟨_, rfl⟩
  obtain ⟨m3, hm3⟩ : ∃ m, m = y3 * 16777216 := ⟨_, rfl⟩
  have u1 : (y1 : Int) * 256 = (m1 : Int) := by omega
  have u2 : (y2 : Int) * 65536 = (m2 : Int) := by omega
  have u3 : (y3 : Int) * 16777216 = (m3 : Int) := by omega
  have t1 := w m1 (by omega)
  have t2 := w m2 (by omega)
  have t3 := w m3 (by omega)
  obtain ⟨s1, hs1⟩ : ∃ s, s = y0 + m1 := ⟨_, rfl⟩
  obtain ⟨s2, hs2⟩ : ∃ s, s = s1 + m2 := ⟨_, rfl⟩
  obtain ⟨s3, hs3⟩ : ∃ s, s = s2 + m3 := ⟨_, rfl⟩
  have a1 : (y0 : Int) + (m1 : Int) = (s1 : Int) := by omega
  have a2 : (s1 : Int) + (m2 : Int) = (s2 : Int) := by omega
  have a3 : (s2 : Int) + (m3 : Int) = (s3 : Int) := by omega
  have z1 := w s1 (by omega)
  have z2 := w s2 (by omega)
  have z3 := w s3 (by omega)
  have HS : Hid (y0 + 256 * y1 + 65536 * y2 + 16777216 * y3 = s3) := Lib.hid (by omega)
  have d0 : W.drew.cell? ⟨g, off, none⟩ = _ := c0
  have d1 : W.drew.cell? ⟨g, off + 1, none⟩ = _ := c1
  have d2 : W.drew.cell? ⟨g, off + 2, none⟩ = _ := c2
  have d3 : W.drew.cell? ⟨g, off + 3, none⟩ = _ := c3
  clear hb hn hl hm1 hm2 hm3 hs1 hs2 hs3 w
  go_enter Tryz.func107, Tryz.ntmps107
  go_wp2_with fail
  refine wp_region_still_lit (by kernel_rfl) (by kernel_rfl) ?_
  change wpStill _ _ (World.drew _) _ _ _
  repeat still_step
  refine wpStill_nil ?_
  change Exit.then _ _ Exit.normal _ (World.drew W)
  go_wp2_with fail
  go_ret
  rw [HS.out]
  exact ⟨rfl, Below.drew (Below.refl _ _), rfl⟩

end Go.Proofs.YtamencnachmhoaaGreatDoor

namespace Go.Proofs.YtamencnachmhoaaGreatDoor
open Go.RowKit

theorem lit_own {W w : World} {k : Nat} (hk : W.heap.size ≤ k) (h : w.heap[k]? = some (.cells #[] 5 (0, 0))) : w.ownsRow W.heap.size 5 1 (.slice (some ⟨k, 0, none⟩) 0 0) ([] : Dk.Bs).length (dkCells []) :=
  ⟨rfl, .inr ⟨k, 0, #[], rfl, hk, h, Nat.le_refl _, by decide, rfl, rfl⟩⟩

/-- bytes behind a row, as a step of a region that draws its order -/
theorem step_bytes_append {W w : World} {ops : Array Oper} {o : Oper} {a : Act} {K : Act → World → Prop} {Q : Exit → Act → World → Prop} {E : Prop} (hgd : o.guard = none) (s x : Operand)
    (ho : o.op = .call { callee := .builtin .append, args := #[s, x], argTypes := #[22, 22] })
    {v v2 : Value} {l0 l : Dk.Bs} (hs : a.eval s = v) (hx : a.eval x = v2) (hb : Below W.heap.size W w) (hown : w.ownsRow W.heap.size 5 1 v l0.length (dkCells l0)) (hrd : RdB w w.heap.size v2 l) (hl : l0.length + l.length ≤ 100000000)
    (h : ∀ v1 w1, w1.ownsRow W.heap.size 5 1 v1 (l0 ++ l).length (dkCells (l0 ++ l)) → Below W.heap.size W w1 → K (a.put o.dst v1) w1) :
    if Region.wanted o (yielded ops a.tmps) = true then Oper.wp Tryz.prog o a w K Q else E := by
  obtain ⟨v1, w1, r1, o1, g1⟩ := bytes_append hown hrd (by omega) hb.size o.type
  exact step_append_eq hgd s x _ ho _ _ _ _ hs hx r1 (h v1 w1 o1 (hb.grown g1 hb.size (fun k hk => (hown.lt k hk).1)))

set_option maxRecDepth 100000 in
set_option maxHeartbeats 1000000 in
theorem r9_Next (W : World) (bv : Value) (b : Wl.Bs) (hb : RdB W W.heap.size bv b) (hl : b.length ≤ 90000000) :
    Calls Tryz.prog 50 #[bv] W fun e W' => ∃ v, e = .returned (.tuple #[v, .int .i64 (Wl.nextR b).2.1, .int .i64 (Wl.nextR b).2.2]) ∧ W'.ownsRow W.heap.size 5 1 v (Wl.nextR b).1.length (dkCells (Wl.nextR b).1) ∧ Below W.heap.size W W' := by
  by_cases h8 : b.length < 8
  · obtain ⟨a, cap, rfl⟩ := hb.form
    have HQ : Hid (Wl.nextR b = ([], 0, 19)) := Lib.hid (by unfold Wl.nextR; rw [if_pos h8])
    have h8i : (b.length : Int) < 8 := by omega
    clear hb
    go_enter Tryz.func50, Tryz.ntmps50
    go_wp2_with fail
    go_ret3
    rw [HQ.out]
    exact ⟨_, rfl, World.ownsRow_nil _ _ _ _, Below.refl _ _⟩
  · have h8i : ¬ (b.length : Int) < 8 := by omega
    have n1 := r9_read W bv b hb (by omega)
    obtain ⟨a, cap, rfl⟩ := hb.form
    obtain ⟨g, off, rfl, -⟩ := hb.at 0 (by omega)
    obtain ⟨m, hm⟩ : ∃ m, m = Wl.num b := ⟨_, rfl⟩
    have hm32 := num_lt b
    rw [← hm] at n1 hm32
    have hmw : IntKind.i64.wrap (m : Int) = (m : Int) := IntWalk.i64_in _ (by omega)
    by_cases hbig : 1048576 < m
    · have HQ : Hid (Wl.nextR b = ([], 0, 2)) := Lib.hid (by unfold Wl.nextR; rw [if_neg h8, ← hm, if_pos hbig])
      have hbi : (1048576 : Int) < (m : Int) := by omega
      clear hb hm
      go_enter Tryz.func50, Tryz.ntmps50
      go_wp2_with fail
      refine n1.mono ?_
      rintro e W1 ⟨rfl, b1, -⟩
      clear n1
      go_wp2_with fail
      go_ret3
      rw [HQ.out]
      exact ⟨_, rfl, World.ownsRow_nil _ _ _ _, b1⟩
    · have hbi : ¬ (1048576 : Int) < (m : Int) := by omega
      have hmw2 : IntKind.i64.wrap (8 + (m : Int)) = 8 + (m : Int) := IntWalk.i64_in _ (by omega)
      have hmw3 : wrap64 (8 + (m : Int)) = 8 + (m : Int) := by unfold wrap64; omega
      by_cases hsh : b.length < 8 + m
      · have HQ : Hid (Wl.nextR b = ([], 0, 19)) := Lib.hid (by unfold Wl.nextR; rw [if_neg h8, ← hm, if_neg hbig, if_pos hsh])
        have hshi : (b.length : Int) < 8 + (m : Int) := by omega
        clear hb hm
        go_enter Tryz.func50, Tryz.ntmps50
        go_wp2_with fail
        refine n1.mono ?_
        rintro e W1 ⟨rfl, b1, -⟩
        clear n1
        go_wp2_with fail
        go_ret3
        rw [HQ.out]
        exact ⟨_, rfl, World.ownsRow_nil _ _ _ _, b1⟩
      · have hshi : ¬ (b.length : Int) < 8 + (m : Int) := by omega
        obtain ⟨hp4, hcap⟩ := hb.part 0 4 (by omega) (by omega)
        obtain ⟨hp8, -⟩ := hb.part 8 m (by omega) (by omega)
        obtain ⟨hd4, -⟩ := hb.part 4 (b.length - 4) (by omega) (by omega)
        simp only [Nat.add_zero, Nat.sub_zero, List.drop_zero] at hp4
        rw [List.take_of_length_le (by rw [List.length_drop]; exact Nat.le_refl _)] at hd4
        obtain ⟨pl, hpl⟩ : ∃ pl, pl = (b.drop 8).take m := ⟨_, rfl⟩
        have hpll : pl.length = m := by rw [hpl, List.length_take, List.length_drop]; omega
        rw [← hpl] at hp8
        have hQ : Wl.nextR b = if Wl.ext (Wl.ext 0 (b.take 4)) pl ≠ Wl.num (b.drop 4) then ([], 0, 18) else (pl, 8 + m, 0) := by
          unfold Wl.nextR; rw [if_neg h8, ← hm, if_neg hbig, if_neg hsh, hpl]
        have HQ := Lib.hid hQ
        have nN : Hid (∀ o, Below W.heap.size W o → Calls Tryz.prog 107 #[.slice (some ⟨g, off + 4, none⟩) (b.length - 4) (cap - 4)] o fun e W' => e = .returned (.int .u32 (Wl.num (b.drop 4))) ∧ Below o.heap.size o W' ∧ W'.heap = o.heap) :=
          Lib.hid (fun o ho => r9_read o _ _ ((hd4.below ho).mono ho.size) (by rw [List.length_drop]; omega))
        have H4 : Hid (RdB W W.heap.size (.slice (some ⟨g, off, none⟩) 4 cap) (b.take 4)) := Lib.hid hp4
        have hl4 : (b.take 4).length = 4 := by rw [List.length_take]; omega
        have HL4 := Lib.hid hl4
        obtain ⟨ad8, had8⟩ : ∃ ad8 : Addr, ad8 = if cap = 8 then ⟨g, off, none⟩ else ⟨g, off + 8, none⟩ := ⟨_, rfl⟩
        have hr8 : RdB W W.heap.size (.slice (some ad8) m (cap - 8)) pl := by
          by_cases hc : cap = 8
          · have hm0 : m = 0 := by omega
            have hpl0 : pl = [] := List.eq_nil_of_length_eq_zero (by omega)
            rw [hpl0, hm0]
            exact .inl ⟨rfl, _, _, rfl⟩
          · rw [had8, if_neg hc]; exact hp8
        have H8 := Lib.hid hr8
        have nS : Hid (∀ (o : World) (B : Nat) (v : Value), o.ownsRow B 5 1 v (b.take 4 ++ pl).length (dkCells (b.take 4 ++ pl)) → Calls Tryz.prog 99 #[v] o fun e W' => e = .returned (.int .u32 (Wl.ext (Wl.ext 0 (b.take 4)) pl)) ∧ o = W') := Lib.hid (fun o B v ho => by
          have h := r9_Sum o v _ (RdB.of_own ho) (by rw [List.length_append, hl4, hpll]; omega)
          rw [Wl.refSum_eq] at h
          exact h)
        generalize Wl.ext (Wl.ext 0 (b.take 4)) pl = x5 at *
        generalize Wl.num (b.drop 4) = x6 at *
        have HPL := Lib.hid hpll
        generalize b.length = bl at *
        clear hb hm hp4 hp8 hd4 hQ hpl hpll hr8 hl4
        have hc4 : ¬ cap = 4 := by omega
        have k1 : (8 : Int) + (m : Int) ≤ (cap : Int) := by omega
        have k2 : (8 : Int) ≤ 8 + (m : Int) := by omega
        have k3 : (8 + (m : Int)).toNat = 8 + m := by omega
        have k4 : 8 + m - 8 = m := by omega
        have k5 : (4 : Int) ≤ (cap : Int) := by omega
        have k6 : (4 : Int) ≤ (bl : Int) := by omega
        have k7 : (bl : Int) ≤ (cap : Int) := by omega
        have k9 : 4 ≤ cap := by omega
        have k10 : 4 ≤ bl := by omega
        have k11 : bl ≤ cap := by omega
        by_cases hc8 : cap = 8
        · have hm0 : m = 0 := by omega
          subst hm0
          subst hc8
          have hbl8 : bl = 8 := by omega
          subst hbl8
          rw [if_pos rfl] at had8
          subst had8
          clear k1 k2 k3 k4 k5 k6 k7 k9 k10 k11 hc4 hmw2 hmw3 hmw hbi hshi h8i h8 hcap hsh hbig hm32 hl
          go_enter Tryz.func50, Tryz.ntmps50
          go_wp2_with fail
          refine n1.mono ?_
          rintro e W1 ⟨rfl, b1, hh1⟩
          have HB1 := Lib.hid b1
          obtain ⟨v2, w2, r2, o2, b2⟩ := lit_append W1 ((H8.out.below b1).mono b1.size) (by have := HPL.out; omega)
          have R2 := Lib.hid r2
          have O2 := Lib.hid o2
          have B2 := Lib.hid b2
          clear n1 r2 o2 b2 b1 hh1
          --@1
          go_wp2_with (at_builtin; refine Lib.wpList_append_run _ rfl _ _ _ _ rfl _ _ rfl rfl _ _ R2.out ?_)
          have HS0 := Lib.hid (HB1.out.trans (B2.out.mono HB1.out.size))
          have HP2 := Lib.hid (RdB.of_own O2.out)
          have hS0 : Below w2.heap.size w2 w2 := Below.refl _ _
          have up : ∀ {o : World}, Below w2.heap.size w2 o → Below W.heap.size W o := fun ho => HS0.out.trans (ho.mono HS0.out.size)
          have UP := Lib.hid (fun o (ho : Below w2.heap.size w2 o) => up ho)
          clear up
          go_region_held3 (fun w' => Below w2.heap.size w2 w')
            (first | assumption | exact Below.drew (by assumption) | exact Below.alloc (by assumption) (Below.size (by assumption)) _)
            (first
              | (go_at_call 107; refine (nN.out _ (UP.out _ (by assumption))).mono ?_; rintro e w4 ⟨rfl, hb4, hh4⟩; have hS4 := next_S (by assumption) hb4)
              | (go_at_call 99; refine (nS.out _ _ _ (by assumption)).mono ?_; rintro e w7 ⟨rfl, rfl⟩)
              | (refine step_bytes_append (W := w2) rfl _ _ rfl (l0 := List.take 4 b) (l := pl) rfl rfl (by assumption) (by assumption) ((HP2.out.below (by assumption)).mono (Below.size (by assumption))) (by have := HL4.out; have := HPL.out; omega) ?_; intro v6 w6 o6 hS6)
              | (refine step_bytes_append (W := w2) rfl _ _ rfl (l0 := []) (l := List.take 4 b) rfl rfl (by assumption) (lit_own (by first | exact Nat.le_refl _ | exact Below.size (by assumption)) (by first | exact heap_alloc_new _ _ | (have h := heap_alloc_new w4 (Obj.cells #[] 5); rw [hh4] at h; exact h) | (rw [hh4]; exact heap_alloc_new _ _))) ((H4.out.below (UP.out _ (by assumption))).mono (Below.size (UP.out _ (by assumption)))) (by have := HL4.out; simp; omega) ?_; intro v5 w5 o5 hS5))
          all_goals
            by_cases heq : x5 = x6
            · have hei : (x5 : Int) = (x6 : Int) := by omega
              subst heq
              go_wp2_with fail
              go_ret3
              rw [HQ.out, if_neg (by simp)]
              simp only []
              exact ⟨_, rfl, owns_mono ((HPL.out ▸ owns_below O2.out (by assumption))) HB1.out.size, UP.out _ (by assumption)⟩
            · have hei : ¬ (x5 : Int) = (x6 : Int) := by omega
              go_wp2_with fail
              go_ret3
              rw [HQ.out, if_pos heq]
              exact ⟨_, rfl, World.ownsRow_nil _ _ _ _, UP.out _ (by assumption)⟩

        · rw [if_neg hc8] at had8
          subst had8
          go_enter Tryz.func50, Tryz.ntmps50
          go_wp2_with fail
          refine n1.mono ?_
          rintro e W1 ⟨rfl, b1, hh1⟩
          have HB1 := Lib.hid b1
          obtain ⟨v2, w2, r2, o2, b2⟩ := lit_append W1 ((H8.out.below b1).mono b1.size) (by have := HPL.out; omega)
          have R2 := Lib.hid r2
          have O2 := Lib.hid o2
          have B2 := Lib.hid b2
          clear n1 r2 o2 b2 b1 hh1 hsh hcap hl hbig hm32
          --@1
          go_wp2_with (at_builtin; refine Lib.wpList_append_run _ rfl _ _ _ _ rfl _ _ rfl rfl _ _ R2.out ?_)
          have HS0 := Lib.hid (HB1.out.trans (B2.out.mono HB1.out.size))
          have HP2 := Lib.hid (RdB.of_own O2.out)
          have hS0 : Below w2.heap.size w2 w2 := Below.refl _ _
          have up : ∀ {o : World}, Below w2.heap.size w2 o → Below W.heap.size W o := fun ho => HS0.out.trans (ho.mono HS0.out.size)
          have UP := Lib.hid (fun o (ho : Below w2.heap.size w2 o) => up ho)
          clear up
          go_region_held3 (fun w' => Below w2.heap.size w2 w')
            (first | assumption | exact Below.drew (by assumption) | exact Below.alloc (by assumption) (Below.size (by assumption)) _)
            (first
              | (go_at_call 107; refine (nN.out _ (UP.out _ (by assumption))).mono ?_; rintro e w4 ⟨rfl, hb4, hh4⟩; have hS4 := next_S (by assumption) hb4)
              | (go_at_call 99; refine (nS.out _ _ _ (by assumption)).mono ?_; rintro e w7 ⟨rfl, rfl⟩)
              | (refine step_bytes_append (W := w2) rfl _ _ rfl (l0 := List.take 4 b) (l := pl) rfl rfl (by assumption) (by assumption) ((HP2.out.below (by assumption)).mono (Below.size (by assumption))) (by have := HL4.out; have := HPL.out; omega) ?_; intro v6 w6 o6 hS6)
              | (refine step_bytes_append (W := w2) rfl _ _ rfl (l0 := []) (l := List.take 4 b) rfl rfl (by assumption) (lit_own (by first | exact Nat.le_refl _ | exact Below.size (by assumption)) (by first | exact heap_alloc_new _ _ | (have h := heap_alloc_new w4 (Obj.cells #[] 5); rw [hh4] at h; exact h) | (rw [hh4]; exact heap_alloc_new _ _))) ((H4.out.below (UP.out _ (by assumption))).mono (Below.size (UP.out _ (by assumption)))) (by have := HL4.out; simp; omega) ?_; intro v5 w5 o5 hS5))
          all_goals
            by_cases heq : x5 = x6
            · have hei : (x5 : Int) = (x6 : Int) := by omega
              subst heq
              go_wp2_with fail
              go_ret3
              rw [HQ.out, if_neg (by simp)]
              simp only []
              exact ⟨_, rfl, owns_mono ((HPL.out ▸ owns_below O2.out (by assumption))) HB1.out.size, UP.out _ (by assumption)⟩
            · have hei : ¬ (x5 : Int) = (x6 : Int) := by omega
              go_wp2_with fail
              go_ret3
              rw [HQ.out, if_pos heq]
              exact ⟨_, rfl, World.ownsRow_nil _ _ _ _, UP.out _ (by assumption)⟩

end Go.Proofs.YtamencnachmhoaaGreatDoor
