/-
  ParserValid: the walk.
-/
import Derived.Test.YtampjeghdcpgfaaGreatDoorPsKnow
import Derived.Test.YtampjeghdcpgfaaGreatDoorPlTok
namespace Go.Proofs.YtampjeghdcpgfaaGreatDoor
open Go.RowKit

/-- a whole request out of memory -/
theorem ld_req (g : Nat) (Q : Ps.Req) (lv : Value) (w : World) (h : w.heap[g]? = some (.cells (reqCells Q lv) 29 (0, 0))) : (Instr.loadAt 29 (.pointer (some ⟨g, 0, none⟩))).run Tryz.prog w = .ok (.agg (reqCells Q lv)) w := by
  have := run_loadVar_row (P := Tryz.prog) w g 29 29 (reqCells Q lv) (0, 0) _ h Tryz.underlying29 rfl (by kernel_rfl)
  unfold Instr.loadAt
  simp [Instr.sureAddr, this]
set_option maxRecDepth 100000 in
theorem bd29 (ρ : Operand → Value) (w : World) : (Instr.build 29 ((#[] : Array (Nat × Operand)).map fun (i, x) => (i, ρ x))).run Tryz.prog w = .ok (.agg (reqCells {} (.slice none 0 0))) w := by
  go_simp
  rfl

set_option maxRecDepth 100000 in
set_option maxHeartbeats 1000000 in
theorem pv_long (w : World) (s : ByteArray) (hs : (400 : Int) < (s.size : Int))
    (m1 : Hid (∀ W, Below w.heap.size w W → Calls Tryz.prog 11 #[] W fun e W' => e = .returned (.bool true) ∧ Below W.heap.size W W')) :
    Calls Tryz.prog 6 #[.string s] w fun e W' => e = .returned (.bool true) ∧ Below w.heap.size w W' := by
  have HB0 : Hid (Below w.heap.size w w) := Lib.hid (Below.refl _ _)
  go_enter Tryz.func6, Tryz.ntmps6
  go_upto_region 2 with (go_at_call 11; refine (m1.out _ HB0.out).mono ?_; rintro e w1 ⟨rfl, hb1⟩; have HB1 := Lib.hid (HB0.out.trans (hb1.mono HB0.out.size)); clear hb1)
  go_wp2_with (go_at_call 11; refine (m1.out _ HB1.out).mono ?_; rintro e w2 ⟨rfl, hb2⟩; have HB2 := Lib.hid (HB1.out.trans (hb2.mono HB1.out.size)); clear hb2)
  go_ret
  exact ⟨rfl, HB2.out⟩

set_option maxRecDepth 100000 in
set_option maxHeartbeats 1000000 in
theorem pv_bad (w : World) (s : ByteArray) (hs : (s.size : Int) ≤ 400) (o x : Int) (hx : (x != 0) = true) (h0 : 0 ≤ o) (h1 : o ≤ 400)
    (m1 : Hid (∀ W, Below w.heap.size w W → Calls Tryz.prog 11 #[] W fun e W' => e = .returned (.bool true) ∧ Below W.heap.size W W'))
    (m2 : Hid (∀ W, Below w.heap.size w W → PrsC W s {} o x)) :
    Calls Tryz.prog 6 #[.string s] w fun e W' => e = .returned (.bool true) ∧ Below w.heap.size w W' := by
  have HB0 : Hid (Below w.heap.size w w) := Lib.hid (Below.refl _ _)
  have hst := st_req
  go_enter Tryz.func6, Tryz.ntmps6
  go_upto_region 3 with (go_at_call 11; refine (m1.out _ HB0.out).mono ?_; rintro e w1 ⟨rfl, hb1⟩; have HB1 := Lib.hid (HB0.out.trans (hb1.mono HB0.out.size)); clear hb1)
  go_upto_region 5 with (go_at_call 12; refine (m2.out _ HB1.out).mono ?_; rintro e w2 ⟨a, n, c, rfl, hl2, hb2⟩; have HL2 := Lib.hid hl2; have HB2 := Lib.hid (HB1.out.trans (hb2.mono HB1.out.size)); clear hb2 hl2)
  obtain ⟨g, hg⟩ : ∃ g, g = w2.heap.size := ⟨_, rfl⟩
  obtain ⟨W3, hW3⟩ : ∃ W3, W3 = w2.alloc (.cells (reqCells {} (.slice a n c)) 29) := ⟨_, rfl⟩
  have HR3 : Hid (W3.heap[g]? = some (.cells (reqCells {} (.slice a n c)) 29 (0, 0))) := Lib.hid (by rw [hW3, hg]; exact ps_alloc_new w2 _)
  have HB3 : Hid (Below w.heap.size w W3) := Lib.hid (by rw [hW3]; exact HB2.out.alloc HB2.out.size _)
  have HL3 : Hid (LkAt W3 w1.heap.size (.slice a n c) []) := Lib.hid (by rw [hW3]; exact LkAt.below HL2.out ((Below.refl _ _).alloc (Nat.le_refl _) _))
  rw [← hW3, ← hg]
  clear hW3 hg HB2 HB1 HL2 hst m1 m2
  have m3 := eq_req W3 {} w1.heap.size 0 a none n c 0 0 (by decide) HL3.out (LkAt.nil _ _)
  refine wp_region_lit ?_
  refine wl_load rfl rfl rfl rfl (ld_req g {} (.slice a n c) W3 HR3.out) ?_
  refine wl_build rfl rfl rfl (bd29 _ W3) ?_
  go_wp2_with (go_at_call 22; refine m3.mono ?_; rintro e w4 ⟨rfl, hb4⟩; have HB4 := Lib.hid (HB3.out.trans (hb4.mono HB3.out.size)); clear hb4 m3)
  go_ret
  exact ⟨rfl, HB4.out⟩

set_option maxRecDepth 100000 in
set_option maxHeartbeats 1000000 in
theorem pv_good (w : World) (s : ByteArray) (hs : (s.size : Int) ≤ 400) (Q : Ps.Req)
    (m1 : Hid (∀ W, Below w.heap.size w W → Calls Tryz.prog 11 #[] W fun e W' => e = .returned (.bool true) ∧ Below W.heap.size W W'))
    (m2 : Hid (∀ W, Below w.heap.size w W → PrsC W s Q 0 0))
    (m3 : Hid (∀ W B a n c, Below w.heap.size w W → LkAt W B (.slice a n c) Q.ins.links → Calls Tryz.prog 23 #[.agg (reqCells Q (.slice a n c))] W fun e W' => e = .returned (.int .i64 0) ∧ Below W.heap.size W W')) :
    Calls Tryz.prog 6 #[.string s] w fun e W' => e = .returned (.bool true) ∧ Below w.heap.size w W' := by
  have HB0 : Hid (Below w.heap.size w w) := Lib.hid (Below.refl _ _)
  have hst := st_req
  go_enter Tryz.func6, Tryz.ntmps6
  go_upto_region 3 with (go_at_call 11; refine (m1.out _ HB0.out).mono ?_; rintro e w1 ⟨rfl, hb1⟩; have HB1 := Lib.hid (HB0.out.trans (hb1.mono HB0.out.size)); clear hb1)
  go_upto_region 6 with (go_at_call 12; refine (m2.out _ HB1.out).mono ?_; rintro e w2 ⟨a, n, c, rfl, hl2, hb2⟩; have HL2 := Lib.hid hl2; have HB2 := Lib.hid (HB1.out.trans (hb2.mono HB1.out.size)); clear hb2 hl2)
  obtain ⟨g, hg⟩ : ∃ g, g = w2.heap.size := ⟨_, rfl⟩
  obtain ⟨W3, hW3⟩ : ∃ W3, W3 = w2.alloc (.cells (reqCells Q (.slice a n c)) 29) := ⟨_, rfl⟩
  have HR3 : Hid (W3.heap[g]? = some (.cells (reqCells Q (.slice a n c)) 29 (0, 0))) := Lib.hid (by rw [hW3, hg]; exact ps_alloc_new w2 _)
  have HB3 : Hid (Below w.heap.size w W3) := Lib.hid (by rw [hW3]; exact HB2.out.alloc HB2.out.size _)
  have HL3 : Hid (LkAt W3 w1.heap.size (.slice a n c) Q.ins.links) := Lib.hid (by rw [hW3]; exact LkAt.below HL2.out ((Below.refl _ _).alloc (Nat.le_refl _) _))
  rw [← hW3, ← hg]
  have m4 := m3.out W3 _ a n c HB3.out HL3.out
  clear hW3 hg HB2 HB1 HL2 hst m1 m2 m3
  refine wp_region_lit ?_
  refine wl_load rfl rfl rfl rfl (ld_req g Q (.slice a n c) W3 HR3.out) ?_
  go_wp2_with (go_at_call 23; refine m4.mono ?_; rintro e w4 ⟨rfl, hb4⟩; have HB4 := Lib.hid (HB3.out.trans (hb4.mono HB3.out.size)); clear hb4 m4)
  go_ret
  exact ⟨rfl, HB4.out⟩

/-- the law -/
theorem law_pvalid {m : Int} {kb ko kc : Nat} {w : World} (env : PvEnv m kb ko kc w) (s : ByteArray) (_ : s.size ≤ maxLen) : Calls Tryz.prog 6 #[.string s] w fun e W' => e = .returned (.bool true) ∧ Below w.heap.size w W' := by
  have m1 : Hid (∀ W, Below w.heap.size w W → Calls Tryz.prog 11 #[] W fun e W' => e = .returned (.bool true) ∧ Below W.heap.size W W') := Lib.hid fun W hW => pr_known (env.below hW)
  by_cases hs : 400 < s.size
  · exact pv_long w s (by omega) m1
  · obtain ⟨h1, h2⟩ := Ps.parse_valid psE0 psR s (by omega)
    have hp := fun (W : World) (hW : Below w.heap.size w W) => prs_of env s (by omega) W hW
    by_cases he : (Ps.parse psE0 psR s).2.2 = 0
    · obtain ⟨h3, h4⟩ := h1 he
      rw [he, h4] at hp
      refine pv_good w s (by omega) _ m1 (Lib.hid hp) (Lib.hid fun W B a n c hW hl => ?_)
      have := chk_of env.id (ins_c env.id) W B _ a n c hW hl
      rw [h3] at this
      exact this
    · obtain ⟨h3, h4, h5⟩ := h2 he
      rw [h3] at hp
      exact pv_bad w s (by omega) _ _ (by simp [he]) h4 (by omega) m1 (Lib.hid hp)
end Go.Proofs.YtampjeghdcpgfaaGreatDoor
