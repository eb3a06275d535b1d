/-
  THE LAW LexerIdentifiers: the walk of the law.
-/
import Derived.Test.YtadhhknhfipihaaDoorId6
import Derived.Test.YtadhhknhfipihaaDoorLex6
namespace Go.Proofs.YtadhhknhfipihaaDoor
open Go.RowKit Go.Lib

structure IdsEnv (m : Int) (kb ko kc : Nat) (W : World) : Prop where
  lex : LxEnv m kb ko kc W
  ids : IdEnv W
  am : AmEnv m W
theorem IdsEnv.below {m : Int} {kb ko kc : Nat} {W W' : World} (h : IdsEnv m kb ko kc W) (hb : Below W.heap.size W W') : IdsEnv m kb ko kc W' := ⟨h.lex.below hb, h.ids.below hb, h.am.below hb⟩

set_option maxRecDepth 100000 in
set_option maxHeartbeats 2000000 in
theorem law_ids (s : ByteArray) (w : World) (m : Int) (kb ko kc : Nat) (hs : s.size ≤ 9223372036854775807) (h : IdsEnv m kb ko kc w) :
    Calls Tryd.prog 4 #[.string s] w fun e w' => e = .returned (.bool true) ∧ Below w.heap.size w w' := by
  have H := Lib.hid h
  clear h
  by_cases h32 : 32 < s.size
  · go_enter Tryd.func4, Tryd.ntmps4
    go_wp2_with fail
    refine (lx_known w m kb ko kc H.out.lex).mono ?_
    rintro e w5 ⟨rfl, hb5⟩
    go_wp2_with fail
    go_ret
    exact ⟨rfl, hb5⟩
  · have hs32 : s.size ≤ 32 := by omega
    have HS : Hid (s.size ≤ 32) := Lib.hid hs32
    have HCL := Lib.hid (fun W (hW : IdsEnv m kb ko kc W) => lx_classify s W m kb ko kc hs hW.lex)
    have HV := Lib.hid (fun k hk W (hW : IdsEnv m kb ko kc W) => id_valid k hk s W (by omega) hW.ids)
    have HP := Lib.hid (fun W (hW : IdsEnv m kb ko kc W) => am_parse s W m hs32 hW.am)
    have HK := Lib.hid (fun W (hW : IdsEnv m kb ko kc W) => lx_known W m kb ko kc hW.lex)
    obtain ⟨hd1, hd2⟩ := ids_classify_decimal s hs32
    have HCMP : Hid (∀ f : Int, (f = 3 ↔ Lx.decimal s.data.toList = false) → (((Lx.classify s).2 == 0 && (Lx.classify s).1 == 3) : Bool) = (f != 3)) := Lib.hid (fun f hf => by
      cases hq : Lx.decimal s.data.toList with
      | true =>
        rw [hd1 hq]
        rw [hq] at hf
        have : f ≠ 3 := fun h => absurd (hf.1 h) (by decide)
        symm
        simpa using this
      | false =>
        rw [hf.2 hq]
        have := hd2 hq
        rw [show ((3 : Int) != 3) = false by decide, Bool.and_eq_false_iff]
        by_cases h0 : (Lx.classify s).2 = 0
        · right; rw [beq_eq_false_iff_ne]; exact fun h3 => this ⟨h0, h3⟩
        · left; rw [beq_eq_false_iff_ne]; exact h0)
    have HR := Lib.hid (ids_classify_ref s)
    have HN := Lib.hid (fun k hk => ids_classify_name k hk s)
    clear hd1 hd2 hs32
    generalize Lx.classify s = kl at *
    obtain ⟨k, e⟩ := kl
    go_enter Tryd.func4, Tryd.ntmps4
    go_wp2_with fail
    refine (HCL.out _ H.out).mono ?_
    rintro x w1 ⟨rfl, hb1⟩
    have H1 := Lib.hid (H.out.below hb1)
    go_wp2_with fail
    refine (HV.out 2 (by decide) _ H1.out).mono ?_
    rintro x w2 ⟨⟨b2, rfl, hv2⟩, hbel⟩
    have H2 := Lib.hid (H1.out.below hbel)
    have hB2 : Below w.heap.size w w2 := hb1.trans (hbel.mono hb1.size)
    clear hb1 hbel
    have hsplit : b2 = false ∨ (b2 = true ∧ e = 0 ∧ (k = 1 ∨ k = 2 ∨ k = 4)) := by
      cases b2 with
      | false => exact Or.inl rfl
      | true => exact Or.inr ⟨rfl, HR.out (hv2 rfl)⟩
    clear hv2 HR
    rcases hsplit with rfl | ⟨rfl, rfl, rfl | rfl | rfl⟩
    all_goals go_wp2_with fail
    all_goals refine (HV.out 0 (by decide) _ H2.out).mono ?_
    all_goals rintro x w3 ⟨⟨b0, rfl, hv0⟩, hbel⟩
    all_goals have H3 := Lib.hid (H2.out.below hbel)
    all_goals have hB3 : Below w.heap.size w w3 := hB2.trans (hbel.mono hB2.size)
    all_goals clear hbel H1 H2 hB2
    all_goals cases b0
    all_goals try (have hq := HN.out 0 (Or.inl rfl) (hv0 rfl); first | exact absurd hq (by decide) | skip)
    all_goals clear hv0
    all_goals try cases ‹(_, _) = (_, _)›
    all_goals go_wp2_with fail
    all_goals try (
      refine (HV.out 3 (by decide) _ H3.out).mono ?_
      rintro x w4 ⟨⟨b3, rfl, hv3⟩, hbel⟩
      have H4 := Lib.hid (H3.out.below hbel)
      have hB4 : Below w.heap.size w w4 := hB3.trans (hbel.mono hB3.size)
      clear hbel H3 hB3
      cases b3
      all_goals try (have hq := HN.out 3 (Or.inr (Or.inr rfl)) (hv3 rfl); first | exact absurd hq (by decide) | skip)
      all_goals clear hv3
      all_goals try cases ‹(_, _) = (_, _)›
      all_goals go_wp2_with fail)
    all_goals try (
      refine (HV.out 1 (by decide) _ H4.out).mono ?_
      rintro x w5 ⟨⟨b1, rfl, hv1⟩, hbel⟩
      have H5 := Lib.hid (H4.out.below hbel)
      have hB5 : Below w.heap.size w w5 := hB4.trans (hbel.mono hB4.size)
      clear hbel H4 hB4
      cases b1
      all_goals try (have hq := HN.out 1 (Or.inr (Or.inl rfl)) (hv1 rfl); first | exact absurd hq (by decide) | skip)
      all_goals clear hv1
      all_goals try cases ‹(_, _) = (_, _)›
      all_goals go_wp2_with fail)
    all_goals refine (HP.out _ (by first | exact H5.out | exact H4.out | exact H3.out)).mono ?_
    all_goals rintro x w6 ⟨⟨z, f, rfl, hf⟩, hbel⟩
    all_goals have H6 : Hid (IdsEnv m kb ko kc w6) := Lib.hid (by first | exact H5.out.below hbel | exact H4.out.below hbel | exact H3.out.below hbel)
    all_goals have hB6 : Below w.heap.size w w6 := by first | exact hB5.trans (hbel.mono hB5.size) | exact hB4.trans (hbel.mono hB4.size) | exact hB3.trans (hbel.mono hB3.size)
    all_goals clear hbel
    all_goals have hcmp := Lib.hid (HCMP.out f hf)
    all_goals clear HCMP
    all_goals clear hf
    all_goals go_wp2_with fail
    all_goals refine (HK.out _ H6.out).mono ?_
    all_goals rintro x w7 ⟨rfl, hbel⟩
    all_goals go_wp2_with fail
    all_goals go_ret
    all_goals refine ⟨lx_ret ?_, hB6.trans (hbel.mono hB6.size)⟩
    all_goals rw [← hcmp.out]
    all_goals first | decide | (simp [*]; done) | (simp; done) | trace_state

end Go.Proofs.YtadhhknhfipihaaDoor
