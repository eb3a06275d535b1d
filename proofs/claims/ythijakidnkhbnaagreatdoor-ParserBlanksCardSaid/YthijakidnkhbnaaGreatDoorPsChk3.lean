/-
  (message.Request).Check: the walk.
-/
import Derived.Test.YthijakidnkhbnaaGreatDoorPsFrm
import Derived.Test.YthijakidnkhbnaaGreatDoorIdAny
namespace Go.Proofs.YthijakidnkhbnaaGreatDoor
open Go.RowKit
open Go.Proofs.YthijakidnkhbnaaGreatDoor.Ord

set_option maxRecDepth 100000 in
set_option maxHeartbeats 1000000 in
theorem rq_w1 (w : World) (Q : Ps.Req) (sa : Option Addr) (sn sc : Nat) (b7 b12 b17 : Bool) (g : Nat) (hg : g = w.heap.size) (x x1 i59 c3 a60 : Int) (e55 d : Bool) (hd : d = !decide Q.amd.none)
    (hx1 : x1 = firstE [(!b7, 11), (!b12, 6), (!b17, 6)]) (hx : x = if x1 ≠ 0 then x1 else if Q.op = 0 ∧ i59 ≠ 0 then i59 else if c3 ≠ 0 then c3 else if Q.op = 1 then a60 else firstE [(d, 3)])
    (n59 : Hid (∀ w', Below w.heap.size w w' → Calls Tryz.prog 66 #[.agg (insCells Q.ins (.slice sa sn sc)).toArray] w' fun e w'' => e = .returned (.int .i64 i59) ∧ Below w'.heap.size w' w''))
    (n60 : Hid (∀ w', Below w.heap.size w w' → Calls Tryz.prog 67 #[.agg (amdCells Q.amd).toArray] w' fun e w'' => e = .returned (.int .i64 a60) ∧ Below w'.heap.size w' w''))
    (n55 : Hid (∀ w', Below w.heap.size w w' → Calls Tryz.prog 45 #[.agg (insCells Q.ins (.slice sa sn sc)).toArray, .agg (insCells {} (.slice none 0 0)).toArray] w' fun e w'' => e = .returned (.bool e55) ∧ Below w'.heap.size w' w''))
    (hc3 : Hid (c3 = if Q.op = 0 then firstE [(!(Q.ins.ref.toList == Q.ref.toList) || !(Q.ins.sender.toList == Q.sender.toList), 17)] else firstE [(!e55, 3)]))

    (c7 : ∀ w', Below w.heap.size w w' → Calls Tryz.prog 64 #[.int .i64 Q.op, .int .i64 0, .int .i64 4] w' fun e w'' => e = .returned (.bool b7) ∧ Below w'.heap.size w' w'')
    (c12 : ∀ w', Below w.heap.size w w' → Calls Tryz.prog 65 #[.int .i64 1, .string Q.sender] w' fun e w'' => e = .returned (.bool b12) ∧ Below w'.heap.size w' w'')
    (c17 : ∀ w', Below w.heap.size w w' → Calls Tryz.prog 65 #[.int .i64 2, .string Q.ref] w' fun e w'' => e = .returned (.bool b17) ∧ Below w'.heap.size w' w'')
    : Calls Tryz.prog 26 #[.agg (reqCells Q (.slice sa sn sc))] w fun e w' => e = .returned (.int .i64 x) ∧ Below w.heap.size w w' := by
  go_enter Tryz.func26, Tryz.ntmps26
  go_upto_region 1 with fail
  rename_i Q1 K1 hK
  rw [← hg]
  obtain ⟨W1, hW1⟩ : ∃ W1, W1 = w.alloc (.cells (reqCells Q (.slice sa sn sc)) 29) := ⟨_, rfl⟩
  have hrow : ∀ W, Below W1.heap.size W1 W → W.heap[g]? = some (.cells (reqCells Q (.slice sa sn sc)) 29 (0, 0)) := fun W hW => by
    rw [hW.block g (by rw [hW1, hg]; simp), hW1, hg]; exact ps_alloc_new w _
  have hB1 : Below w.heap.size w W1 := by rw [hW1]; exact (Below.refl _ _).alloc (Nat.le_refl _) _
  rw [← hW1]
  clear hW1 hg
  have hcellg_0 : ∀ W, Below W1.heap.size W1 W → W.cell? ⟨g, 0, none⟩ = some (.int .i64 Q.op) := fun W hW => by rw [cell_of_row _ _ _ _ _ _ (hrow W hW)]; rfl
  have hcellg_1 : ∀ W, Below W1.heap.size W1 W → W.cell? ⟨g, 1, none⟩ = some (.string Q.sender) := fun W hW => by rw [cell_of_row _ _ _ _ _ _ (hrow W hW)]; rfl
  have hcellg_2 : ∀ W, Below W1.heap.size W1 W → W.cell? ⟨g, 2, none⟩ = some (.string Q.ref) := fun W hW => by rw [cell_of_row _ _ _ _ _ _ (hrow W hW)]; rfl
  obtain ⟨vs, hvs⟩ : ∃ vs : List Value, vs = [(.pointer (some ⟨g, 0, none⟩)), (.int .i64 Q.op), (.bool b7), (.bool (!b7)), (.agg #[.bool (!b7), .int .i64 11]), (.pointer (some ⟨g, 1, none⟩)), (.string Q.sender), (.bool b12), (.bool (!b12)), (.agg #[.bool (!b12), .int .i64 6]), (.pointer (some ⟨g, 2, none⟩)), (.string Q.ref), (.bool b17), (.bool (!b17)), (.agg #[.bool (!b17), .int .i64 6])] := ⟨_, rfl⟩
  refine wp_rules (W0 := W1) 15 vs (by rw [hvs]; rfl) (by kernel_rfl) (by kernel_rfl) (by kernel_rfl) (by kernel_rfl) (Below.refl _ _) ?_ [(!b7, 11), (!b12, 6), (!b17, 6)] (by simp) (by kernel_rfl) rfl rfl rfl rfl rfl rfl rfl rfl rfl rfl rfl rfl ⟨by show _ < 77; omega, by show _ < 77; omega, by show _ < 77; omega⟩ 110 ?_ ?_
  · intro ρ hD hrest hco hfu
    have e1 : ρ (.tmp 1) = .pointer (some ⟨g, 0, none⟩) := (hrest 1 (by decide +kernel)).trans rfl
    obtain ⟨e5, e6, e7, e8, e9, e10, e11, e12, e13, e14, e15, e16, e17, e18, e19, -⟩ : ρ (.tmp 5) = (.pointer (some ⟨g, 0, none⟩)) ∧ ρ (.tmp 6) = (.int .i64 Q.op) ∧ ρ (.tmp 7) = (.bool b7) ∧ ρ (.tmp 8) = (.bool (!b7)) ∧ ρ (.tmp 9) = (.agg #[.bool (!b7), .int .i64 11]) ∧ ρ (.tmp 10) = (.pointer (some ⟨g, 1, none⟩)) ∧ ρ (.tmp 11) = (.string Q.sender) ∧ ρ (.tmp 12) = (.bool b12) ∧ ρ (.tmp 13) = (.bool (!b12)) ∧ ρ (.tmp 14) = (.agg #[.bool (!b12), .int .i64 6]) ∧ ρ (.tmp 15) = (.pointer (some ⟨g, 2, none⟩)) ∧ ρ (.tmp 16) = (.string Q.ref) ∧ ρ (.tmp 17) = (.bool b17) ∧ ρ (.tmp 18) = (.bool (!b17)) ∧ ρ (.tmp 19) = (.agg #[.bool (!b17), .int .i64 6]) ∧ True := alld_lit hvs hD
    refine ally_lit hvs ?_

    refine ⟨y_un rfl (y_addr rfl e1 (fun w => by go_simp)), ?_⟩
    refine ⟨y_un rfl (y_load rfl e5 (fun w hS => ld_int _ w _ (hcellg_0 w hS))), ?_⟩
    refine ⟨y_un rfl (y_call rfl (hfu _) ent57 (by simp only [List.map_toArray, List.map_cons, List.map_nil, e6, hco]) (callB hB1 c7)), ?_⟩
    refine ⟨y_un rfl (y_not rfl e7), ?_⟩
    refine ⟨y_un rfl (y_build rfl (bd_rule ρ _ _ _ e8 (hco _))), ?_⟩
    refine ⟨y_un rfl (y_addr rfl e1 (fun w => by go_simp)), ?_⟩
    refine ⟨y_un rfl (y_load rfl e10 (fun w hS => ld_str _ w _ (hcellg_1 w hS))), ?_⟩
    refine ⟨y_un rfl (y_call rfl (hfu _) ent58 (by simp only [List.map_toArray, List.map_cons, List.map_nil, e11, hco]) (callB hB1 c12)), ?_⟩
    refine ⟨y_un rfl (y_not rfl e12), ?_⟩
    refine ⟨y_un rfl (y_build rfl (bd_rule ρ _ _ _ e13 (hco _))), ?_⟩
    refine ⟨y_un rfl (y_addr rfl e1 (fun w => by go_simp)), ?_⟩
    refine ⟨y_un rfl (y_load rfl e15 (fun w hS => ld_str _ w _ (hcellg_2 w hS))), ?_⟩
    refine ⟨y_un rfl (y_call rfl (hfu _) ent58 (by simp only [List.map_toArray, List.map_cons, List.map_nil, e16, hco]) (callB hB1 c17)), ?_⟩
    refine ⟨y_un rfl (y_not rfl e17), ?_⟩
    refine ⟨y_un rfl (y_build rfl (bd_rule ρ _ _ _ e18 (hco _))), ?_⟩
    exact trivial
  · intro ρ hD W
    obtain ⟨e5, e6, e7, e8, e9, e10, e11, e12, e13, e14, e15, e16, e17, e18, e19, -⟩ : ρ (.tmp 5) = (.pointer (some ⟨g, 0, none⟩)) ∧ ρ (.tmp 6) = (.int .i64 Q.op) ∧ ρ (.tmp 7) = (.bool b7) ∧ ρ (.tmp 8) = (.bool (!b7)) ∧ ρ (.tmp 9) = (.agg #[.bool (!b7), .int .i64 11]) ∧ ρ (.tmp 10) = (.pointer (some ⟨g, 1, none⟩)) ∧ ρ (.tmp 11) = (.string Q.sender) ∧ ρ (.tmp 12) = (.bool b12) ∧ ρ (.tmp 13) = (.bool (!b12)) ∧ ρ (.tmp 14) = (.agg #[.bool (!b12), .int .i64 6]) ∧ ρ (.tmp 15) = (.pointer (some ⟨g, 2, none⟩)) ∧ ρ (.tmp 16) = (.string Q.ref) ∧ ρ (.tmp 17) = (.bool b17) ∧ ρ (.tmp 18) = (.bool (!b17)) ∧ ρ (.tmp 19) = (.agg #[.bool (!b17), .int .i64 6]) ∧ True := alld_lit hvs hD
    simp only [List.map_toArray, List.map_cons, List.map_nil, e9, e14, e19]
    go_simp
    rfl
  · intro b W hB hdf hsz h3 hrest
    have q1 : b.tmps[1]? = some (.pointer (some ⟨g, 0, none⟩)) := (hrest 1 (by decide +kernel)).trans rfl
    have q2 : b.tmps[2]? = some (.int .i64 0) := (hrest 2 (by decide +kernel)).trans rfl
    obtain ⟨⟨bl⟩, bd⟩ := b
    have hdf2 : bd = [] := hdf
    subst hdf2
    obtain ⟨u0, u1, u2, u3, u4, u5, u6, u7, u8, u9, u10, u11, u12, u13, u14, u15, u16, u17, u18, u19, u20, u21, u22, u23, u24, u25, u26, u27, u28, u29, u30, u31, u32, u33, u34, u35, u36, u37, u38, u39, u40, u41, u42, u43, u44, u45, u46, u47, u48, u49, u50, u51, u52, u53, u54, u55, u56, u57, u58, u59, u60, u61, u62, u63, u64, u65, u66, u67, u68, u69, u70, u71, u72, u73, u74, u75, u76, hbl⟩ := fr77 bl hsz
    subst hbl
    obtain rfl : u1 = _ := Option.some.inj q1
    obtain rfl : u2 = _ := Option.some.inj q2
    obtain rfl : u3 = _ := Option.some.inj h3
    clear q1 q2 hsz hdf hrest hvs c7 c12 c17 hcellg_0 hcellg_1 hcellg_2
    rw [← hx1]
    clear h3 hx1
    have HB : Hid (Below w.heap.size w W) := Lib.hid (hB1.trans (hB.mono hB1.size))
    have HR : Hid (W.heap[g]? = some (.cells (reqCells Q (.slice sa sn sc)) 29 (0, 0))) := Lib.hid (hrow W hB)
    clear hrow hB hB1
    refine hK _ _ ?_
    by_cases t1 : x1 = 0
    · subst t1
      rw [if_neg (by simp)] at hx
      clear hK
      have k0 := (rq_cells g Q _ _ HR.out).1
      go_upto_if 27 with fail
      go_cut [3] (fun s3 wx => s3 = .int .i64 c3 ∧ Hid (Below w.heap.size w wx ∧ wx.heap[g]? = some (.cells (reqCells Q (.slice sa sn sc)) 29 (0, 0)) ∧ ¬ (Q.op = 0 ∧ i59 ≠ 0)))
      case first =>
        clear n60
        by_cases hop : Q.op = 0
        · have t5 : (Q.op == 0) = true := by simp [hop]
          rw [if_pos hop] at hc3
          clear n55
          go_upto_region 5 with fail
          refine wp_region_lit ?_
          refine wl_addr rfl rfl rfl rfl (u := .pointer (some ⟨g, 3, none⟩)) (by clear k0 hop t5; go_simp) ?_
          refine wl_load rfl rfl rfl rfl (rq_ins g Q sa sn sc W HR.out) ?_
          have m1 := n59.out W HB.out
          clear n59
          obtain ⟨y1, hy1⟩ : ∃ y1, (Q.ins.ref.toList == Q.ref.toList) = y1 := ⟨_, rfl⟩
          obtain ⟨y2, hy2⟩ : ∃ y2, (Q.ins.sender.toList == Q.sender.toList) = y2 := ⟨_, rfl⟩
          by_cases hi : i59 = 0
          · subst hi
            rw [hy1, hy2] at hc3
            clear hx
            cases y1
            all_goals cases y2
            all_goals
              go_wp2_with ((first | go_at_fn 66 | go_at_call 66); refine m1.mono ?_; rintro e w1 ⟨rfl, hb⟩; have HB2 := Lib.hid (HB.out.trans (hb.mono HB.out.size)); have HR2 := Lib.hid ((hb.block g (Array.getElem?_eq_some_iff.1 HR.out).1).trans HR.out); clear hb HB HR m1 k0 t5; obtain ⟨k0, k1, k2, k3, k5⟩ := rq_cells g Q _ _ HR2.out)
              refine (ck_first _ _ 1 [(_, 17)] 110 (ps_alloc_new _ _) (by simp) (by simp)).mono ?_
              rintro e w2 ⟨rfl, hb⟩
              have HB3 := Lib.hid ((HB2.out.alloc HB2.out.size _).trans (hb.mono (HB2.out.alloc HB2.out.size _).size))
              have HR3 := Lib.hid ((hb.block g (by have := (Array.getElem?_eq_some_iff.1 HR2.out).1; simp; omega)).trans ((Below.heap_alloc _ _ _ (Array.getElem?_eq_some_iff.1 HR2.out).1).trans HR2.out))
              clear hb k0 k1 k2 k3 k5
              go_wp2_with fail
              go_meet
              case rel => exact ⟨by rw [hc3.out]; rfl, Lib.hid ⟨HB3.out, HR3.out, fun h => h.2 rfl⟩⟩
          · rw [if_pos ⟨hop, hi⟩] at hx
            have t2 : (i59 != 0) = true := by simp [hi]
            subst hx
            go_wp2_with ((first | go_at_fn 66 | go_at_call 66); refine m1.mono ?_; rintro e w1 ⟨rfl, hb⟩; have HB2 := Lib.hid (HB.out.trans (hb.mono HB.out.size)); clear hb HB m1 k0)
            go_ret
            exact ⟨rfl, HB2.out⟩

        · have t5 : (Q.op == 0) = false := by simp [hop]
          rw [if_neg hop] at hc3
          clear hx n59 k0
          go_upto_region 9 with fail
          refine wp_region_lit ?_
          refine wl_addr rfl rfl rfl rfl (u := .pointer (some ⟨g, 3, none⟩)) (by clear hop t5; go_simp) ?_
          refine wl_load rfl rfl rfl rfl (rq_ins g Q sa sn sc W HR.out) ?_
          refine wl_build rfl rfl rfl (bd25 _ W) ?_
          have m1 := n55.out W HB.out
          clear n55
          cases e55
          all_goals
            go_wp2_with ((first | go_at_fn 45 | go_at_call 45); refine m1.mono ?_; rintro e w1 ⟨rfl, hb⟩; have HB2 := Lib.hid (HB.out.trans (hb.mono HB.out.size)); have HR2 := Lib.hid ((hb.block g (Array.getElem?_eq_some_iff.1 HR.out).1).trans HR.out); clear hb HB HR m1)
            refine (ck_first _ _ 1 [(_, 3)] 110 (ps_alloc_new _ _) (by simp) (by simp)).mono ?_
            rintro e w2 ⟨rfl, hb⟩
            have HB3 := Lib.hid ((HB2.out.alloc HB2.out.size _).trans (hb.mono (HB2.out.alloc HB2.out.size _).size))
            have HR3 := Lib.hid ((hb.block g (by have := (Array.getElem?_eq_some_iff.1 HR2.out).1; simp; omega)).trans ((Below.heap_alloc _ _ _ (Array.getElem?_eq_some_iff.1 HR2.out).1).trans HR2.out))
            clear hb
            go_wp2_with fail
            go_meet
            case rel => exact ⟨by rw [hc3.out]; rfl, Lib.hid ⟨HB3.out, HR3.out, fun h => hop h.1⟩⟩
      case rest =>
        clear n59 n55 k0 HB HR
        obtain ⟨rfl, hcc⟩ := hcut
        rw [if_neg hcc.out.2.2] at hx
        have HB := Lib.hid hcc.out.1
        have HR := Lib.hid hcc.out.2.1
        clear hcc hc3
        by_cases t3 : c3 = 0
        · subst t3
          rw [if_neg (by simp)] at hx
          have k0 := (rq_cells g Q _ _ HR.out).1
          by_cases hop : Q.op = 1
          · have t5 : (Q.op == 1) = true := by simp [hop]
            rw [if_pos hop] at hx
            subst hx
            have m1 := n60.out wc HB.out
            clear n60
            go_upto_region 13 with fail
            refine wp_region_lit ?_
            refine wl_addr rfl rfl rfl rfl (u := .pointer (some ⟨g, 19, none⟩)) (by clear hop t5 k0; go_simp) ?_
            refine wl_load rfl rfl rfl rfl (rq_amd g Q _ wc HR.out) ?_
            go_wp2_with ((first | go_at_fn 67 | go_at_call 67); refine m1.mono ?_; rintro e w1 ⟨rfl, hb⟩; have HB2 := Lib.hid (HB.out.trans (hb.mono HB.out.size)); clear hb HB HR m1 k0 t5)
            go_ret
            exact ⟨rfl, HB2.out⟩
          · have t5 : (Q.op == 1) = false := by simp [hop]
            rw [if_neg hop] at hx
            clear n60
            go_upto_region 14 with fail
            refine wp_region_lit ?_
            refine wl_addr rfl rfl rfl rfl (u := .pointer (some ⟨g, 19, none⟩)) (by clear hop t5 k0; go_simp) ?_
            refine wl_load rfl rfl rfl rfl (rq_amd g Q _ wc HR.out) ?_
            refine wl_build rfl rfl rfl (bd27 _ wc) ?_
            refine wl_bin rfl rfl rfl rfl rfl (ne27 Q.amd _ _ wc) ?_
            rw [← hd] at *
            clear k0 t5
            go_wp2_with fail
            refine (ck_first _ _ 1 [(_, 3)] 110 (ps_alloc_new _ _) (by simp) (by simp)).mono ?_
            rintro e w2 ⟨rfl, hb⟩
            have HB3 := Lib.hid ((HB.out.alloc HB.out.size _).trans (hb.mono (HB.out.alloc HB.out.size _).size))
            clear hb
            go_wp2_with fail
            go_ret
            exact ⟨by rw [hx]; rfl, HB3.out⟩
        · rw [if_pos t3] at hx
          have t2 : (c3 != 0) = true := by simp [t3]
          subst hx
          clear n60
          go_wp2_with fail
          go_ret
          exact ⟨rfl, HB.out⟩
    · rw [if_pos t1] at hx
      have t2 : (x1 != 0) = true := by simp [t1]
      subst hx
      go_wp2_with fail
      go_ret
      exact ⟨rfl, HB.out⟩

end Go.Proofs.YthijakidnkhbnaaGreatDoor
