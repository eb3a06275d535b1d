/-
  Open on a disk with the log's own files: the scan.
-/
import Derived.Test.YtcbnbhlgikjbeaaGreatDoorWlOpenP
import Derived.Deep.DeepCutAuto
import Derived.Deep.CutRange
namespace Go.Proofs.YtcbnbhlgikjbeaaGreatDoor
open Go.RowKit

theorem ent_form {w : World} {B : Nat} {v : Value} {n : Nat} {xs : List Value} (h : w.ownsRow B 62 2 v n xs) : ∃ a c, v = .slice a n c := by
  obtain ⟨_, ⟨rfl, rfl⟩ | ⟨g, cap, cur, rfl, _⟩⟩ := h
  · exact ⟨none, 0, rfl⟩
  · exact ⟨_, cap, rfl⟩

theorem EnOk.past {W W' : World} {row : Option Nat} {l : List (Nat × Wl.Bs)} {vs : List Value} (h : EnOk W none l vs) (hg : W.grownBy W' row) (hr : ∀ v ∈ vs, ∀ q, v.ownBlock = some q → some q ≠ row) : EnOk W' none l vs :=
  ⟨h.1, fun k x v hk hv => ⟨(h.2 k x v hk hv).1.past hg (hr v (List.mem_of_getElem? hv)), fun q hq => ⟨Nat.lt_of_lt_of_le ((h.2 k x v hk hv).2 q hq).1 hg.size, by simp⟩⟩⟩
theorem EnOk.one {W : World} {row : Option Nat} {l : List (Nat × Wl.Bs)} {vs : List Value} (h : EnOk W row l vs) : ∀ v ∈ vs, v.oneCell' = true := fun v hv => by
  obtain ⟨k, hk⟩ := List.getElem?_of_mem hv
  have hkl : k < l.length := by have := (List.getElem?_eq_some_iff.1 hk).1; rw [h.1] at this; exact this
  have := (h.2 k _ v (List.getElem?_eq_getElem hkl) hk).1
  obtain ⟨a, c, rfl⟩ := this.form
  rfl
theorem EnOk.any {W : World} {row : Option Nat} {l : List (Nat × Wl.Bs)} {vs : List Value} (h : EnOk W row l vs) : EnOk W none l vs := h.row (fun _ _ _ _ => by simp)
theorem EnOk.lt {W : World} {row : Option Nat} {l : List (Nat × Wl.Bs)} {vs : List Value} (h : EnOk W row l vs) : ∀ v ∈ vs, ∀ q, v.ownBlock = some q → q < W.heap.size := fun v hv q hq => by
  obtain ⟨k, hk⟩ := List.getElem?_of_mem hv
  have hkl : k < l.length := by have := (List.getElem?_eq_some_iff.1 hk).1; rw [h.1] at this; exact this
  exact ((h.2 k _ v (List.getElem?_eq_getElem hkl) hk).2 q hq).1
/-- the cells of a row that the code appends -/
theorem own_news {w : World} {B : Nat} {t : TypeId} {sz : Nat} {la : Option Addr} {n c : Nat} {xs : List Value} (h : w.ownsRow B t sz (.slice la n c) n xs) (hl : xs.length = n * sz) : (∀ ad, la = some ad → ∀ j u, xs[j]? = some u → w.cell? (ad.add j) = some u) ∧ (la = none → n = 0) := by
  obtain ⟨_, ⟨h0, h1⟩ | ⟨g, cap, cur, hv, hB, hh, hnc, hcap, hcur, htake⟩⟩ := h
  · cases h0
    exact ⟨fun ad ha => (by cases ha), fun _ => rfl⟩
  · cases hv
    refine ⟨fun ad ha j u hj => ?_, fun ha => (by cases ha)⟩
    cases ha
    have hk3 : j < xs.length := (List.getElem?_eq_some_iff.1 hj).1
    rw [← htake, List.getElem?_take_of_lt (by rw [← hl]; exact hk3)] at hj
    have := cell_of_row w g j _ _ _ hh
    have e : (⟨g, 0, none⟩ : Addr).add j = ⟨g, j, none⟩ := by by_cases hj0 : j = 0 <;> simp [Addr.add, hj0]
    rw [e, this]
    simpa using hj
theorem op_wrap (m k : Nat) (h : m + k ≤ 1000000000) : IntKind.i64.wrap ((m : Int) + (k : Int)) = ((m + k : Nat) : Int) ∧ wrap64 ((m : Int) + (k : Int)) = ((m + k : Nat) : Int) := by
  have e : ((m : Int) + (k : Int)) = ((m + k : Nat) : Int) := by simp
  rw [e]
  exact ⟨IntWalk.i64_in _ (by omega), by unfold wrap64; omega⟩

theorem own_zero {w : World} {B : Nat} {t : TypeId} {sz : Nat} {v : Value} {n : Nat} {xs : List Value} (h : w.ownsRow B t sz v n xs) (C : Nat) (hC : C ≤ B) : w.ownsRow C t sz v n xs := by
  obtain ⟨h1, h2 | ⟨g, cap, cur, hv, hB, rest⟩⟩ := h
  · exact ⟨h1, .inl h2⟩
  · exact ⟨h1, .inr ⟨g, cap, cur, hv, Nat.le_trans hC hB, rest⟩⟩
theorem EnOk.keep {W W' : World} {row : Option Nat} {l : List (Nat × Wl.Bs)} {vs : List Value} (h : EnOk W row l vs) (hs : W.heap.size ≤ W'.heap.size) (hb : ∀ v ∈ vs, ∀ q, v.ownBlock = some q → W'.heap[q]? = W.heap[q]?) : EnOk W' none l vs := by
  refine ⟨h.1, fun k x v hk hv => ?_⟩
  obtain ⟨h1, h2⟩ := h.2 k x v hk hv
  refine ⟨?_, fun q hq => ⟨Nat.lt_of_lt_of_le (h2 q hq).1 hs, by simp⟩⟩
  rcases h1 with h1 | ⟨g, off, cap, hv2, hc, hg, hg2, hx⟩
  · exact .inl h1
  · have e := hb v (List.mem_of_getElem? hv) g (by rw [hv2]; rfl)
    exact .inr ⟨g, off, cap, hv2, hc, by omega, by omega, fun j u hj => (World.cell?_of_block (a := ⟨g, off + j, none⟩) e).trans (hx j u hj)⟩

theorem own_slice {w : World} {B : Nat} {t : TypeId} {sz : Nat} {v : Value} {n : Nat} {xs : List Value} (h : w.ownsRow B t sz v n xs) : ∃ a c, v = .slice a n c := by
  obtain ⟨_, ⟨rfl, rfl⟩ | ⟨g, cap, cur, rfl, _⟩⟩ := h
  · exact ⟨none, 0, rfl⟩
  · exact ⟨_, cap, rfl⟩
theorem wpList_append_eq {P : Program} {w : World} {ops : Array Oper} {rest : List Oper} {o : Oper} {a : Act} {Q : Exit → Act → World → Prop} (hgd : o.guard = none) (s x : Operand) (t : TypeId)
    (ho : o.op = .call { callee := .builtin .append, args := #[s, x], argTypes := #[t, t] }) (v v2 v' : Value) (w' : World) (hs : a.eval s = v) (hx : a.eval x = v2)
    (hrun : (Builtin.append_ #[t, t] o.type #[v, v2]).run P w = .ok v' w') (h : wpList P ops Q rest (a.put o.dst v') w') : wpList P ops Q (o :: rest) a w := by
  refine wpList_plain hgd fun _ hK => ?_
  unfold Oper.wp execOp
  simp only [ho, resolve, invoke, builtin, Sem.run_bind, Sem.run_pure, Result.andThen_ok, List.map_toArray, List.map_cons, List.map_nil, hs, hx, hrun]
  exact hK _ _ h

/-- the last statement of a sequence, as one that something follows -/
theorem wl_then_of {P : Program} {s : Code} {Q : Exit → Act → World → Prop} {a : Act} {w : World} (h : ∀ K : Act → World → Prop, (∀ a w, Q .normal a w → K a w) → s.wp P (Exit.then K Q) a w) : s.wp P Q a w := by
  refine Code.wp_mono ?_ (h (Q .normal) (fun _ _ h => h))
  intro e a' w' hq
  cases e <;> exact hq

/-- a statement that ends in the normal way alone -/
theorem wl_norm {P : Program} {s : Code} {Q : Exit → Act → World → Prop} {a : Act} {w : World} (h : ∀ K : Act → World → Prop, (∀ a w, Q .normal a w → K a w) → s.wp P (Exit.then K (fun _ _ _ => False)) a w) : s.wp P Q a w := by
  refine Code.wp_mono ?_ (h (Q .normal) (fun _ _ h => h))
  intro e a' w' hq
  cases e <;> first | exact hq | exact hq.elim

theorem own_formS {w : World} {B : Nat} {v : Value} {n : Nat} {xs : List Value} (h : w.ownsRow B 9 1 v n xs) (hn : 0 < n) : ∃ sb cap, v = .slice (some ⟨sb, 0, none⟩) n cap ∧ B ≤ sb ∧ sb < w.heap.size ∧ n ≤ cap ∧ ∀ k x, xs[k]? = some x → w.cell? ⟨sb, k, none⟩ = some x := by
  obtain ⟨hl, ⟨_, h0⟩ | ⟨g, cap, cur, hv, hB, hh, hnc, hcap, hcur, htake⟩⟩ := h
  · omega
  · refine ⟨g, cap, hv, hB, (Array.getElem?_eq_some_iff.1 hh).1, hnc, fun k x hk => ?_⟩
    have hk3 : k < xs.length := (List.getElem?_eq_some_iff.1 hk).1
    rw [← htake, List.getElem?_take_of_lt (by omega)] at hk
    rw [cell_of_row _ _ _ _ _ _ hh]
    simpa using hk

set_option maxRecDepth 100000 in
set_option maxHeartbeats 4000000 in
theorem wl_Open_files {i j : Nat} {c : Nat → Nat} {W : World} {g : Nat} {D : Dk.D} (hd : DiskAt i c W g D) (hij : i ≠ j) (hj0 : j ≠ 0) (hup : D.down = false) (hbud : D.bud = -1) (p : ByteArray) (n : Nat) (hp : Wl.validP p.data.toList = true) (hps : p.size ≤ 16) (h64 : ¬ (n : Int) < 64) (h65 : ¬ (1048576 : Int) < (n : Int))
    (hgood : Wl.Good p.data.toList D.fs) (hne : 0 < D.fs.length) (hlen : D.fs.length ≤ 100) (st : Wl.Sc) (hst : st = Wl.scan p.data.toList .empty D.fs) :
    Calls Tryz.prog 17 #[.pointer (some ⟨g, 0, none⟩), .string p, .int .i64 n] W fun e W' => ∃ h c' ev vs, e = .returned (.tuple #[.pointer (some ⟨h, 0, none⟩), ev, .int .i64 0]) ∧
      DiskAt i c' W' g (Wl.openD D p.data.toList n).1 ∧ LogAt j c' W' h g (Wl.openD D p.data.toList n).2.1 ∧ W'.ownsRow W.heap.size 62 2 ev (Wl.openD D p.data.toList n).2.2.length (enCells (Wl.openD D p.data.toList n).2.2 vs) ∧ EnOk W' none (Wl.openD D p.data.toList n).2.2 vs ∧ Chg i c c' W W' := by
  have nV := fun o => wl_validPrefix p o (show p.size ≤ 9223372036854775807 by omega)
  rw [hp] at nV
  have hmf : ∀ (fn : Fn) (first cap : Array Value) (w : World), (Instr.makeFunc fn first cap).run Tryz.prog w = .ok (.func fn first cap) w := fun _ _ _ _ => rfl
  have nD : Hid (∀ o, Below W.heap.size W o → Calls Tryz.prog 49 #[.pointer (some ⟨g, 0, none⟩)] o fun e W' => e = .returned (.bool false) ∧ o = W') := Lib.hid (fun o ho => by have := dk_Down (hd.keepW ho); rw [hup] at this; exact this)
  have nL : Hid (∀ o, Below W.heap.size W o → Calls Tryz.prog 25 #[.pointer (some ⟨g, 0, none⟩)] o fun e W' => ∃ lv, e = .returned lv ∧ W'.ownsRow o.heap.size 9 1 lv D.fs.length (dkNames (D.fs.map (·.1))) ∧ Below o.heap.size o W') := Lib.hid (fun o ho => by
    have := dk_List (hd.keepW ho) (by omega)
    have e : D.names = D.fs.map (·.1) := by unfold Dk.D.names; rw [if_neg (by simp [hup])]
    rw [e, List.length_map] at this
    exact this)
  have HD := Lib.hid hd
  have HG := Lib.hid hgood
  have HST := Lib.hid hst
  clear hd hgood hst
  refine calls_of_wp_marks Tryz.func17 rfl ?_
  simp only [Tryz.ntmps17, List.size_toArray, List.length_cons, List.length_nil, Nat.reduceAdd, Nat.reduceSub, Array.replicate_succ, Array.replicate_zero, List.push_toArray, List.append_toArray, List.nil_append, List.cons_append]
  go_upto_region 9 with (first | (go_at_call 48; refine (nV _).mono ?_; rintro e w1 ⟨rfl, rfl⟩) | (go_at_call 49; refine (nD.out _ (open_cells (W := W) rfl).2.2.2).mono ?_; rintro e w1 ⟨rfl, rfl⟩))
  go_upto_region 13 with fail
  obtain ⟨W1, hW1⟩ : ∃ W1, W1 = (((((W.alloc (.cells #[.pointer (some ⟨g, 0, none⟩)] 26)).alloc (.cells #[.pointer (some ⟨W.heap.size + 1 + 1 + 1 + 1, 0, none⟩)] 32)).alloc (.cells #[.slice none 0 0] 53)).alloc (.cells #[.int .i64 0] 42)).alloc
      (.cells #[.pointer (some ⟨g, 0, none⟩), .string p, .int .i64 n, .slice none 0 0, .int .i64 0, .int .i64 0] 93)) := ⟨_, rfl⟩
  obtain ⟨hb1, rB, r6, r7, r8, rh, hs1⟩ := open_world hW1
  have HW1 := Lib.hid hW1
  have RB := Lib.hid rB
  have R6 := Lib.hid r6
  have R7 := Lib.hid r7
  have R8 := Lib.hid r8
  have RH := Lib.hid rh
  have HB1 := Lib.hid hb1
  have cB : W1.cell? ⟨W.heap.size, 0, none⟩ = some (.pointer (some ⟨g, 0, none⟩)) := by rw [cell_of_row _ _ _ _ _ _ rB]; rfl
  have n2 := nL.out W1 hb1
  clear hW1 rB r6 r7 r8 rh hb1 nV nD
  rw [← HW1.out]
  go_upto_block 1 with (go_at_call 25; refine n2.mono ?_; rintro e w2 ⟨lv, rfl, o2, b2⟩; obtain ⟨lb, lc, rfl, hlb1, hlb2, hlb3, hlb4⟩ := own_formS o2 hne)
  have HB2 := Lib.hid (HB1.out.trans (b2.mono HB1.out.size))
  have R6b := Lib.hid ((b2.block _ (by omega)).trans R6.out)
  have R7b := Lib.hid ((b2.block _ (by omega)).trans R7.out)
  have R8b := Lib.hid ((b2.block _ (by omega)).trans R8.out)
  have RHb := Lib.hid ((b2.block _ (by omega)).trans RH.out)
  have RBb := Lib.hid ((b2.block _ (by omega)).trans RB.out)
  have hs2 : W.heap.size + 1 + 1 + 1 + 1 + 1 ≤ w2.heap.size := by have := b2.size; omega
  have HLB := Lib.hid hlb4
  clear n2 cB b2 R6 R7 R8 RH RB HW1 o2 hlb4
  have S0 : OpSt w2 w2 (W.heap.size + 1 + 1 + 1 + 1) (W.heap.size + 1 + 1) g p n 0 [] [] (.slice none 0 0) (.slice none 0 0) [] :=
    { size := Nat.le_refl _, os := rfl, tape := rfl, output := rfl, hlt := by omega, blt := by omega, hne := by omega, same := fun _ _ _ _ => rfl, rowh := RHb.out, row7 := R7b.out, seg := World.ownsRow_nil _ _ _ _, ent := World.ownsRow_nil _ _ _ _,
      ne := (fun q hq => by cases hq), e1 := EnOk.nil _ _, e2 := EnOk.nil _ _, e3 := (fun v hv => by cases hv) }
  have HS0 := Lib.hid S0
  obtain ⟨h, hh⟩ : ∃ h, h = W.heap.size + 1 + 1 + 1 + 1 := ⟨_, rfl⟩
  obtain ⟨b8, hb8⟩ : ∃ b8, b8 = W.heap.size + 1 + 1 + 1 := ⟨_, rfl⟩
  obtain ⟨b7, hb7⟩ : ∃ b7, b7 = W.heap.size + 1 + 1 := ⟨_, rfl⟩
  obtain ⟨b6, hb6⟩ : ∃ b6, b6 = W.heap.size + 1 := ⟨_, rfl⟩
  rw [← hh, ← hb7] at HS0
  rw [← hh] at RHb R6b
  rw [← hb6] at R6b
  rw [← hb7] at R7b
  rw [← hb8] at R8b
  rw [← hb8, ← hb7, ← hb6]
  have o6 : W.heap.size < b6 := by omega
  have o7 : b6 < b7 := by omega
  have o8 : b7 < b8 := by omega
  have o9 : b8 < h := by omega
  have o10 : h < w2.heap.size := by omega
  have o11 : h < lb := by omega
  clear S0 hh hb8 hb7 hb6 hs1 hs2 hlb1
  --@1
  refine wl_then_of (fun K hK => ?_)
  go_cut [9, 10, 11] from 12 to 139 (fun v9 v10 v11 wx => ∃ sv ev vs, v9 = .slice none 0 0 ∧ v10 = .string (Wl.cutS st.cut) ∧ v11 = .int .i64 (Wl.cutK st.cut) ∧ Hid (OpSt w2 wx h b7 g p n st.next st.segs st.ents sv ev vs))
  case first =>
    obtain ⟨S, hS⟩ : ∃ S : Nat → Wl.Sc, S = fun k => Wl.scan p.data.toList .empty (D.fs.take k) := ⟨_, rfl⟩
    have HSS := Lib.hid hS
    clear hS
    go_wp2_with fail
    go_loopw [9, 10, 11, 12, 55] (fun v9 v10 v11 v12 iv wr => ∃ (k : Nat) (sv ev : Value) (vs : List Value), iv = .int .i64 k ∧ k ≤ D.fs.length ∧ v9 = .slice none 0 0 ∧ v10 = .string (Wl.cutS (S k).cut) ∧ v11 = .int .i64 (Wl.cutK (S k).cut) ∧ v12 = .bool (S k).on ∧
      Hid (OpSt w2 wr h b7 g p n (S k).next (S k).segs (S k).ents sv ev vs)) (fun _ _ _ _ iv _ => D.fs.length - (RowKit.intOf iv).toNat)
    case atStart =>
      have hS0 : S 0 = .empty := by rw [HSS.out]; rfl
      exact ⟨0, _, _, _, rfl, Nat.zero_le _, rfl, by rw [hS0]; rfl, by rw [hS0]; rfl, by rw [hS0]; rfl, by rw [hS0]; exact HS0⟩
    case round =>
      obtain ⟨k, sv, ev, vs, rfl, hk, rfl, rfl, rfl, rfl, HS⟩ := hrel
      by_cases hlt : k < D.fs.length
      · obtain ⟨x, hx⟩ : ∃ x, D.fs[k]? = some x := ⟨_, List.getElem?_eq_getElem hlt⟩
        obtain ⟨m, hxm, hm100, hxc, hxf, hcut, hbr, hon, hsl, hel, hnx⟩ := HG.out k x hx
        have hSk : Wl.scan p.data.toList .empty (D.fs.take k) = S k := by rw [HSS.out]
        rw [hSk] at hcut hbr hon hsl hel hnx
        have hstep := HG.out.step hx hxm hm100
        rw [hSk, show Wl.scan p.data.toList .empty (D.fs.take (k + 1)) = S (k + 1) from by rw [HSS.out]] at hstep
        have HSTEP := Lib.hid hstep
        have HON := Lib.hid hon
        have hlti : (k : Int) < (D.fs.length : Int) := by omega
        have cL : wr.cell? ⟨lb, k, none⟩ = some (.string ⟨(Wl.name p.data.toList m).toArray⟩) := by
          have h1 := HLB.out k (.string ⟨x.1.toArray⟩) (by unfold dkNames; simp [hx])
          rw [← hxm]
          exact (World.cell?_of_block (a := ⟨lb, k, none⟩) (HS.out.same lb hlb2 (by omega) (by omega))).trans h1
        have n4 := wl_firstOf wr p m (by omega) (by omega)
        rw [hcut]
        clear hSk hstep hon hcut hbr
        have hc0 : Wl.cutS none = ⟨#[]⟩ := rfl
        have hc1 : Wl.cutK none = 0 := rfl
        rw [hc0, hc1]
        clear hc0 hc1
        --@2
        go_upto_if 68 with (go_at_call 51; refine n4.mono ?_; rintro e w1 ⟨rfl, rfl⟩)
        have q6 : wr.cell? ⟨b6, 0, none⟩ = some (.pointer (some ⟨h, 0, none⟩)) := by
          rw [cell_of_row _ _ _ _ _ _ ((HS.out.same b6 (by omega) (by omega) (by omega)).trans R6b.out)]; rfl
        have q4 := (row_cells6 HS.out.rowh).2.2.2.2.1
        have z4 : wr.frozen? ⟨h, 4, none⟩ = false := dk_frozen _ _ _ _ _ HS.out.rowh
        go_cut [12] from 65 to 72 (fun v12 wx => v12 = .bool true ∧ Hid (OpSt w2 wx h b7 g p n m (S k).segs (S k).ents sv ev vs))
        case first =>
          cases hSon : (S k).on with
          | true =>
            have hS1 : Hid (OpSt w2 wr h b7 g p n m (S k).segs (S k).ents sv ev vs) := by rw [← HON.out hSon]; exact HS
            go_wp2_with fail
            go_meet
            case rel => exact ⟨rfl, hS1⟩
          | false =>
            have hS1 := Lib.hid (HS.out.setNext m)
            go_wp2_with fail
            go_meet
            case rel => exact ⟨rfl, hS1⟩
        case rest =>
          obtain ⟨rfl, HS1⟩ := hcut
          have hlow : Below W.heap.size W wc := HS1.out.low HB2.out (by omega) (by omega)
          have cB := (World.cell?_of_block (a := ⟨W.heap.size, 0, none⟩) (HS1.out.same W.heap.size (by omega) (by omega) (by omega))).trans (by rw [cell_of_row _ _ _ _ _ _ RBb.out]; rfl : w2.cell? ⟨W.heap.size, 0, none⟩ = some (.pointer (some ⟨g, 0, none⟩)))
          have c6 : wc.cell? ⟨b6, 0, none⟩ = some (.pointer (some ⟨h, 0, none⟩)) := by
            rw [cell_of_row _ _ _ _ _ _ ((HS1.out.same b6 (by omega) (by omega) (by omega)).trans R6b.out)]; rfl
          have c4 := (row_cells6 HS1.out.rowh).2.2.2.2.1
          have n5 := dk_Read (HD.out.below hlow j) ⟨(Wl.name p.data.toList m).toArray⟩ (by have := Wl.name_length (p := p.data.toList) (n := m) (by omega); have h5 : p.data.toList.length = p.size := (by rw [Array.length_toList]; rfl); show (Wl.name p.data.toList m).toArray.size ≤ _; simp; omega)
          have hrd : D.read (Wl.name p.data.toList m) = (x.2.contents, 0) := by unfold Dk.D.read; rw [if_neg (by simp [hup]), ← hxm, hxf]
          rw [show (⟨(Wl.name p.data.toList m).toArray⟩ : ByteArray).data.toList = Wl.name p.data.toList m from rfl, hrd] at n5
          simp only [] at n5
          clear q6 q4 z4 HS hrd n4 cL
          generalize hnmx : (⟨(Wl.name p.data.toList m).toArray⟩ : ByteArray) = nmx at *
          have HNMX := Lib.hid hnmx
          clear hnmx
          --@3
          go_wp2_with (go_at_call 52; refine n5.mono ?_; rintro e w5 ⟨bv, rfl, o5, b5⟩; obtain ⟨ba, bc, rfl⟩ := dk_own_form o5)
          have n6 := wl_intact w5 _ x.2.contents (RdB.of_own o5) (by omega) m (by omega)
          have HS5 := Lib.hid (HS1.out.below b5)
          have HO5 := Lib.hid o5
          clear n5 o5 b5 HS1 cB c6 c4
          go_wp2_with (go_at_call 53; refine n6.mono ?_; rintro e w7 ⟨lv, ws, rfl, o7, e7, g7, b7x⟩)
          obtain ⟨ents, hents⟩ : ∃ ents, ents = Wl.intact x.2.contents m := ⟨_, rfl⟩
          rw [← hents] at o7 e7 ⊢
          have HENTS := Lib.hid hents
          obtain ⟨la, lcp, rfl⟩ := ent_form o7
          have HS7 := Lib.hid (HS5.out.below b7x)
          have HO7 := Lib.hid o7
          have HE7 := Lib.hid e7
          have HG7 := Lib.hid g7
          have hsv5 : ∀ q, sv.ownBlock = some q → q < w5.heap.size := fun q hq => (HS5.out.seg.lt q hq).2
          have hev5 : ∀ q, ev.ownBlock = some q → q < w5.heap.size := fun q hq => (HS5.out.ent.lt q hq).2
          have hw25 : w2.heap.size ≤ w5.heap.size := HS5.out.size
          have hw57 : w5.heap.size ≤ w7.heap.size := b7x.size
          have HLV7 := Lib.hid e7.lt
          clear n6 o7 e7 g7 b7x hents HS5 HO5
          have c6 : w7.cell? ⟨b6, 0, none⟩ = some (.pointer (some ⟨h, 0, none⟩)) := by
            rw [cell_of_row _ _ _ _ _ _ ((HS7.out.same b6 (by omega) (by omega) (by omega)).trans R6b.out)]; rfl
          have c3 := (row_cells6 HS7.out.rowh).2.2.2.1
          obtain ⟨i0, hi, hz0, hz1, hz2⟩ := info_parts infoSeg
          --@4
          refine wl_norm (fun K5 hK5 => ?_)
          refine wp_region_sinkC' (fun w' => w'.cell? ⟨b6, 0, none⟩ = some (.pointer (some ⟨h, 0, none⟩)) ∧ w'.cell? ⟨h, 3, none⟩ = some sv) _ rfl (by kernel_rfl) (by kernel_rfl) ⟨c6, c3⟩ (fun hHeld => ?_)
          simp only [List.pop_toArray, List.dropLast_cons_cons, List.dropLast_singleton]
          (refine wpAnyH_take (i := 0) (v := ?_) rfl (by kernel_rfl) (by kernel_rfl) (by kernel_rfl) (fun _ _ _ h => h) (Or.inl ⟨by rfl, ?_⟩) (by assumption) ?_; rotate_left; focus ((intro w hSw; (try dsimp only at hSw); go_simp); try (with_reducible rfl); done); try simp only [Act.put, List.setIfInBounds_toArray, List.set_cons_zero, List.set_cons_succ])
          (refine wpAnyH_take (i := 1) (v := ?_) rfl (by kernel_rfl) (by kernel_rfl) (by kernel_rfl) (fun _ _ _ h => h) (Or.inl ⟨by rfl, ?_⟩) (by assumption) ?_; rotate_left; focus ((intro w hSw; (try dsimp only at hSw); go_simp); try (with_reducible rfl); done); try simp only [Act.put, List.setIfInBounds_toArray, List.set_cons_zero, List.set_cons_succ])
          (refine wpAnyH_take (i := 2) (v := ?_) rfl (by kernel_rfl) (by kernel_rfl) (by kernel_rfl) (fun _ _ _ h => h) (Or.inl ⟨by rfl, ?_⟩) (by assumption) ?_; rotate_left; focus ((intro w hSw; (try dsimp only at hSw); go_simp); try (with_reducible rfl); done); try simp only [Act.put, List.setIfInBounds_toArray, List.set_cons_zero, List.set_cons_succ])
          (refine wpAnyH_take (i := 3) (v := ?_) rfl (by kernel_rfl) (by kernel_rfl) (by kernel_rfl) (fun _ _ _ h => h) (Or.inl ⟨by rfl, ?_⟩) (by assumption) ?_; rotate_left; focus ((intro w hSw; (try dsimp only at hSw); go_simp); try (with_reducible rfl); done); try simp only [Act.put, List.setIfInBounds_toArray, List.set_cons_zero, List.set_cons_succ])
          (refine wpAnyH_take (i := 4) (v := ?_) rfl (by kernel_rfl) (by kernel_rfl) (by kernel_rfl) (fun _ _ _ h => h) (Or.inl ⟨by rfl, ?_⟩) (by assumption) ?_; rotate_left; focus ((intro w hSw; (try dsimp only at hSw); go_simp); try (with_reducible rfl); done); try simp only [Act.put, List.setIfInBounds_toArray, List.set_cons_zero, List.set_cons_succ])
          (refine wpAnyH_take (i := 5) (v := ?_) rfl (by kernel_rfl) (by kernel_rfl) (by kernel_rfl) (fun _ _ _ h => h) (Or.inl ⟨by rfl, ?_⟩) (by assumption) ?_; rotate_left; focus ((intro w hSw; (try dsimp only at hSw); go_simp); try (with_reducible rfl); done); try simp only [Act.put, List.setIfInBounds_toArray, List.set_cons_zero, List.set_cons_succ])
          (refine wpAnyH_take (i := 6) (v := ?_) rfl (by kernel_rfl) (by kernel_rfl) (by kernel_rfl) (fun _ _ _ h => h) (Or.inl ⟨by rfl, ?_⟩) (by assumption) ?_; rotate_left; focus ((intro w hSw; (try dsimp only at hSw); go_simp); try (with_reducible rfl); done); try simp only [Act.put, List.setIfInBounds_toArray, List.set_cons_zero, List.set_cons_succ])
          (refine wpAnyH_take (i := 7) (v := ?_) rfl (by kernel_rfl) (by kernel_rfl) (by kernel_rfl) (fun _ _ _ h => h) (Or.inl ⟨by rfl, ?_⟩) (by assumption) ?_; rotate_left; focus ((intro w hSw; (try dsimp only at hSw); go_simp); try (with_reducible rfl); done); try simp only [Act.put, List.setIfInBounds_toArray, List.set_cons_zero, List.set_cons_succ])
          (refine wpAnyH_take (i := 8) (v := ?_) rfl (by kernel_rfl) (by kernel_rfl) (by kernel_rfl) (fun _ _ _ h => h) (Or.inl ⟨by rfl, ?_⟩) (by assumption) ?_; rotate_left; focus ((intro w hSw; (try dsimp only at hSw); go_simp); try (with_reducible rfl); done); try simp only [Act.put, List.setIfInBounds_toArray, List.set_cons_zero, List.set_cons_succ])
          --@5
          refine wpAnyH_ready (rs := [9]) (by kernel_rfl) (by simp) ?_
          refine AllReadyH.cons rfl (fun K hK => ?_) AllReadyH.nil
          go_simp
          obtain ⟨w8, hw8⟩ : ∃ w8, w8 = (w7.alloc (.cells #[.int .i64 m, .int .i64 ents.1.length] 101)).drew := ⟨_, rfl⟩
          have hb8 : Below w7.heap.size w7 w8 := by rw [hw8]; exact ((Below.refl _ _).alloc (Nat.le_refl _) _).drew
          have hrow8 : w8.heap[w7.heap.size]? = some (.cells #[.int .i64 m, .int .i64 ents.1.length] 101 (0, 0)) := by rw [hw8]; exact heap_alloc_new w7 _
          have hs8 : w7.heap.size ≤ w8.heap.size := hb8.size
          have hs7 : w2.heap.size ≤ w7.heap.size := HS7.out.size
          have y6 := (hb8.cell (p := ⟨b6, 0, none⟩) (by show b6 < _; omega)).trans c6
          have y3 := (hb8.cell (p := ⟨h, 3, none⟩) (by show h < _; omega)).trans c3
          have HW8 := Lib.hid hw8
          refine hK.out _ _ (by rw [← HW8.out]; exact ⟨y6, y3⟩) (fun hHeld2 => ?_)
          rw [← HW8.out] at hHeld2 ⊢
          clear hK K hHeld hw8
          try simp only [Act.put, List.setIfInBounds_toArray, List.set_cons_zero, List.set_cons_succ]
          --@6
          refine wpAnyH_ready (rs := [10]) (by kernel_rfl) (by simp) ?_
          refine AllReadyH.cons rfl (fun K hK => ?_) AllReadyH.nil
          obtain ⟨v9, w9, hr9, ho9, hg9, hat9⟩ := wl_append_at (w := w8) 91 91 101 i0 (.agg #[.int .i64 0, .int .i64 0]) 2 16 Tryz.underlying91 hi hz0 hz1 hz2 rfl (by decide) w2.heap.size sv (S k).segs.length (segCells (S k).segs)
            (own_keep HS7.out.seg (fun k hk => hb8.block k (HS7.out.seg.lt k hk).2)) (some ⟨w7.heap.size, 0, none⟩) 1 1 [.int .i64 m, .int .i64 ents.1.length] rfl (fun ad ha => by cases ha; exact World.news_of_block hrow8) (fun e => by cases e) (by intro u hu; simp at hu; rcases hu with rfl | rfl <;> rfl) (by unfold maxLen; omega) (by omega) (by omega)
          refine step_append_eq rfl _ _ _ rfl _ _ _ _ rfl rfl hr9 ?_
          have hb9 : ∀ b, b < w2.heap.size → w9.heap[b]? = w7.heap[b]? := fun b hbl => (hg9.block b (by omega) (fun e => by have := (HS7.out.seg.lt b e.symm).1; omega)).trans (hb8.block b (by omega))
          have u6 : w9.cell? ⟨b6, 0, none⟩ = some (.pointer (some ⟨h, 0, none⟩)) := (World.cell?_of_block (a := ⟨b6, 0, none⟩) (hb9 b6 (by omega))).trans c6
          have u3 : w9.cell? ⟨h, 3, none⟩ = some sv := (World.cell?_of_block (a := ⟨h, 3, none⟩) (hb9 h (by omega))).trans c3
          have z3 : w9.frozen? ⟨h, 3, none⟩ = false := dk_frozen _ _ _ _ _ ((hb9 h (by omega)).trans HS7.out.rowh)
          refine hK.out _ _ ⟨u6, u3⟩ (fun hHeld => ?_)
          obtain ⟨q9, hq9⟩ : ∃ q9, v9.ownBlock = some q9 := by
            obtain ⟨_, ⟨_, h0⟩ | ⟨g9, cap9, cur9, rfl, _⟩⟩ := ho9
            · exact absurd h0 (by omega)
            · exact ⟨_, rfl⟩
          have hat9' : sv.ownBlock = some q9 ∨ q9 = w8.heap.size := by
            rw [hq9] at hat9
            rcases hat9 with h1 | h1
            · exact .inl h1.symm
            · cases h1; exact .inr rfl
          have HS9 := Lib.hid (HS7.out.addSeg (s := (m, ents.1.length)) hb8 ho9 hg9 hq9 hat9')
          have hq9' : q9 < w5.heap.size ∨ w7.heap.size ≤ q9 := by
            rcases hat9' with h1 | h1
            · exact .inl (hsv5 _ h1)
            · exact .inr (by omega)
          have HE9 : Hid (EnOk w9 none ents.1 ws) := Lib.hid ((HE7.out.any.below hb8).past hg9 (fun v hv q hq e => by have h1 := HG7.out v hv q hq; have h2 := hsv5 q e.symm; omega))
          have HO9 : Hid (w9.ownsRow w5.heap.size 62 2 (.slice la ents.1.length lcp) ents.1.length (enCells ents.1 ws)) := Lib.hid (own_keep HO7.out (fun q hq => by
            have h1 := HO7.out.lt q hq
            exact (hg9.block q (by omega) (fun e => by have h2 := hsv5 q e.symm; omega)).trans (hb8.block q (by omega))))
          have hs9 : w8.heap.size ≤ w9.heap.size := hg9.size
          clear hK K hHeld2 hr9 hb9 ho9 hg9 hat9 hat9'
          simp only [List.getElem_toArray, List.getElem_cons_succ, List.getElem_cons_zero, Act.put, List.setIfInBounds_toArray, List.set_cons_zero, List.set_cons_succ]
          (refine wpAnyH_take (i := 11) (v := ?_) rfl (by kernel_rfl) (by kernel_rfl) (by kernel_rfl) (fun _ _ _ h => h) (Or.inl ⟨by rfl, ?_⟩) (by assumption) ?_; rotate_left; focus ((intro w hSw; (try dsimp only at hSw); go_simp); try (with_reducible rfl); done); try simp only [Act.put, List.setIfInBounds_toArray, List.set_cons_zero, List.set_cons_succ])
          (refine wpAnyH_take (i := 12) (v := ?_) rfl (by kernel_rfl) (by kernel_rfl) (by kernel_rfl) (fun _ _ _ h => h) (Or.inl ⟨by rfl, ?_⟩) (by assumption) ?_; rotate_left; focus ((intro w hSw; (try dsimp only at hSw); go_simp); try (with_reducible rfl); done); try simp only [Act.put, List.setIfInBounds_toArray, List.set_cons_zero, List.set_cons_succ])
          refine wpAnyH_done (by kernel_rfl) ?_ _
          --@8
          obtain ⟨sa, scp, rfl⟩ := own_slice HS9.out.seg
          have hl9 : ((S k).segs ++ [(m, ents.1.length)]).length = k + 1 := by simp [hsl]
          rw [hl9] at HS9 hq9
          obtain ⟨w10, hw10⟩ : ∃ w10, w10 = w9.setCell ⟨h, 3, none⟩ (.slice sa (k + 1) scp) := ⟨_, rfl⟩
          have HW10 := Lib.hid hw10
          rw [← hw10] at HS9
          have HE10 : Hid (EnOk w10 none ents.1 ws) := Lib.hid (by rw [hw10]; exact HE9.out.set (fun v hv q hq => by have h1 := HG7.out v hv q hq; omega))
          have HO10 : Hid (w10.ownsRow w5.heap.size 62 2 (.slice la ents.1.length lcp) ents.1.length (enCells ents.1 ws)) := Lib.hid (by
            rw [hw10]
            exact own_keep HO9.out (fun q hq => (wl_set w9 h 3 _).block q (HO9.out.lt q hq).2 (fun e => by cases e; have := (HO9.out.lt h hq).1; omega)))
          have hs10 : w7.heap.size ≤ w10.heap.size := by have := (wl_set w9 h 3 (.slice sa (k + 1) scp)).size; rw [← hw10] at this; omega
          clear hw10 HW8 hrow8 hb8 y6 y3 hHeld u6 HE9 HO9 HE7 HO7 hl9
          unfold sinkPost
          simp only []
          go_simp
          rw [← HW10.out]
          refine hK5 _ _ ?_
          clear HW10 hK5 K5 u3 z3 c3 c6 hs8 hs9
          --@9
          obtain ⟨i1, hi', hz0', hz1', hz2'⟩ := info_parts infoEnt
          have hsz := Wl.intact_size x.2.contents m
          rw [← HENTS.out] at hsz
          have hnews := own_news HO10.out (enCells_length _ _ HE10.out.1)
          obtain ⟨v11, w11, hr11, ho11, hg11, hat11⟩ := wl_append_at (w := w10) 53 53 62 i1 (.agg #[.int .i64 0, .slice none 0 0]) 2 32 Tryz.underlying53 hi' hz0' hz1' hz2' rfl (by decide) w2.heap.size ev (S k).ents.length (enCells (S k).ents vs)
            HS9.out.ent la ents.1.length lcp (enCells ents.1 ws) (enCells_length _ _ HE10.out.1) hnews.1 hnews.2 (enCells_one _ _ HE10.out.one) (by unfold maxLen; omega) (by omega) (by have := HS9.out.size; omega)
          have hat11' : v11.ownBlock = ev.ownBlock ∨ v11.ownBlock = some w10.heap.size := hat11
          have hb11 : ∀ b, b < w2.heap.size → w11.heap[b]? = w10.heap[b]? := fun b hbl => hg11.block b (by omega) (fun e => by have := (HS9.out.ent.lt b e.symm).1; omega)
          have HS11 := Lib.hid (HS9.out.addEnts HE10.out (fun v hv q hq => by
            have h1 := HG7.out v hv q hq
            have h2 := HLV7.out v hv q hq
            refine ⟨by omega, fun e => by have h3 := hev5 q e.symm; omega, fun e => ?_⟩
            rw [hq9] at e
            cases e
            omega) ho11 hg11 hat11)
          have x7 : w10.cell? ⟨b7, 0, none⟩ = some ev := by rw [cell_of_row _ _ _ _ _ _ HS9.out.row7]; rfl
          have y7 : w11.cell? ⟨b7, 0, none⟩ = some ev := (World.cell?_of_block (a := ⟨b7, 0, none⟩) (hb11 b7 (by omega))).trans x7
          have z7 : w11.frozen? ⟨b7, 0, none⟩ = false := dk_frozen _ _ _ _ _ ((hb11 b7 (by omega)).trans HS9.out.row7)
          obtain ⟨ea, ecp, rfl⟩ := own_slice ho11
          have HN11 : Hid (ents.1.length ≤ 1000000 ∧ (S k).ents.length ≤ k * 1000000) := Lib.hid ⟨by omega, hel⟩
          clear hb11 hat11 hat11' ho11 hg11 HS9 hnews hsz hq9 hq9' hel
          obtain ⟨el, hel⟩ : ∃ el, el = (S k).ents.length + ents.1.length := ⟨_, rfl⟩
          rw [← hel] at hr11 HS11
          have HEL := Lib.hid hel
          clear hel
          --@10
          go_upto_region 28 with (at_builtin; refine wpList_append_eq rfl _ _ _ rfl _ _ _ _ rfl rfl hr11 ?_)
          obtain ⟨w12, hw12⟩ : ∃ w12, w12 = w11.setCell ⟨b7, 0, none⟩ (.slice ea el ecp) := ⟨_, rfl⟩
          have HW12 := Lib.hid hw12
          rw [← hw12] at HS11
          clear hw12 hr11 x7 y7 z7 HE10 HO10
          have c6 : w12.cell? ⟨b6, 0, none⟩ = some (.pointer (some ⟨h, 0, none⟩)) := by
            rw [cell_of_row _ _ _ _ _ _ ((HS11.out.same b6 (by omega) (by omega) (by omega)).trans R6b.out)]; rfl
          have c4 := (row_cells6 HS11.out.rowh).2.2.2.2.1
          have z4 : w12.frozen? ⟨h, 4, none⟩ = false := dk_frozen _ _ _ _ _ HS11.out.rowh
          rw [← HW12.out]
          clear HW12
          have hent2 : ents.2 ≤ x.2.contents.length := by rw [HENTS.out]; exact (Wl.intact_size _ _).2
          obtain ⟨hwr, hwr2⟩ := op_wrap m ents.1.length (by have := HN11.out.1; omega)
          --@11
          go_upto_region 29 with fail
          obtain ⟨w13, hw13⟩ : ∃ w13, w13 = w12.setCell ⟨h, 4, none⟩ (.int .i64 ((m : Int) + (ents.1.length : Int))) := ⟨_, rfl⟩
          have HW13 := Lib.hid hw13
          have HS13 := Lib.hid (HS11.out.setNext (m + ents.1.length))
          rw [show (((m + ents.1.length : Nat) : Int)) = (m : Int) + (ents.1.length : Int) from Int.natCast_add _ _, ← hw13] at HS13
          rw [← HW13.out]
          clear hw13 HW13 HS11 c6 c4 z4 hwr hwr2
          clear hw25 hw57 hs7 hs10 hlow hxf hxc hsl hnx hsv5 hev5 hi hz0 hz1 hz2 hi' hz0' hz1' hz2' hmf HD HLB HLV7 HG7 RBb R6b RHb R8b R7b nL
          by_cases hct : ents.2 < x.2.contents.length
          · have hcti : (ents.2 : Int) < (x.2.contents.length : Int) := by omega
            have HST2 : Hid (S (k + 1) = ⟨m + ents.1.length, true, [], some (x.1, ents.2), (S k).segs ++ [(m, ents.1.length)], (S k).ents ++ ents.1⟩) := Lib.hid (by rw [HSTEP.out, ← HENTS.out, if_pos hct])
            go_upto_region 31 with fail
            clear hct hcti hent2
            go_wp2_with fail
            refine ⟨⟨k + 1, .slice sa (k + 1) scp, .slice ea el ecp, vs ++ ws, by go_num, by omega, rfl, ?_, ?_, ?_, ?_⟩, by simp [RowKit.intOf]; omega⟩
            · rw [HST2.out, ← HNMX.out, ← hxm]; rfl
            · rw [HST2.out]; rfl
            · rw [HST2.out]
            · rw [HST2.out]; exact HS13
          · have hcti : ¬ (ents.2 : Int) < (x.2.contents.length : Int) := by omega
            have HST2 : Hid (S (k + 1) = ⟨m + ents.1.length, true, [], none, (S k).segs ++ [(m, ents.1.length)], (S k).ents ++ ents.1⟩) := Lib.hid (by rw [HSTEP.out, ← HENTS.out, if_neg hct])
            go_upto_region 31 with fail
            clear hct hcti hent2
            go_wp2_with fail
            refine ⟨⟨k + 1, .slice sa (k + 1) scp, .slice ea el ecp, vs ++ ws, by go_num, by omega, rfl, ?_, ?_, ?_, ?_⟩, by simp [RowKit.intOf]; omega⟩
            · rw [HST2.out]; rfl
            · rw [HST2.out]; rfl
            · rw [HST2.out]
            · rw [HST2.out]; exact HS13
      · obtain rfl : k = D.fs.length := by omega
        have hSl : S D.fs.length = st := by rw [HSS.out, HST.out]; show Wl.scan _ _ (List.take D.fs.length D.fs) = _; rw [List.take_of_length_le (Nat.le_refl _)]
        rw [hSl] at HS ⊢
        clear HSS HG HLB RBb R6b RHb R8b R7b nL HB2 HD
        go_wp2_with fail
        go_meet
        case rel => exact ⟨sv, ev, vs, rfl, rfl, rfl, HS⟩
  case rest =>
    obtain ⟨sv, ev, vs, rfl, rfl, rfl, HS⟩ := hcut
    --@b1
    have n3 := wl_Backward wc none 0 0
    go_wp2_with (go_at_call 54; refine n3.mono ?_; rintro e w3 ⟨rfl, rfl⟩)
    obtain ⟨w3, hw3⟩ : ∃ w3, w3 = wc.alloc (.cells #[.slice none 0 0] 23) := ⟨_, rfl⟩
    have hb3 : Below wc.heap.size wc w3 := by rw [hw3]; exact (Below.refl _ _).alloc (Nat.le_refl _) _
    have hc3 : w3.cell? ⟨wc.heap.size, 0, none⟩ = some (.slice none 0 0) := by rw [hw3, cell_of_row _ _ _ _ _ _ (heap_alloc_new wc _)]; rfl
    have hlt3 : wc.heap.size < w3.heap.size := by rw [hw3]; simp
    rw [← hw3]
    refine wp_rangeFunc_none (gf := 92) (lb := #[.pointer (some ⟨wc.heap.size, 0, none⟩)]) rfl (enters_of Tryz.func92 (by kernel_rfl) rfl) (fun l W' hW' => wl_Backward0 W' wc.heap.size l ((hW'.cell (p := ⟨wc.heap.size, 0, none⟩) hlt3).trans hc3)) ?_
    intro Dm w4 hDm hb4 hdef
    have hb24 : Below wc.heap.size wc w4 := hb3.trans (hb4.mono hb3.size)
    have HS4 := Lib.hid (HS.out.below hb24)
    have hs24 : w2.heap.size ≤ w4.heap.size := HS4.out.size
    have HDF := Lib.hid hdef
    have hDm2 : w2.heap.size ≤ Dm := by have := HS.out.size; omega
    have hcDm : wc.heap.size ≤ Dm := by have := hb3.size; omega
    have hevD : ∀ q, ev.ownBlock = some q → w2.heap.size ≤ q ∧ q < Dm := fun q hq => ⟨(HS.out.ent.lt q hq).1, by have := (HS.out.ent.lt q hq).2; omega⟩
    have hsvD : ∀ q, sv.ownBlock = some q → w2.heap.size ≤ q ∧ q < Dm := fun q hq => ⟨(HS.out.seg.lt q hq).1, by have := (HS.out.seg.lt q hq).2; omega⟩
    have hvsD : ∀ v ∈ vs, ∀ q, v.ownBlock = some q → w2.heap.size ≤ q ∧ q < Dm := fun v hv q hq => ⟨HS.out.e3 v hv q hq, by have := HS.out.e1.lt v hv q hq; omega⟩
    have HEVD := Lib.hid hevD
    have HSVD := Lib.hid hsvD
    have HVSD := Lib.hid hvsD
    have hDm4 : Dm < w4.heap.size := (Array.getElem?_eq_some_iff.1 hdef).1
    clear n3 hw3 hb3 hc3 hlt3 hb4 hdef hb24 HS nL HLB hevD hsvD hvsD hcDm hDm
    --@b2
    have hall := HG.out.all hne
    rw [← HST.out] at hall
    obtain ⟨ha1, ha2, ha3, ha4, ha5, ha6⟩ := hall
    have HB4 : Hid (Below W.heap.size W w4) := Lib.hid (HS4.out.low HB2.out (by omega) (by omega))
    have HD4 := Lib.hid (HD.out.below HB4.out j)
    have cB4 : w4.cell? ⟨W.heap.size, 0, none⟩ = some (.pointer (some ⟨g, 0, none⟩)) := (World.cell?_of_block (a := ⟨W.heap.size, 0, none⟩) (HS4.out.same W.heap.size (by omega) (by omega) (by omega))).trans (by rw [cell_of_row _ _ _ _ _ _ RBb.out]; rfl : w2.cell? ⟨W.heap.size, 0, none⟩ = some (.pointer (some ⟨g, 0, none⟩)))
    have HA1 := Lib.hid ha1
    have HA2 := Lib.hid ha2
    have HA4 := Lib.hid ha4
    have HA5 := Lib.hid ha5
    have hrdy : Wl.Rdy D p.data.toList st.segs := ⟨hup, hbud, fun s hs => by
      rw [HST.out] at hs
      have := HG.out.segs D.fs.length (Nat.le_refl _) s (by rw [List.take_of_length_le (Nat.le_refl _)]; exact hs)
      obtain ⟨h1, x, _, _, h2⟩ := this
      exact ⟨h1, _, h2⟩⟩
    have HR := Lib.hid hrdy
    obtain ⟨cu, hcu⟩ : ∃ cu, cu = st.cut := ⟨_, rfl⟩
    rw [← hcu] at ha6 ⊢
    have HCU := Lib.hid hcu
    clear ha1 ha2 ha3 ha4 ha5 hrdy hcu
    --@b3
    go_upto_if 152 with fail
    go_cut [10, 11, 24] from 151 to 160 (fun v10 v11 v24 wx => ∃ c6, Hid (DiskAt i c6 wx g (Wl.cutD D cu)) ∧ Hid (Chg i (pnt c W.heap.size j) c6 w4 wx))
    case first =>
      cases cu with
      | none =>
        have hc0 : Wl.cutS none = ⟨#[]⟩ := rfl
        have hc1 : Wl.cutK none = 0 := rfl
        have hem : (⟨#[]⟩ : ByteArray).toList.isEmpty = true := by rw [Lib.toList_data]; rfl
        rw [hc0, hc1]
        obtain ⟨xs, hxs⟩ : ∃ xs, xs = (⟨#[]⟩ : ByteArray) := ⟨_, rfl⟩
        rw [← hxs] at hem ⊢
        clear hc0 hc1 ha6 hxs
        rw [hem]
        go_wp2_with fail
        go_meet
        case rel => exact ⟨_, HD4, Lib.hid (Chg.refl _ _ _)⟩
      | some x =>
        obtain ⟨m, f, hnm, hm100, hfd, hkl, hcl⟩ := ha6 x.1 x.2 rfl
        have hc0 : Wl.cutS (some x) = ⟨x.1.toArray⟩ := rfl
        have hc1 : Wl.cutK (some x) = x.2 := rfl
        have hxl : x.1.length = p.data.toList.length + 11 := by rw [hnm]; exact Wl.name_length (by omega)
        have hem : (⟨x.1.toArray⟩ : ByteArray).toList.isEmpty = false := by
          rw [Lib.toList_data]
          show x.1.isEmpty = false
          cases hx1 : x.1 with
          | nil => rw [hx1] at hxl; simp at hxl
          | cons => rfl
        have htr := HR.out.truncate x.1 hfd x.2 hkl
        have n6 := dk_Truncate HD4.out ⟨x.1.toArray⟩ (by show x.1.toArray.size ≤ _; have h5 : p.data.toList.length = p.size := (by rw [Array.length_toList]; rfl); simp; omega) (x.2 : Int) (by rw [hbud]; decide)
        rw [show (⟨x.1.toArray⟩ : ByteArray).data.toList = x.1 from rfl] at n6
        obtain ⟨r, hr⟩ : ∃ r, r = D.truncate x.1 x.2 := ⟨_, rfl⟩
        rw [← hr] at n6 htr
        have hr2 := htr.1
        rw [hc0, hc1]
        have HRR := Lib.hid hr
        clear hc0 hc1 ha6 hr htr hnm hxl hkl hcl hfd
        obtain ⟨xs, hxs⟩ : ∃ xs, xs = (⟨x.1.toArray⟩ : ByteArray) := ⟨_, rfl⟩
        obtain ⟨xk, hxk⟩ : ∃ xk, xk = x.2 := ⟨_, rfl⟩
        rw [← hxs, ← hxk] at n6
        rw [← hxs] at hem
        rw [← hxs, ← hxk]
        clear hxs hxk
        rw [hem]
        go_wp2_with (go_at_call 56; refine n6.mono ?_; rintro e w6 ⟨c6, rfl, hd6, hc6⟩)
        go_meet
        case rel =>
          refine ⟨c6, Lib.hid ?_, Lib.hid hc6⟩
          show DiskAt i c6 w6 g (D.truncate x.1 x.2).1
          rw [← HRR.out]; exact hd6
    case rest =>
      obtain ⟨cD, HD6, HC6⟩ := hcut
      have hWw2 : W.heap.size ≤ w2.heap.size := HB2.out.size
      have hk6 : ∀ b, W.heap.size ≤ b → b < w4.heap.size → wc.heap[b]? = w4.heap[b]? ∧ cD b = j := fun b h1 h2 => ⟨HC6.out.block b h2 (by rw [pnt_new h1]; exact Ne.symm hij), by rw [HC6.out.col b h2, pnt_new h1]⟩
      have hl6 : LogIs j cD wc h g ⟨p.data.toList, n, st.segs, st.next, 0⟩ sv :=
        ⟨(hk6 h (by omega) (by omega)).1.trans HS4.out.rowh, own_zero (own_keep HS4.out.seg (fun q hq => (hk6 q (by have := HSVD.out q hq; omega) (by have := HSVD.out q hq; omega)).1)) 0 (Nat.zero_le _), (hk6 h (by omega) (by omega)).2,
          fun q hq => ⟨(hk6 q (by have := HSVD.out q hq; omega) (by have := HSVD.out q hq; omega)).2, by have := HSVD.out q hq; omega⟩⟩
      have hnes : st.segs ≠ [] := fun e => by have := HA1.out; rw [e] at this; simp at this; omega
      have hop := Wl.openD_good (sz := n) HST.out HA2.out hnes
      obtain ⟨sg, cap, cur, rfl, hrow6, hcn, -⟩ := hl6.form hnes
      obtain ⟨sn, hsn⟩ : ∃ sn, sn = st.segs.length := ⟨_, rfl⟩
      have hsn1 : 0 < sn := by have := HA1.out; omega
      have hsn2 : sn ≤ 100 := by have := HA1.out; omega
      obtain ⟨x0, x1, x2, x3, x4, x5⟩ := row_cells6 hl6.row
      have hsgl : w2.heap.size ≤ sg ∧ sg < Dm := HSVD.out sg rfl
      simp only [] at x3 hcn
      rw [← hsn] at x3 hcn
      have y6 : wc.cell? ⟨b6, 0, none⟩ = some (.pointer (some ⟨h, 0, none⟩)) := by
        rw [cell_of_row _ _ _ _ _ _ ((hk6 b6 (by omega) (by omega)).1.trans ((HS4.out.same b6 (by omega) (by omega) (by omega)).trans R6b.out))]; rfl
      obtain ⟨LL, hLL⟩ : ∃ LL : Wl.L, LL = ⟨p.data.toList, n, st.segs, st.next, 0⟩ := ⟨_, rfl⟩
      rw [← hLL, show LL.segs.length = sn from by rw [hLL, hsn]] at hl6
      have HL6 := Lib.hid hl6
      have HLL := Lib.hid hLL
      have HSN := Lib.hid hsn
      have HK6 := Lib.hid hk6
      have HOP := Lib.hid hop
      have HREST := Lib.hid hrow6
      obtain ⟨DD, hDD⟩ : ∃ DD : Nat → Dk.D, DD = fun k => (st.segs.take k).foldl (fun d s => (Wl.settle d p.data.toList s.1).1) (Wl.cutD D cu) := ⟨_, rfl⟩
      have HDD := Lib.hid hDD
      have HR2 : Hid (Wl.Rdy (Wl.cutD D cu) p.data.toList st.segs) := Lib.hid (by
        cases hcc : cu with
        | none => exact HR.out
        | some x =>
          obtain ⟨_, f, _, _, hfd, hkl, _⟩ := ha6 x.1 x.2 (by rw [hcc])
          exact (HR.out.truncate x.1 hfd x.2 hkl).2)
      have HRK : Hid (∀ k, Wl.Rdy (DD k) p.data.toList st.segs) := Lib.hid (fun k => by rw [hDD]; exact HR2.out.settles _ (fun s hs => List.mem_of_mem_take hs))
      clear hl6 hLL hsn hk6 hop hrow6 hDD hnes x0 x1 x2 x4 x5 ha6
      --@b4
      go_wp2_with fail
      go_loopw [166] (fun iv wr => ∃ (k : Nat) (c7 : Nat → Nat), iv = .int .i64 k ∧ k ≤ sn ∧ Hid (DiskAt i c7 wr g (DD k)) ∧ Hid (Chg i cD c7 wc wr)) (fun iv _ => sn - (RowKit.intOf iv).toNat)
      case atStart => exact ⟨0, cD, rfl, Nat.zero_le _, by rw [HDD.out]; exact HD6, Lib.hid (Chg.refl _ _ _)⟩
      case round =>
        obtain ⟨k, c7, rfl, hk, HD7, HC7⟩ := hrel
        have HL7 : Hid (LogIs j c7 wr h g LL (.slice (some ⟨sg, 0, none⟩) sn cap)) := Lib.hid (HL6.out.keep HC7.out.size (fun b hb hc => ⟨HC7.out.block b hb (by rw [hc]; exact Ne.symm hij), by rw [HC7.out.col b hb]; exact hc⟩))
        have hc6s : w4.heap.size ≤ wc.heap.size := HC6.out.size
        have hk7 : ∀ b, W.heap.size ≤ b → b < w4.heap.size → wr.heap[b]? = w4.heap[b]? ∧ c7 b = j := fun b h1 h2 => by
          obtain ⟨e1, e2⟩ := HK6.out b h1 h2
          exact ⟨(HC7.out.block b (by omega) (by rw [e2]; exact Ne.symm hij)).trans e1, by rw [HC7.out.col b (by omega)]; exact e2⟩
        have z6 : wr.cell? ⟨b6, 0, none⟩ = some (.pointer (some ⟨h, 0, none⟩)) := by
          rw [cell_of_row _ _ _ _ _ _ ((hk7 b6 (by omega) (by omega)).1.trans ((HS4.out.same b6 (by omega) (by omega) (by omega)).trans R6b.out))]; rfl
        have HK7 := Lib.hid hk7
        clear hk7
        by_cases hlt : k < sn
        · obtain ⟨s, hs⟩ : ∃ s, st.segs[k]? = some s := ⟨_, List.getElem?_eq_getElem (by rw [← HSN.out]; exact hlt)⟩
          have hsm : s ∈ st.segs := List.mem_of_getElem? hs
          have hlls : LL.segs = st.segs := by rw [HLL.out]
          obtain ⟨s0, s1⟩ := LogIs.seg_at (k := k) (s := s) (by rw [hlls, ← HSN.out]; exact HL7.out) (by rw [hlls]; exact hs)
          have hset := (HRK.out k).settle hsm
          have hs100 := ((HRK.out k).seg s hsm).1
          obtain ⟨r, hr⟩ : ∃ r, r = Wl.settle (DD k) p.data.toList s.1 := ⟨_, rfl⟩
          rw [← hr] at hset
          have hr2 := hset.1
          have n7 : Hid (∀ o, Below wr.heap.size wr o → Calls Tryz.prog 57 #[.pointer (some ⟨h, 0, none⟩), .agg #[.int .i64 s.1, .int .i64 s.2]] o (DkPost i c7 o g r)) := Lib.hid (fun o ho => by
            have := wl_settle (HD7.out.keepW ho) ⟨_, HL7.out.below ho⟩ hij s hs100 (by rw [HLL.out]; have h5 : p.data.toList.length = p.size := (by rw [Array.length_toList]; rfl); show p.data.toList.length ≤ _; omega) (by rw [(HRK.out k).bud]; decide)
            rw [show LL.pre = p.data.toList from by rw [HLL.out], ← hr] at this
            exact this)
          have hDk : DD (k + 1) = r.1 := by
            rw [hr, HDD.out]
            show List.foldl _ _ (List.take (k + 1) st.segs) = _
            rw [List.take_add_one, hs, List.foldl_append]
            rfl
          have HDK := Lib.hid hDk
          obtain ⟨W5, hW5⟩ : ∃ W5, W5 = wr.alloc (.cells #[.int .i64 s.1, .int .i64 s.2] 101) := ⟨_, rfl⟩
          have hb5 : Below wr.heap.size wr W5 := by rw [hW5]; exact (Below.refl _ _).alloc (Nat.le_refl _) _
          have hrow5 : W5.heap[wr.heap.size]? = some (.cells #[.int .i64 s.1, .int .i64 s.2] 101 (0, 0)) := by rw [hW5]; exact heap_alloc_new wr _
          have q0 : W5.cell? ⟨wr.heap.size, 0, none⟩ = some (.int .i64 s.1) := by rw [cell_of_row _ _ _ _ _ _ hrow5]; rfl
          have q1 : W5.cell? ⟨wr.heap.size, 1, none⟩ = some (.int .i64 s.2) := by rw [cell_of_row _ _ _ _ _ _ hrow5]; rfl
          have q6 : W5.cell? ⟨b6, 0, none⟩ = some (.pointer (some ⟨h, 0, none⟩)) := (hb5.cell (p := ⟨b6, 0, none⟩) (World.block_lt_of_cell? _ _ z6)).trans z6
          have HW5 := Lib.hid hW5
          have n8 := n7.out W5 hb5
          have HB5 := Lib.hid hb5
          clear hW5 hb5 hrow5 hr hset hs hsm hlls hDk n7
          --@b5
          go_upto_region 44 with fail
          rw [← HW5.out]
          clear HW5
          go_wp2_with (go_at_call 57; refine n8.mono ?_; rintro e w8 ⟨c8, rfl, hd8, hc8⟩)
          refine ⟨⟨k + 1, c8, by go_num, by omega, Lib.hid (by rw [HDK.out]; exact hd8), Lib.hid (HC7.out.trans ((chg_same HB5.out).trans hc8))⟩, by simp [RowKit.intOf]; omega⟩
        · obtain rfl : k = sn := by omega
          have hDn : DD k = (Wl.openD D p.data.toList n).1 := by
            rw [HOP.out, HDD.out]
            show List.foldl _ _ (List.take k st.segs) = _
            rw [HSN.out, List.take_of_length_le (Nat.le_refl _), HCU.out]
          have HDN := Lib.hid hDn
          clear hDn hlt
          have hk7 := HK7.out
          have g3 : wr.cell? ⟨h, 3, none⟩ = some (.slice (some ⟨sg, 0, none⟩) k cap) := (row_cells6 HL7.out.row).2.2.2.1
          have g4 : wr.cell? ⟨h, 4, none⟩ = some (.int .i64 st.next) := by have := (row_cells6 HL7.out.row).2.2.2.2.1; rw [HLL.out] at this; exact this
          clear hk7
          --@b6
          go_upto_region 53 with fail
          --@b7
          clear g3 g4
          have hk7 := HK7.out
          have hwr4 : w4.heap.size ≤ wr.heap.size := Nat.le_trans hc6s HC7.out.size
          have hne1 : ¬ h = b6 := by omega
          have hne2 : ¬ h = b7 := by omega
          have hne3 : ¬ h = b8 := by omega
          have hne4 : ¬ b6 = h := by omega
          have hne5 : ¬ b7 = h := by omega
          have hne6 : ¬ b8 = h := by omega
          have hne7 : ¬ b6 = b7 := by omega
          have hne8 : ¬ b6 = b8 := by omega
          have hne9 : ¬ b7 = b8 := by omega
          obtain ⟨ea, ecp, rfl⟩ := own_slice HS4.out.ent
          obtain ⟨el, hel⟩ : ∃ el, el = st.ents.length := ⟨_, rfl⟩
          have HEL := Lib.hid hel
          rw [← hel] at HS4 HEVD
          obtain ⟨nx, hnx⟩ : ∃ nx, nx = st.next := ⟨_, rfl⟩
          have HNX := Lib.hid hnx
          have E6 := Lib.hid ((hk7 b6 (by omega) (by omega)).1.trans ((HS4.out.same b6 (by omega) (by omega) (by omega)).trans R6b.out))
          have E7 := Lib.hid ((hk7 b7 (by omega) (by omega)).1.trans HS4.out.row7)
          have E8 := Lib.hid ((hk7 b8 (by omega) (by omega)).1.trans ((HS4.out.same b8 (by omega) (by omega) (by omega)).trans R8b.out))
          have ED := Lib.hid ((hk7 Dm (by omega) hDm4).1.trans HDF.out)
          have hDmj : c7 Dm = j := (hk7 Dm (by omega) hDm4).2
          have HDMJ := Lib.hid hDmj
          have HL7' : Hid (LogIs j c7 wr h g { LL with next := nx } (.slice (some ⟨sg, 0, none⟩) k cap)) := Lib.hid (by rw [hnx]; have := HL7.out; rw [HLL.out] at this ⊢; exact this)
          clear hk7 hel hnx hDmj
          have c6 : wr.cell? ⟨b6, 0, none⟩ = some (.pointer (some ⟨h, 0, none⟩)) := by rw [cell_of_row _ _ _ _ _ _ E6.out]; rfl
          have c4 : wr.cell? ⟨h, 4, none⟩ = some (.int .i64 nx) := (row_cells6 HL7'.out.row).2.2.2.2.1
          have f5 : wr.frozen? ⟨h, 5, none⟩ = false := dk_frozen _ _ _ _ _ HL7'.out.row
          have f5d : wr.drew.frozen? ⟨h, 5, none⟩ = false := f5
          have c5 := (row_cells6 HL7'.out.row).2.2.2.2.2
          have c5d : wr.drew.cell? ⟨h, 5, none⟩ = _ := c5
          obtain ⟨hl8, hc8⟩ := HL7'.out.syncedAt
          have hb8d : Below (wr.setCell ⟨h, 5, none⟩ (.int .i64 (nx : Int))).heap.size (wr.setCell ⟨h, 5, none⟩ (.int .i64 (nx : Int))) (wr.setCell ⟨h, 5, none⟩ (.int .i64 (nx : Int))).drew := (Below.refl _ _).drew
          obtain ⟨w8, hw8⟩ : ∃ w8, w8 = (wr.setCell ⟨h, 5, none⟩ (.int .i64 nx)).drew := ⟨_, rfl⟩
          have HL8 : Hid (LogIs j c7 w8 h g { LL with next := nx, synced := nx } (.slice (some ⟨sg, 0, none⟩) k cap)) := Lib.hid (by rw [hw8]; exact hl8.below hb8d)
          have HC8 : Hid (Chg j c7 c7 wr w8) := Lib.hid (by rw [hw8]; exact hc8.trans (chg_same hb8d))
          have hg8 : ∀ b, b ≠ h → w8.heap[b]? = wr.heap[b]? := fun b hne => by
            rw [hw8]
            show (wr.setCell ⟨h, 5, none⟩ (.int .i64 nx)).heap[b]? = _
            exact Below.heap_setCell wr ⟨h, 5, none⟩ _ b hne
          have HS8 : Hid (w8.heap.size = wr.heap.size) := Lib.hid (by rw [hw8]; show (wr.setCell ⟨h, 5, none⟩ (.int .i64 nx)).heap.size = _; simp)
          have HW8 := Lib.hid hw8
          have c48 : (wr.setCell ⟨h, 5, none⟩ (.int .i64 nx)).drew.cell? ⟨h, 4, none⟩ = some (.int .i64 nx) := (row_cells6 hl8.row).2.2.2.2.1
          have G6 := Lib.hid ((hg8 b6 hne4).trans E6.out)
          have G7 := Lib.hid ((hg8 b7 hne5).trans E7.out)
          have G8 := Lib.hid ((hg8 b8 hne6).trans E8.out)
          have GD := Lib.hid ((hg8 Dm (by omega)).trans ED.out)
          have HG8 := Lib.hid hg8
          clear hl8 hc8 hb8d hw8 hg8 E6 E7 E8 ED
          --@b8
          go_region_held3 (fun w' => w'.cell? ⟨b6, 0, none⟩ = some (.pointer (some ⟨h, 0, none⟩)) ∧ w'.cell? ⟨h, 4, none⟩ = some (.int .i64 nx))
            (first | assumption | (refine ⟨?_, ?_⟩ <;> first | assumption | go_keep) | go_keep)
            (fail)
          rw [← HW8.out]
          clear c6 c4 f5 f5d c5 c5d c48
          have c6 : w8.cell? ⟨b6, 0, none⟩ = some (.pointer (some ⟨h, 0, none⟩)) := by rw [cell_of_row _ _ _ _ _ _ G6.out]; rfl
          have c7x : w8.cell? ⟨b7, 0, none⟩ = some (.slice ea el ecp) := by rw [cell_of_row _ _ _ _ _ _ G7.out]; rfl
          have c8x : w8.cell? ⟨b8, 0, none⟩ = some (.int .i64 0) := by rw [cell_of_row _ _ _ _ _ _ G8.out]; rfl
          --@b9
          go_upto_region 54 with fail
          have f6 : w8.frozen? ⟨b6, 0, none⟩ = false := dk_frozen _ _ _ _ _ G6.out
          have f7 : w8.frozen? ⟨b7, 0, none⟩ = false := dk_frozen _ _ _ _ _ G7.out
          have f8 : w8.frozen? ⟨b8, 0, none⟩ = false := dk_frozen _ _ _ _ _ G8.out
          have f6d : w8.drew.frozen? ⟨b6, 0, none⟩ = false := f6
          have f7d : w8.drew.frozen? ⟨b7, 0, none⟩ = false := f7
          have f8d : w8.drew.frozen? ⟨b8, 0, none⟩ = false := f8
          obtain ⟨w9, hw9⟩ : ∃ w9, w9 = (((w8.setCell ⟨b6, 0, none⟩ (.pointer (some ⟨h, 0, none⟩))).setCell ⟨b7, 0, none⟩ (.slice ea el ecp)).setCell ⟨b8, 0, none⟩ (.int .i64 0)).drew := ⟨_, rfl⟩
          obtain ⟨k6, k7, k8, k9, k10⟩ := open_stores hw9 G6.out G7.out G8.out hne7 hne8 hne9
          have p1 := open_again G6.out
          have p2 := fun b => (open_again ((p1 b7).trans G7.out) b).trans (p1 b)
          have p3 := fun b => (open_again ((p2 b8).trans G8.out) b).trans (p2 b)
          have S1 : (w8.setCell ⟨b6, 0, none⟩ (.pointer (some ⟨h, 0, none⟩))).drew.cell? ⟨b6, 0, none⟩ = some (.pointer (some ⟨h, 0, none⟩)) ∧ (w8.setCell ⟨b6, 0, none⟩ (.pointer (some ⟨h, 0, none⟩))).drew.cell? ⟨b7, 0, none⟩ = some (.slice ea el ecp) ∧ (w8.setCell ⟨b6, 0, none⟩ (.pointer (some ⟨h, 0, none⟩))).drew.cell? ⟨b8, 0, none⟩ = some (.int .i64 0) :=
            ⟨(World.cell?_of_block (a := ⟨b6, 0, none⟩) (p1 b6)).trans c6, (World.cell?_of_block (a := ⟨b7, 0, none⟩) (p1 b7)).trans c7x, (World.cell?_of_block (a := ⟨b8, 0, none⟩) (p1 b8)).trans c8x⟩
          have S2 : ((w8.setCell ⟨b6, 0, none⟩ (.pointer (some ⟨h, 0, none⟩))).setCell ⟨b7, 0, none⟩ (.slice ea el ecp)).drew.cell? ⟨b6, 0, none⟩ = some (.pointer (some ⟨h, 0, none⟩)) ∧ ((w8.setCell ⟨b6, 0, none⟩ (.pointer (some ⟨h, 0, none⟩))).setCell ⟨b7, 0, none⟩ (.slice ea el ecp)).drew.cell? ⟨b7, 0, none⟩ = some (.slice ea el ecp) ∧ ((w8.setCell ⟨b6, 0, none⟩ (.pointer (some ⟨h, 0, none⟩))).setCell ⟨b7, 0, none⟩ (.slice ea el ecp)).drew.cell? ⟨b8, 0, none⟩ = some (.int .i64 0) :=
            ⟨(World.cell?_of_block (a := ⟨b6, 0, none⟩) (p2 b6)).trans c6, (World.cell?_of_block (a := ⟨b7, 0, none⟩) (p2 b7)).trans c7x, (World.cell?_of_block (a := ⟨b8, 0, none⟩) (p2 b8)).trans c8x⟩
          have S3 : (((w8.setCell ⟨b6, 0, none⟩ (.pointer (some ⟨h, 0, none⟩))).setCell ⟨b7, 0, none⟩ (.slice ea el ecp)).setCell ⟨b8, 0, none⟩ (.int .i64 0)).drew.cell? ⟨b6, 0, none⟩ = some (.pointer (some ⟨h, 0, none⟩)) ∧ (((w8.setCell ⟨b6, 0, none⟩ (.pointer (some ⟨h, 0, none⟩))).setCell ⟨b7, 0, none⟩ (.slice ea el ecp)).setCell ⟨b8, 0, none⟩ (.int .i64 0)).drew.cell? ⟨b7, 0, none⟩ = some (.slice ea el ecp) ∧ (((w8.setCell ⟨b6, 0, none⟩ (.pointer (some ⟨h, 0, none⟩))).setCell ⟨b7, 0, none⟩ (.slice ea el ecp)).setCell ⟨b8, 0, none⟩ (.int .i64 0)).drew.cell? ⟨b8, 0, none⟩ = some (.int .i64 0) :=
            ⟨(World.cell?_of_block (a := ⟨b6, 0, none⟩) (p3 b6)).trans c6, (World.cell?_of_block (a := ⟨b7, 0, none⟩) (p3 b7)).trans c7x, (World.cell?_of_block (a := ⟨b8, 0, none⟩) (p3 b8)).trans c8x⟩
          clear p1 p2 p3
          have HW9 := Lib.hid hw9
          have K9 := Lib.hid k9
          have K10 := Lib.hid k10
          clear hw9 k6 k7 k8 k9 k10
          --@b10
          go_region_held3 (fun w' => w'.cell? ⟨b6, 0, none⟩ = some (.pointer (some ⟨h, 0, none⟩)) ∧ w'.cell? ⟨b7, 0, none⟩ = some (.slice ea el ecp) ∧ w'.cell? ⟨b8, 0, none⟩ = some (.int .i64 0))
            (first | assumption | (refine ⟨?_, ?_, ?_⟩ <;> first | assumption | go_keep) | go_keep)
            (fail)
          rw [← HW9.out]
          have hD9 : w9.heap[Dm]? = some (.deferred (some [])) := (K9.out Dm).trans GD.out
          obtain ⟨w10, hw10⟩ : ∃ w10, w10 = w9.putObj Dm (.deferred none) := ⟨_, rfl⟩
          have k10 : ∀ b : Nat, b ≠ Dm → w10.heap[b]? = w8.heap[b]? := fun b hne => by rw [hw10, World.putObj_heap_other (fun e => hne (by first | exact e | exact e.symm))]; exact K9.out b
          have m6 : w10.cell? ⟨b6, 0, none⟩ = some (.pointer (some ⟨h, 0, none⟩)) := (World.cell?_of_block (a := ⟨b6, 0, none⟩) (k10 b6 (by omega))).trans c6
          have m7 : w10.cell? ⟨b7, 0, none⟩ = some (.slice ea el ecp) := (World.cell?_of_block (a := ⟨b7, 0, none⟩) (k10 b7 (by omega))).trans c7x
          have m8 : w10.cell? ⟨b8, 0, none⟩ = some (.int .i64 0) := (World.cell?_of_block (a := ⟨b8, 0, none⟩) (k10 b8 (by omega))).trans c8x
          have hgW := wl_grownPut w9 Dm
          have hCj : Chg j c7 c7 w8 w10 := by
            refine ⟨?_, ?_, ?_, ?_, fun b hb hne => k10 b (fun e => hne (by rw [e]; exact HDMJ.out)), fun _ _ => rfl⟩
            · rw [hw10]; exact hgW.os.trans K10.out.2.1
            · rw [hw10]; exact hgW.tape.trans K10.out.2.2.1
            · rw [hw10]; exact hgW.output.trans K10.out.2.2.2
            · rw [hw10, ← K10.out.1]; exact hgW.size
          have hCJ := HC8.out.trans hCj
          have hlog : LogIs j c7 w10 h g { LL with next := nx, synced := nx } (.slice (some ⟨sg, 0, none⟩) k cap) :=
            ⟨(k10 h (by omega)).trans HL8.out.row, own_keep HL8.out.seg (fun b hb => k10 b (by have h9 : sg = b := (by simpa [Value.ownBlock] using hb); omega)), HL8.out.colh, HL8.out.cols⟩
          have hsW4 := HB4.out.size
          have kk : ∀ b, W.heap.size ≤ b → b < Dm → b ≠ h → w10.heap[b]? = w4.heap[b]? := fun b h1 h2 h3 => (k10 b (by omega)).trans ((HG8.out b h3).trans (HK7.out b h1 (by omega)).1)
          have hs10 : w4.heap.size ≤ w10.heap.size := by have := hCJ.size; omega
          have hent : w10.ownsRow W.heap.size 62 2 (.slice ea el ecp) st.ents.length (enCells st.ents vs) := own_zero (own_keep HS4.out.ent (fun q hq => kk q (by have := HEVD.out q hq; omega) (HEVD.out q hq).2 (by have := HEVD.out q hq; omega))) _ (by omega)
          have hen : EnOk w10 none st.ents vs := HS4.out.e1.keep hs10 (fun v hv q hq => kk q (by have := HVSD.out v hv q hq; omega) (HVSD.out v hv q hq).2 (by have := HVSD.out v hv q hq; omega))
          have hCI : Chg i c c7 W w10 := by
            refine ⟨?_, ?_, ?_, by omega, fun b hb hne => ?_, fun b hb => ?_⟩
            · exact hCJ.os.trans (HC7.out.os.trans (HC6.out.os.trans HB4.out.os))
            · exact hCJ.tape.trans (HC7.out.tape.trans (HC6.out.tape.trans HB4.out.tape))
            · exact hCJ.output.trans (HC7.out.output.trans (HC6.out.output.trans HB4.out.output))
            · have e6 : cD b = c b := by rw [HC6.out.col b (by omega), pnt_old hb]
              rw [k10 b (by omega), HG8.out b (by omega), HC7.out.block b (by omega) (by rw [e6]; exact hne), HC6.out.block b (by omega) (by rw [pnt_old hb]; exact hne)]
              exact HB4.out.block b hb
            · rw [HC7.out.col b (by omega), HC6.out.col b (by omega), pnt_old hb]
          have HLOG := Lib.hid hlog
          have HCI := Lib.hid hCI
          have HENT := Lib.hid hent
          have HEN := Lib.hid hen
          have HDD7 := Lib.hid (HD7.out.chg hCJ (Ne.symm hij) hj0)
          have HW10 := Lib.hid hw10
          clear hlog hCI hCJ hCj hgW k10 hw10 S1 S2 S3 c6 c7x c8x f6 f7 f8 f6d f7d f8d kk hent hen
          --@b11
          go_wp2_with fail
          show LeavesInM Fence.wide 5 _ _ _ _ _ .returning w9
          refine leavesM_mark hD9 ?_
          rw [← HW10.out]
          refine leavesM_call (f := 50) (args := #[.pointer (some ⟨b8, 0, none⟩), .pointer (some ⟨b6, 0, none⟩), .pointer (some ⟨b7, 0, none⟩)]) rfl (by simp [go_sem]) ?_
          refine ⟨(wl_closure w10 b6 b7 b8 m8).1, fun cf cs hu hr => ?_⟩
          obtain ⟨e, u', w', fr, ⟨rfl, hv, rfl⟩, h1, h2⟩ := (wl_closure w10 b6 b7 b8 m8).2 cf cs hu hr
          refine ⟨e, _, _, fr, ⟨rfl, hv, ?_⟩, h1, h2⟩
          refine leavesM_end (open_results _ _ b6 b7 b8 _ _ _ rfl rfl rfl m6 m7 m8) ?_
          refine ⟨h, c7, .slice ea el ecp, vs, rfl, by rw [← HDN.out]; exact HDD7.out, ⟨.slice (some ⟨sg, 0, none⟩) k cap, ?_⟩, ?_, ?_, HCI.out⟩
          · rw [HOP.out]
            have := HLOG.out
            rw [HLL.out, HNX.out] at this
            exact this
          · rw [HOP.out]; exact HENT.out
          · rw [HOP.out]; exact HEN.out

end Go.Proofs.YtcbnbhlgikjbeaaGreatDoor
