/-
  wal.name, settle, last: the walk of a log's small functions.
  wal.settle, last: a segment is synced.
  wal.pack: the record of an entry.
  wal.last, First, Next, Synced: what a log says of itself.
  wal.validPrefix, giroref11.Valid: a prefix of a log.
  wal.First: the number of the oldest entry.
  The log's methods where nothing is done: a payload too long, a disk that is down.
  Entries of a log whose disk is down.
-/
import Derived.Test.YtcbnbhlgikjbeaaGreatDoorWlCrcs
import Derived.Test.YtcbnbhlgikjbeaaGreatDoorWlHeap
import Derived.Test.YtcbnbhlgikjbeaaGreatDoorShelf
import Derived.Laws.MakeOwn
import Derived.PlainAid

namespace Go.Proofs.YtcbnbhlgikjbeaaGreatDoor
open Go.RowKit

theorem ba_cat (p : ByteArray) (l : List UInt8) : p ++ ⟨l.toArray⟩ = ⟨(p.data.toList ++ l).toArray⟩ := by
  apply ByteArray.ext
  rw [ByteArray.data_append]
  simp
theorem repeat_zero : ∀ c : Nat, Lib.repeatL [48] c = List.replicate c 48
  | 0 => rfl
  | c + 1 => by rw [Lib.repeatL, repeat_zero c]; rfl

set_option maxRecDepth 100000 in
set_option maxHeartbeats 1000000 in
theorem wl_repeat8 (W : World) : Calls Tryz.prog 98 #[.string ⟨#[48]⟩, .int .i64 8] W fun e W' => e = .returned (.string ⟨(List.replicate 8 48).toArray⟩) ∧ Below W.heap.size W W' := by
  have nM := Tryz.bits_Mul 1 8 (by decide) (by decide)
  have nP := Tryz.strings_HasPrefix
  go_enter Tryz.func98, Tryz.ntmps98
  go_wp2_with (first | (go_at_call 123; refine (nM _).mono ?_; rintro e w1 ⟨rfl, rfl⟩) | (go_at_call 124; refine (nP _ _ _).mono ?_; rintro e w1 ⟨rfl, rfl⟩))
  go_ret
  exact ⟨rfl, Below.refl _ _⟩

set_option maxRecDepth 100000 in
set_option maxHeartbeats 1000000 in
theorem wl_repeat9 (W : World) : Calls Tryz.prog 98 #[.string ⟨#[48]⟩, .int .i64 9] W fun e W' => e = .returned (.string ⟨(List.replicate 9 48).toArray⟩) ∧ Below W.heap.size W W' := by
  have nM := Tryz.bits_Mul 1 9 (by decide) (by decide)
  have nP := Tryz.strings_HasPrefix
  go_enter Tryz.func98, Tryz.ntmps98
  go_wp2_with (first | (go_at_call 123; refine (nM _).mono ?_; rintro e w1 ⟨rfl, rfl⟩) | (go_at_call 124; refine (nP _ _ _).mono ?_; rintro e w1 ⟨rfl, rfl⟩))
  go_ret
  exact ⟨rfl, Below.refl _ _⟩

set_option maxRecDepth 100000 in
set_option maxHeartbeats 1000000 in
theorem wl_name (W : World) (p : ByteArray) (n : Nat) (hn : n < 100) (hp : p.size ≤ 1000) :
    Calls Tryz.prog 58 #[.string p, .int .i64 n] W fun e W' => e = .returned (.string ⟨(Wl.name p.data.toList n).toArray⟩) ∧ Below W.heap.size W W' := by
  have n1 := Tryz.strconv_Itoa_small n hn W
  obtain ⟨d, hd⟩ : ∃ d, d = Lib.decDigits n := ⟨_, rfl⟩
  have hnm : Wl.name p.data.toList n = p.data.toList ++ [45] ++ List.replicate (10 - d.length) 48 ++ d := by unfold Wl.name Wl.pad; rw [hd]; simp
  have hl : d.length = 1 ∨ d.length = 2 := by
    rw [hd]
    by_cases h : n < 10
    · rw [Lib.decDigits_one h]; exact .inl rfl
    · rw [Lib.decDigits_two h hn]; exact .inr rfl
  rw [hnm]
  rw [← hd] at n1
  have HN := Lib.hid hnm
  clear hnm hd
  go_enter Tryz.func58, Tryz.ntmps58
  go_wp2_with fail
  refine n1.mono ?_
  rintro e w1 ⟨rfl, rfl⟩
  clear n1
  rcases hl with hl | hl
  · have n2 := wl_repeat9 w1
    have hl2 : (d.length : Int) = 1 := by omega
    go_wp2_with fail
    refine n2.mono ?_
    rintro e w2 ⟨rfl, b2⟩
    clear n2
    go_wp2_with fail
    go_ret
    refine ⟨congrArg (fun s => Ending.returned (.string s)) ?_, b2⟩
    show p ++ ⟨[45].toArray⟩ ++ ⟨(List.replicate 9 48).toArray⟩ ++ ⟨d.toArray⟩ = _
    rw [ba_cat, ba_cat, ba_cat, hl]
  · have n2 := wl_repeat8 w1
    have hl2 : (d.length : Int) = 2 := by omega
    go_wp2_with fail
    refine n2.mono ?_
    rintro e w2 ⟨rfl, b2⟩
    clear n2
    go_wp2_with fail
    go_ret
    refine ⟨congrArg (fun s => Ending.returned (.string s)) ?_, b2⟩
    show p ++ ⟨[45].toArray⟩ ++ ⟨(List.replicate 8 48).toArray⟩ ++ ⟨d.toArray⟩ = _
    rw [ba_cat, ba_cat, ba_cat, hl]

end Go.Proofs.YtcbnbhlgikjbeaaGreatDoor

namespace Go.Proofs.YtcbnbhlgikjbeaaGreatDoor
open Go.RowKit

theorem row_cells6 {w : World} {g : Nat} {x0 x1 x2 x3 x4 x5 : Value} {t : TypeId} (h : w.heap[g]? = some (.cells #[x0, x1, x2, x3, x4, x5] t (0, 0))) :
    w.cell? ⟨g, 0, none⟩ = some x0 ∧ w.cell? ⟨g, 1, none⟩ = some x1 ∧ w.cell? ⟨g, 2, none⟩ = some x2 ∧ w.cell? ⟨g, 3, none⟩ = some x3 ∧ w.cell? ⟨g, 4, none⟩ = some x4 ∧ w.cell? ⟨g, 5, none⟩ = some x5 := by
  refine ⟨?_, ?_, ?_, ?_, ?_, ?_⟩ <;> rw [cell_of_row _ _ _ _ _ _ h] <;> rfl

theorem wl_S_step {W4 w w3 : World} {h b : Nat} {x0 x1 y0 : Value} (H : Below W4.heap.size W4 w ∧ w.cell? ⟨h, 0, none⟩ = some x0 ∧ w.cell? ⟨h, 1, none⟩ = some x1 ∧ w.cell? ⟨b, 0, none⟩ = some y0) (hb : Below w.heap.size w w3) :
    Below W4.heap.size W4 w3 ∧ w3.cell? ⟨h, 0, none⟩ = some x0 ∧ w3.cell? ⟨h, 1, none⟩ = some x1 ∧ w3.cell? ⟨b, 0, none⟩ = some y0 := by
  obtain ⟨h1, a0, a1, b0⟩ := H
  exact ⟨h1.trans (hb.mono h1.size), (hb.cell (World.block_lt_of_cell? w _ a0)).trans a0, (hb.cell (World.block_lt_of_cell? w _ a1)).trans a1, (hb.cell (World.block_lt_of_cell? w _ b0)).trans b0⟩

set_option maxRecDepth 100000 in
set_option maxHeartbeats 1000000 in
theorem wl_settle {i j : Nat} {c : Nat → Nat} {W : World} {h g : Nat} {D : Dk.D} {L : Wl.L} (hd : DiskAt i c W g D) (hl : LogAt j c W h g L) (hij : i ≠ j) (s : Nat × Nat) (hs : s.1 < 100) (hp : L.pre.length ≤ 1000) (hbud : D.bud ≤ 9223372036854775807) :
    Calls Tryz.prog 57 #[.pointer (some ⟨h, 0, none⟩), .agg #[.int .i64 s.1, .int .i64 s.2]] W (DkPost i c W g (Wl.settle D L.pre s.1)) := by
  obtain ⟨sv, hlog⟩ := hl
  obtain ⟨x0, x1, x2, x3, x4, x5⟩ := row_cells6 hlog.row
  have HL := Lib.hid hlog
  have HD := Lib.hid hd
  have hhl := (Array.getElem?_eq_some_iff.1 hlog.row).1
  obtain ⟨W1, hW1⟩ : ∃ W1, W1 = W.alloc (.cells #[.int .i64 s.1, .int .i64 s.2] 101) := ⟨_, rfl⟩
  have hb1 : Below W.heap.size W W1 := by rw [hW1]; exact (Below.refl _ _).alloc (Nat.le_refl _) _
  have hrow : W1.heap[W.heap.size]? = some (.cells #[.int .i64 s.1, .int .i64 s.2] 101 (0, 0)) := by rw [hW1]; exact heap_alloc_new W _
  have hC1 : Chg i c (pnt c W.heap.size 0) W W1 := by rw [hW1]; exact Chg.alloc _ 0
  have y0 : W1.cell? ⟨W.heap.size, 0, none⟩ = some (.int .i64 s.1) := by rw [cell_of_row _ _ _ _ _ _ hrow]; rfl
  have HW1 := Lib.hid hW1
  have HB1 := Lib.hid hb1
  have HC1 := Lib.hid hC1
  have hNM : Hid (∀ o, Below W1.heap.size W1 o → Calls Tryz.prog 58 #[.string ⟨L.pre.toArray⟩, .int .i64 s.1] o fun e W' => e = .returned (.string ⟨(Wl.name L.pre s.1).toArray⟩) ∧ Below o.heap.size o W') :=
    Lib.hid (fun o _ => wl_name o ⟨L.pre.toArray⟩ s.1 hs (by show L.pre.toArray.size ≤ 1000; simpa using hp))
  have xx0 : W1.cell? ⟨h, 0, none⟩ = some (.pointer (some ⟨g, 0, none⟩)) := (hb1.cell (p := ⟨h, 0, none⟩) hhl).trans x0
  have xx1 : W1.cell? ⟨h, 1, none⟩ = some (.string ⟨L.pre.toArray⟩) := (hb1.cell (p := ⟨h, 1, none⟩) hhl).trans x1
  clear hlog hd hW1 hb1 hC1 hrow x0 x1 x2 x3 x4 x5
  go_enter Tryz.func57, Tryz.ntmps57
  go_wp2_with fail
  rw [← HW1.out]
  have hB0 : Below W1.heap.size W1 W1 := Below.refl _ _
  go_region_held3 (fun w' => Below W1.heap.size W1 w' ∧ w'.cell? ⟨h, 0, none⟩ = some (.pointer (some ⟨g, 0, none⟩)) ∧ w'.cell? ⟨h, 1, none⟩ = some (.string ⟨L.pre.toArray⟩) ∧ w'.cell? ⟨W.heap.size, 0, none⟩ = some (.int .i64 s.1))
    (first | assumption | exact Below.drew (by assumption) | (refine ⟨?_, ?_, ?_, ?_⟩ <;> first | assumption | exact Below.drew (by assumption) | go_keep) | go_keep)
    (first
      | (go_at_call 58; refine (hNM.out _ (by apply And.left; assumption)).mono ?_; rintro e w2 ⟨rfl, hb2⟩; have hS2 := wl_S_step (by assumption) hb2))
  obtain ⟨hB2, z0, z1, _⟩ := hS2
  have hC2 : ∀ m, Chg m c (pnt c W.heap.size 0) W w2 := fun m => by
    have h1 : Chg m c (pnt c W.heap.size 0) W W1 := by rw [HW1.out]; exact Chg.alloc _ 0
    exact h1.trans (Chg.of_below' hB2 (fun _ _ => rfl))
  have hi0 : i ≠ 0 := by obtain ⟨_, _, hh⟩ := HD.out; exact hh.ne
  have d2 := HD.out.chg (hC2 (i + 1)) (by omega) (by omega)
  have hnl : (Wl.name L.pre s.1).length ≤ 2000 := by
    have := Wl.name_length (p := L.pre) (n := s.1) (by omega)
    omega
  obtain ⟨nm, hnm⟩ : ∃ nm, nm = Wl.name L.pre s.1 := ⟨_, rfl⟩
  have hns : (⟨nm.toArray⟩ : ByteArray).size ≤ 9223372036854775807 := by show nm.toArray.size ≤ _; rw [hnm]; simp; omega
  have n2 := dk_Pending d2 ⟨nm.toArray⟩ hns
  have n3 := dk_Sync d2 ⟨nm.toArray⟩ hns hbud
  have hset : Wl.settle D L.pre s.1 = if D.pending nm = 0 then (D, 0) else D.sync nm := by rw [hnm]; rfl
  rw [← hnm]
  have hpe : (⟨nm.toArray⟩ : ByteArray).data.toList = nm := rfl
  rw [hpe] at n2 n3
  have HC2 := Lib.hid hC2
  have HD2 := Lib.hid d2
  clear hnm hpe hnl hB2 hC2 d2 hNM HB1 HC1 hb2 hB0 xx0 xx1 y0 HW1
  obtain ⟨pe, hpe⟩ : ∃ pe, pe = D.pending nm := ⟨_, rfl⟩
  rw [← hpe] at n2 hset
  clear hpe
  by_cases hp0 : pe = 0
  · subst hp0
    rw [if_pos rfl] at hset
    have HSET := Lib.hid hset
    clear hset
    go_wp2_with fail
    refine n2.mono ?_
    rintro e w' ⟨rfl, rfl⟩
    go_wp2_with fail
    go_ret
    refine ⟨_, ?_, ?_, HC2.out i⟩ <;> rw [HSET.out]
    · rfl
    · exact HD2.out
  · rw [if_neg hp0] at hset
    have HSET := Lib.hid hset
    clear hset
    have hp1 : ¬ ((pe : Int) = 0) := by omega
    go_wp2_with fail
    refine n2.mono ?_
    rintro e w' ⟨rfl, rfl⟩
    go_wp2_with fail
    refine n3.mono ?_
    rintro e w' ⟨c', rfl, d3, h3⟩
    go_wp2_with fail
    go_ret
    refine ⟨_, ?_, ?_, (HC2.out i).trans h3⟩ <;> rw [HSET.out]
    · rfl
    · exact d3

end Go.Proofs.YtcbnbhlgikjbeaaGreatDoor

namespace Go.Proofs.YtcbnbhlgikjbeaaGreatDoor
open Go.RowKit

theorem be8_take_step (seq k : Nat) (hk : k < 8) : (Wl.be8 seq).take (k + 1) = (Wl.be8 seq).take k ++ [(Wl.be8 seq)[k]'(by rw [Wl.be8_length]; exact hk)] := List.take_succ_eq_append_getElem _
theorem take_set_snoc {cur : Array Value} {k : Nat} {v : Value} {xs : List Value} (h : cur.toList.take k = xs) (hk : k < cur.size) : (cur.setIfInBounds k v).toList.take (k + 1) = xs ++ [v] := by
  have hl : k < cur.toList.length := by simpa using hk
  rw [Array.toList_setIfInBounds, List.take_succ_eq_append_getElem (by rw [List.length_set]; exact hl), List.getElem_set_self, List.take_set_of_le (Nat.le_refl _), h]
theorem owns_mono {W : World} {B B' : Nat} {t : TypeId} {sz : Nat} {v : Value} {n : Nat} {xs : List Value} (h : W.ownsRow B t sz v n xs) (hB : B' ≤ B) : W.ownsRow B' t sz v n xs := by
  obtain ⟨h1, h2 | ⟨g, cap, cur, hv, hb, r⟩⟩ := h
  · exact ⟨h1, .inl h2⟩
  · exact ⟨h1, .inr ⟨g, cap, cur, hv, Nat.le_trans hB hb, r⟩⟩

set_option maxRecDepth 100000 in
set_option maxHeartbeats 1000000 in
theorem wl_pack (W : World) (seq : Nat) (hs : seq < 9223372036854775808) (bv : Value) (b : Wl.Bs) (hb : RdB W W.heap.size bv b) (hl : b.length ≤ 1000000) :
    Calls Tryz.prog 61 #[.int .i64 seq, bv] W fun e W' => ∃ v, e = .returned (.tuple #[v, .int .i64 0]) ∧ W'.ownsRow W.heap.size 5 1 v (Wl.pack seq b).length (dkCells (Wl.pack seq b)) ∧ Below W.heap.size W W' := by
  obtain ⟨i0, hi, hz0, hz1, hz2⟩ := info_parts dk_infoByte
  obtain ⟨a, cap, rfl⟩ := hb.form
  have HB := Lib.hid hb
  have hmk := run_makeSlice (P := Tryz.prog) (w := W) 38 5 i0 (.int .u8 0) Tryz.underlying38 hi hz0 .i64 .i64 8 (8 + b.length) (by decide) (by omega) (by rw [hz1]; omega) (by rw [hz2]; omega) (by omega)
  rw [hz1] at hmk
  clear hb
  go_enter Tryz.func61, Tryz.ntmps61
  go_wp2_with fail
  have hm0 : (madeCells #[Value.int .u8 0] (8 + b.length)).size = 8 + b.length := by simp [madeCells]
  clear hmk
  go_loopw [12] (fun iv wr => ∃ (k : Nat) (cur : Array Value), iv = .int .i64 k ∧ k ≤ 8 ∧ cur.size = 8 + b.length ∧ Hid (cur.toList.take k = dkCells ((Wl.be8 seq).take k)) ∧ wr = W.alloc (.cells cur 5)) (fun iv _ => 8 - (RowKit.intOf iv).toNat)
  case atStart => exact ⟨0, _, rfl, by decide, hm0, Lib.hid rfl, rfl⟩
  case round =>
    obtain ⟨k, cur, rfl, hk, hcs, HT, rfl⟩ := hrel
    by_cases hlt : k < 8
    · obtain ⟨x, hx⟩ : ∃ x, cur[k]? = some x := ⟨_, Array.getElem?_eq_getElem (by omega)⟩
      have hc : (W.alloc (.cells cur 5)).cell? ⟨W.heap.size, k, none⟩ = some x := by rw [cell_of_row _ _ _ _ _ _ (heap_alloc_new W _), hx]
      have hf : (W.alloc (.cells cur 5)).frozen? ⟨W.heap.size, k, none⟩ = false := dk_frozen _ _ _ _ _ (heap_alloc_new W _)
      have h64 : (seq : Int) % 18446744073709551616 = seq := by omega
      have HN : Hid (∀ v, v = Value.int .u8 (((Wl.be8 seq)[k]'(by rw [Wl.be8_length]; exact hlt)).toNat : Int) → (cur.setIfInBounds k v).toList.take (k + 1) = dkCells ((Wl.be8 seq).take (k + 1))) := Lib.hid (fun v hv => by
        rw [take_set_snoc HT.out (by omega), be8_take_step seq k hlt, dkCells_append, hv]; rfl)
      have hkk : k = 0 ∨ k = 1 ∨ k = 2 ∨ k = 3 ∨ k = 4 ∨ k = 5 ∨ k = 6 ∨ k = 7 := by omega
      clear hx
      rcases hkk with rfl | rfl | rfl | rfl | rfl | rfl | rfl | rfl
      all_goals
        go_wp2_with fail
        refine ⟨⟨_, _, by go_num, by decide, ?_, Lib.hid (HN.out _ ?_), rfl⟩, by simp [RowKit.intOf]⟩
      all_goals first
        | (rw [Array.size_setIfInBounds]; exact hcs)
        | (simp only [Wl.be8, List.getElem_cons_zero, List.getElem_cons_succ, UInt8.toNat_ofNat']; first | done | (congr 1; omega) | rfl)
    · obtain rfl : k = 8 := by omega
      have hown : (W.alloc (.cells cur 5)).ownsRow W.heap.size 5 1 (.slice (some ⟨W.heap.size, 0, none⟩) 8 (8 + b.length)) (Wl.be8 seq).length (dkCells (Wl.be8 seq)) :=
        ⟨by simp [dkCells_length], .inr ⟨W.heap.size, 8 + b.length, cur, rfl, Nat.le_refl _, heap_alloc_new W _, Nat.le_add_right _ _, by unfold maxLen; omega, by omega, HT.out⟩⟩
      have hBA : Below W.heap.size W (W.alloc (.cells cur 5)) := (Below.refl _ _).alloc (Nat.le_refl _) _
      obtain ⟨v5, w5, r5, o5, g5⟩ := bytes_append hown ((HB.out.below hBA).mono hBA.size) (by rw [Wl.be8_length]; omega) hBA.size 38
      have hB5 := hBA.grown g5 hBA.size (fun k hk => (hown.lt k hk).1)
      have n6 := rec_Encode w5 v5 (Wl.be8 seq ++ b) (RdB.of_own o5) (by rw [List.length_append, Wl.be8_length]; omega)
      have R5 := Lib.hid r5
      clear hown hBA r5 o5 g5 HT hcs
      go_wp2_with (at_builtin; refine Lib.wpList_append_run _ rfl _ _ _ _ rfl _ _ rfl rfl _ _ R5.out ?_)
      refine n6.mono ?_
      rintro e w6 ⟨v6, rfl, o6, b6⟩
      have hB6 := hB5.trans (b6.mono hB5.size)
      have O6 := Lib.hid (owns_mono o6 hB5.size)
      clear n6 o6 b6 R5
      go_wp2_with fail
      go_ret2
      exact ⟨_, rfl, O6.out, hB6⟩

end Go.Proofs.YtcbnbhlgikjbeaaGreatDoor

namespace Go.Proofs.YtcbnbhlgikjbeaaGreatDoor
open Go.RowKit

/-- the row of segments of a log that has one -/
theorem LogIs.form {j : Nat} {c : Nat → Nat} {W : World} {h g : Nat} {L : Wl.L} {sv : Value} (H : LogIs j c W h g L sv) (hne : L.segs ≠ []) :
    ∃ sg cap cur, sv = .slice (some ⟨sg, 0, none⟩) L.segs.length cap ∧ W.heap[sg]? = some (.cells cur 101 (0, 0)) ∧ L.segs.length ≤ cap ∧ cap ≤ maxLen ∧ cur.size = cap * 2 ∧ cur.toList.take (L.segs.length * 2) = segCells L.segs := by
  rcases H.seg.2 with ⟨_, h0⟩ | ⟨sg, cap, cur, hv, _, hh, hn, hcap, hcur, htake⟩
  · exact absurd (List.eq_nil_of_length_eq_zero h0) hne
  · exact ⟨sg, cap, cur, hv, hh, hn, hcap, hcur, htake⟩

set_option maxRecDepth 100000 in
set_option maxHeartbeats 1000000 in
theorem wl_last {j : Nat} {c : Nat → Nat} {W : World} {h g sg cap : Nat} {L : Wl.L} (hl : LogIs j c W h g L (.slice (some ⟨sg, 0, none⟩) L.segs.length cap)) (hne : 0 < L.segs.length) (hmax : L.segs.length ≤ 1000000) :
    Calls Tryz.prog 60 #[.pointer (some ⟨h, 0, none⟩)] W fun e W' => e = .returned (.pointer (some ⟨sg, (L.segs.length - 1) * 2, none⟩)) ∧ Below W.heap.size W W' := by
  obtain ⟨x0, x1, x2, x3, x4, x5⟩ := row_cells6 hl.row
  obtain ⟨m, hm⟩ : ∃ m, m = L.segs.length := ⟨_, rfl⟩
  obtain ⟨k, hk⟩ : ∃ k, m = k + 1 := ⟨m - 1, by omega⟩
  rw [← hm] at x3 ⊢ hmax
  have hmk : m - 1 = k := by omega
  rw [hmk]
  have hw1 : IntKind.i64.wrap ((m : Int) - 1) = (k : Int) := by rw [hk]; simp [IntKind.wrap, IntKind.bits, IntKind.signed]; omega
  have hw2 : wrap64 ((m : Int) - 1) = (k : Int) := by unfold wrap64; omega
  have hw3 : (0 : Int) ≤ (k : Int) := by omega
  have hw4 : (k : Int) < (m : Int) := by omega
  have hw5 : k < m := by omega
  have hB0 : Below W.heap.size W W := Below.refl _ _
  clear hl x0 x1 x2 x4 x5 hne hm hmk hk
  go_enter Tryz.func60, Tryz.ntmps60
  go_wp2_with fail
  go_region_held3 (fun w' => Below W.heap.size W w' ∧ w'.cell? ⟨h, 3, none⟩ = some (.slice (some ⟨sg, 0, none⟩) m cap))
    (first | assumption | exact Below.drew (by assumption) | (refine ⟨?_, ?_⟩ <;> first | assumption | exact Below.drew (by assumption) | go_keep) | go_keep)
    (fail)
  go_wp2_with fail
  go_ret
  exact ⟨rfl, Below.drew (Below.refl _ _)⟩

set_option maxHeartbeats 1000000 in
theorem wl_Next {j : Nat} {c : Nat → Nat} {W : World} {h g : Nat} {L : Wl.L} (hl : LogAt j c W h g L) :
    Calls Tryz.prog 22 #[.pointer (some ⟨h, 0, none⟩)] W fun e W' => e = .returned (.int .i64 L.next) ∧ W = W' := by
  obtain ⟨sv, hl⟩ := hl
  obtain ⟨x0, x1, x2, x3, x4, x5⟩ := row_cells6 hl.row
  clear hl x0 x1 x2 x3 x5
  go_enter Tryz.func22, Tryz.ntmps22
  go_wp2_with fail
  go_ret
  exact ⟨rfl, rfl⟩
set_option maxHeartbeats 1000000 in
theorem wl_Synced {j : Nat} {c : Nat → Nat} {W : World} {h g : Nat} {L : Wl.L} (hl : LogAt j c W h g L) :
    Calls Tryz.prog 23 #[.pointer (some ⟨h, 0, none⟩)] W fun e W' => e = .returned (.int .i64 L.synced) ∧ W = W' := by
  obtain ⟨sv, hl⟩ := hl
  obtain ⟨x0, x1, x2, x3, x4, x5⟩ := row_cells6 hl.row
  clear hl x0 x1 x2 x3 x4
  go_enter Tryz.func23, Tryz.ntmps23
  go_wp2_with fail
  go_ret
  exact ⟨rfl, rfl⟩
/-- the methods of a nil log that only read -/
theorem wl_nil_Next (W : World) : Calls Tryz.prog 22 #[.pointer none] W fun e W' => e = .returned (.int .i64 0) ∧ W = W' := by
  go_enter Tryz.func22, Tryz.ntmps22
  go_wp2_with fail
  go_ret
  exact ⟨rfl, rfl⟩
theorem wl_nil_Synced (W : World) : Calls Tryz.prog 23 #[.pointer none] W fun e W' => e = .returned (.int .i64 0) ∧ W = W' := by
  go_enter Tryz.func23, Tryz.ntmps23
  go_wp2_with fail
  go_ret
  exact ⟨rfl, rfl⟩
theorem wl_nil_First (W : World) : Calls Tryz.prog 21 #[.pointer none] W fun e W' => e = .returned (.int .i64 0) ∧ W = W' := by
  go_enter Tryz.func21, Tryz.ntmps21
  go_wp2_with fail
  go_ret
  exact ⟨rfl, rfl⟩
theorem wl_nil_Sync (W : World) : Calls Tryz.prog 28 #[.pointer none] W fun e W' => e = .returned (.int .i64 1) ∧ W = W' := by
  go_enter Tryz.func28, Tryz.ntmps28
  go_wp2_with fail
  go_ret
  exact ⟨rfl, rfl⟩
theorem wl_nil_Truncate (W : World) (n : Int) : Calls Tryz.prog 20 #[.pointer none, .int .i64 n] W fun e W' => e = .returned (.int .i64 1) ∧ W = W' := by
  go_enter Tryz.func20, Tryz.ntmps20
  go_wp2_with fail
  go_ret
  exact ⟨rfl, rfl⟩
set_option maxRecDepth 100000 in
theorem wl_nil_Append (W : World) (bv : Value) : Calls Tryz.prog 19 #[.pointer none, bv] W fun e W' => e = .returned (.tuple #[.int .i64 0, .int .i64 1]) ∧ W = W' := by
  go_enter Tryz.func19, Tryz.ntmps19
  go_wp2_with fail
  go_ret2
  exact ⟨rfl, rfl⟩
set_option maxRecDepth 100000 in
theorem wl_nil_Entries (W : World) (n : Int) : Calls Tryz.prog 27 #[.pointer none, .int .i64 n] W fun e W' => e = .returned (.tuple #[.slice none 0 0, .int .i64 1]) ∧ W = W' := by
  go_enter Tryz.func27, Tryz.ntmps27
  go_wp2_with fail
  go_ret2
  exact ⟨rfl, rfl⟩
theorem wl_nil_Segments (W : World) : Calls Tryz.prog 29 #[.pointer none] W fun e W' => e = .returned (.slice none 0 0) ∧ W = W' := by
  go_enter Tryz.func29, Tryz.ntmps29
  go_wp2_with fail
  go_ret
  exact ⟨rfl, rfl⟩

end Go.Proofs.YtcbnbhlgikjbeaaGreatDoor

namespace Go.Proofs.YtcbnbhlgikjbeaaGreatDoor
open Go.RowKit

theorem okP_bt (s : ByteArray) (i : Nat) (h : i < s.size) : Wl.okP s[i] = decide ((97 ≤ PlainAid.bt s i ∧ PlainAid.bt s i ≤ 122) ∨ (48 ≤ PlainAid.bt s i ∧ PlainAid.bt s i ≤ 57)) := by
  have hb := PlainAid.get_bt s i h
  rw [← hb]
  unfold Wl.okP
  rw [Bool.eq_iff_iff]
  simp only [Bool.or_eq_true, decide_eq_true_eq]
  omega

set_option maxRecDepth 100000 in
set_option maxHeartbeats 2000000 in
theorem wl_validPrefix (s : ByteArray) (W : World) (hs : s.size ≤ 9223372036854775807) : Calls Tryz.prog 48 #[.string s] W fun e W' => e = .returned (.bool (Wl.validP s.data.toList)) ∧ W = W' := by
  have hsz : s.data.toList.length = s.size := by rw [Array.length_toList]; rfl
  have HV : Hid (Wl.validP s.data.toList = (s.data.toList.all Wl.okP && decide (1 ≤ s.size) && decide (s.size ≤ 16))) := Lib.hid (by unfold Wl.validP; rw [hsz])
  have hb := PlainAid.get_bt s
  have HL := Lib.hid hsz
  clear hsz
  go_enter Tryz.func48, Tryz.ntmps48
  go_wp2_with fail
  go_loopw [6] (fun iv wr => ∃ i : Nat, iv = .int .i64 i ∧ i ≤ s.size ∧ Hid ((s.data.toList.take i).all Wl.okP = true) ∧ wr = W) (fun iv _ => s.size - (RowKit.intOf iv).toNat)
  case atStart => exact ⟨0, rfl, Nat.zero_le _, Lib.hid rfl, rfl⟩
  case round =>
    obtain ⟨i, rfl, hi, HA, rfl⟩ := hrel
    by_cases hlt : i < s.size
    · have b0 := PlainAid.bt_nonneg s i
      have b1 := PlainAid.bt_le s i
      have hg : s.data.toList[i]? = some s[i] := by
        rw [List.getElem?_eq_getElem (by rw [HL.out]; exact hlt)]
        rfl
      have HK := Lib.hid (okP_bt s i hlt)
      have HN : Hid (Wl.okP s[i] = true → (s.data.toList.take (i + 1)).all Wl.okP = true) := by
        show _ → _
        intro h
        rw [List.take_add_one, hg, List.all_append, HA.out]
        simpa using h
      have HF : Hid (Wl.okP s[i] = false → Wl.validP s.data.toList = false) := by
        show _ → _
        intro h
        have : s.data.toList.all Wl.okP = false := by
          rw [List.all_eq_false]
          exact ⟨s[i], List.mem_of_getElem? hg, by simpa using h⟩
        rw [HV.out, this, Bool.false_and, Bool.false_and]
      clear hg
      go_wp2_with fail
      all_goals first
        | (go_ret; rw [HF.out (by rw [HK.out]; exact decide_eq_false (by omega))]; exact ⟨rfl, rfl⟩)
        | (refine ⟨⟨i + 1, by go_num, by omega, Lib.hid (HN.out (by rw [HK.out]; exact decide_eq_true (by omega))), trivial⟩, by simp [RowKit.intOf]; omega⟩)
        | (exfalso; omega)
    · obtain rfl : i = s.size := by omega
      have hall : s.data.toList.all Wl.okP = true := by
        have := HA.out
        rwa [List.take_of_length_le (by rw [HL.out]; exact Nat.le_refl _)] at this
      have HR : Hid (Wl.validP s.data.toList = (decide (1 ≤ s.size) && decide (s.size ≤ 16))) := Lib.hid (by rw [HV.out, hall, Bool.true_and])
      clear hall HA
      by_cases h1 : 1 ≤ s.size
      all_goals by_cases h2 : s.size ≤ 16
      all_goals
        go_wp2_with fail
      all_goals
        go_ret
        rw [HR.out]
        refine ⟨congrArg (fun b => Ending.returned (.bool b)) ?_, rfl⟩
        first | (simp [h1, h2]; done) | (simp [h1, h2]; omega)

end Go.Proofs.YtcbnbhlgikjbeaaGreatDoor

namespace Go.Proofs.YtcbnbhlgikjbeaaGreatDoor
open Go.RowKit

set_option maxRecDepth 100000 in
set_option maxHeartbeats 1000000 in
theorem wl_First {j : Nat} {c : Nat → Nat} {W : World} {h g : Nat} {L : Wl.L} (hl : LogAt j c W h g L) (s : Nat × Nat) (r : List (Nat × Nat)) (hs : L.segs = s :: r) (hmax : L.segs.length ≤ 1000000) :
    Calls Tryz.prog 21 #[.pointer (some ⟨h, 0, none⟩)] W fun e W' => e = .returned (.int .i64 s.1) ∧ Below W.heap.size W W' := by
  obtain ⟨sv, hl⟩ := hl
  obtain ⟨sg, cap, cur, rfl, hrow, hn, hcap, hcur, htake⟩ := hl.form (by rw [hs]; simp)
  obtain ⟨x0, x1, x2, x3, x4, x5⟩ := row_cells6 hl.row
  have y0 : W.cell? ⟨sg, 0, none⟩ = some (.int .i64 s.1) := by
    rw [cell_of_row _ _ _ _ _ _ hrow]
    have h0 : (cur.toList.take (L.segs.length * 2))[0]? = some (.int .i64 s.1) := by rw [htake, hs]; rfl
    rw [List.getElem?_take_of_lt (by rw [hs]; simp)] at h0
    simpa using h0
  obtain ⟨m, hm⟩ : ∃ m, m = L.segs.length := ⟨_, rfl⟩
  have hm0 : (0 : Int) < (m : Int) := by rw [hm, hs]; simp
  have hm1 : 0 < m := by omega
  rw [← hm] at x3 hmax
  have hB0 : Below W.heap.size W W := Below.refl _ _
  clear hl x0 x1 x2 x4 x5 hrow hn hcap hcur htake hs hm
  go_enter Tryz.func21, Tryz.ntmps21
  go_wp2_with fail
  go_ret
  exact ⟨rfl, hB0⟩

end Go.Proofs.YtcbnbhlgikjbeaaGreatDoor

namespace Go.Proofs.YtcbnbhlgikjbeaaGreatDoor
open Go.RowKit

set_option maxRecDepth 100000 in
set_option maxHeartbeats 1000000 in
theorem wl_Append_long (W : World) (h : Nat) (a : Option Addr) (n cap : Nat) (hn : 65536 < n) :
    Calls Tryz.prog 19 #[.pointer (some ⟨h, 0, none⟩), .slice a n cap] W fun e W' => e = .returned (.tuple #[.int .i64 0, .int .i64 5]) ∧ W = W' := by
  have h1 : (65536 : Int) < (n : Int) := by omega
  go_enter Tryz.func19, Tryz.ntmps19
  go_wp2_with fail
  go_ret2
  exact ⟨rfl, rfl⟩

set_option maxRecDepth 100000 in
set_option maxHeartbeats 1000000 in
theorem wl_Append_down {i j : Nat} {c : Nat → Nat} {W : World} {h g : Nat} {D : Dk.D} {L : Wl.L} (hd : DiskAt i c W g D) (hl : LogAt j c W h g L) (hdn : D.down = true) (a : Option Addr) (n cap : Nat) (hn : n ≤ 65536) :
    Calls Tryz.prog 19 #[.pointer (some ⟨h, 0, none⟩), .slice a n cap] W fun e W' => e = .returned (.tuple #[.int .i64 0, .int .i64 32]) ∧ W = W' := by
  have h1 : ¬ (65536 : Int) < (n : Int) := by omega
  obtain ⟨sv, hl⟩ := hl
  obtain ⟨x0, x1, x2, x3, x4, x5⟩ := row_cells6 hl.row
  have n1 := dk_Down hd
  rw [hdn] at n1
  clear hl hd x1 x2 x3 x4 x5
  go_enter Tryz.func19, Tryz.ntmps19
  go_wp2_with fail
  refine n1.mono ?_
  rintro e w' ⟨rfl, rfl⟩
  go_wp2_with fail
  go_ret2
  exact ⟨rfl, rfl⟩

set_option maxRecDepth 100000 in
set_option maxHeartbeats 1000000 in
theorem wl_Sync_down {i j : Nat} {c : Nat → Nat} {W : World} {h g : Nat} {D : Dk.D} {L : Wl.L} (hd : DiskAt i c W g D) (hl : LogAt j c W h g L) (hdn : D.down = true) :
    Calls Tryz.prog 28 #[.pointer (some ⟨h, 0, none⟩)] W fun e W' => e = .returned (.int .i64 32) ∧ W = W' := by
  obtain ⟨sv, hl⟩ := hl
  obtain ⟨x0, x1, x2, x3, x4, x5⟩ := row_cells6 hl.row
  have n1 := dk_Down hd
  rw [hdn] at n1
  clear hl hd x1 x2 x3 x4 x5
  go_enter Tryz.func28, Tryz.ntmps28
  go_wp2_with fail
  refine n1.mono ?_
  rintro e w' ⟨rfl, rfl⟩
  go_wp2_with fail
  go_ret
  exact ⟨rfl, rfl⟩

set_option maxRecDepth 100000 in
set_option maxHeartbeats 1000000 in
theorem wl_Truncate_range {j : Nat} {c : Nat → Nat} {W : World} {h g : Nat} {L : Wl.L} (hl : LogAt j c W h g L) (n : Int) (hn : n < 0 ∨ (L.next : Int) < n) :
    Calls Tryz.prog 20 #[.pointer (some ⟨h, 0, none⟩), .int .i64 n] W fun e W' => e = .returned (.int .i64 2) ∧ W = W' := by
  obtain ⟨sv, hl⟩ := hl
  obtain ⟨x0, x1, x2, x3, x4, x5⟩ := row_cells6 hl.row
  clear hl x0 x1 x2 x3 x5
  generalize L.next = m at *
  by_cases h0 : n < 0
  · clear hn
    go_enter Tryz.func20, Tryz.ntmps20
    go_wp2_with fail
    go_ret
    exact ⟨rfl, rfl⟩
  · have h1 : (m : Int) < n := by omega
    clear hn
    go_enter Tryz.func20, Tryz.ntmps20
    go_wp2_with fail
    go_ret
    exact ⟨rfl, rfl⟩

set_option maxRecDepth 100000 in
set_option maxHeartbeats 1000000 in
theorem wl_Truncate_down {i j : Nat} {c : Nat → Nat} {W : World} {h g : Nat} {D : Dk.D} {L : Wl.L} (hd : DiskAt i c W g D) (hl : LogAt j c W h g L) (hdn : D.down = true) (n : Int) (h0 : ¬ n < 0) (h1 : ¬ (L.next : Int) < n) :
    Calls Tryz.prog 20 #[.pointer (some ⟨h, 0, none⟩), .int .i64 n] W fun e W' => e = .returned (.int .i64 32) ∧ W = W' := by
  obtain ⟨sv, hl⟩ := hl
  obtain ⟨x0, x1, x2, x3, x4, x5⟩ := row_cells6 hl.row
  have n1 := dk_Down hd
  rw [hdn] at n1
  clear hl hd x1 x2 x3 x5
  generalize L.next = m at *
  go_enter Tryz.func20, Tryz.ntmps20
  go_wp2_with fail
  refine n1.mono ?_
  rintro e w' ⟨rfl, rfl⟩
  go_wp2_with fail
  go_ret
  exact ⟨rfl, rfl⟩

end Go.Proofs.YtcbnbhlgikjbeaaGreatDoor

namespace Go.Proofs.YtcbnbhlgikjbeaaGreatDoor
open Go.RowKit

set_option maxRecDepth 100000 in
set_option maxHeartbeats 1000000 in
theorem wl_Entries_down {i j : Nat} {c : Nat → Nat} {W : World} {h g : Nat} {D : Dk.D} {L : Wl.L} (hd : DiskAt i c W g D) (hl : LogAt j c W h g L) (hdn : D.down = true) (s : Nat × Nat) (r : List (Nat × Nat)) (hs : L.segs = s :: r) (hmax : L.segs.length ≤ 1000000)
    (n : Int) (h0 : ¬ n < (s.1 : Int)) (h1 : ¬ (L.next : Int) < n) :
    Calls Tryz.prog 27 #[.pointer (some ⟨h, 0, none⟩), .int .i64 n] W fun e W' => e = .returned (.tuple #[.slice none 0 0, .int .i64 32]) ∧ Below W.heap.size W W' := by
  have nF : Hid (∀ o, Below W.heap.size W o → Calls Tryz.prog 21 #[.pointer (some ⟨h, 0, none⟩)] o fun e W' => e = .returned (.int .i64 s.1) ∧ Below o.heap.size o W') := Lib.hid (fun o ho => wl_First (hl.below ho) s r hs hmax)
  have nD : Hid (∀ o, Below W.heap.size W o → Calls Tryz.prog 49 #[.pointer (some ⟨g, 0, none⟩)] o fun e W' => e = .returned (.bool true) ∧ o = W') := Lib.hid (fun o ho => by have := dk_Down (hd.below ho 0); rw [hdn] at this; exact this)
  obtain ⟨sv, hl⟩ := hl
  obtain ⟨x0, x1, x2, x3, x4, x5⟩ := row_cells6 hl.row
  have hhl := (Array.getElem?_eq_some_iff.1 hl.row).1
  clear hl hd x1 x2 x3 x5 hs hmax
  generalize L.next = m at *
  go_enter Tryz.func27, Tryz.ntmps27
  go_wp2_with fail
  refine (nF.out _ (Below.refl _ _)).mono ?_
  rintro e w1 ⟨rfl, b1⟩
  have y0 := (b1.cell (p := ⟨h, 0, none⟩) hhl).trans x0
  have y4 := (b1.cell (p := ⟨h, 4, none⟩) hhl).trans x4
  go_wp2_with fail
  refine (nD.out _ b1).mono ?_
  rintro e w2 ⟨rfl, rfl⟩
  go_wp2_with fail
  go_ret2
  exact ⟨rfl, b1⟩

end Go.Proofs.YtcbnbhlgikjbeaaGreatDoor
