/-
  Checkpoints: the names of stores and files, discard, Open.
  checkpoint.Open.
-/
import Derived.Test.YtamencnachmhoaaGreatDoorCkMem
import Derived.Test.YtamencnachmhoaaGreatDoorCkLaws
import Derived.Test.YtamencnachmhoaaGreatDoorDkName
import Derived.Test.YtamencnachmhoaaGreatDoorDkRename
import Derived.Lib.Repeat

namespace Go.Proofs.YtamencnachmhoaaGreatDoor
open Go.RowKit

theorem ck_trim (s : ByteArray) (W : World) (hs : s.size ≤ 9223372036854775807) :
    Calls Tryz.prog 85 #[.string s, .string ⟨#[97, 98, 99, 100, 101, 102, 103, 104, 105, 106, 107, 108, 109, 110, 111, 112, 113, 114, 115, 116, 117, 118, 119, 120, 121, 122, 48, 49, 50, 51, 52, 53, 54, 55, 56, 57]⟩] W fun e w' => e = .returned (.string ⟨(Lib.trimS s.data.toList Wl.prefixBytes).toArray⟩) ∧ Below W.heap.size W w' :=
  Any.strings_Trim_laid Tryz.lays160 (by kernel_rfl) s ⟨#[97, 98, 99, 100, 101, 102, 103, 104, 105, 106, 107, 108, 109, 110, 111, 112, 113, 114, 115, 116, 117, 118, 119, 120, 121, 122, 48, 49, 50, 51, 52, 53, 54, 55, 56, 57]⟩ W hs (by decide) (ascii_of_all (by decide))

set_option maxRecDepth 10000 in
theorem okP_prefix (c : UInt8) : Wl.prefixBytes.contains c = Wl.okP c := Ck.u8_all (P := fun c => Wl.prefixBytes.contains c = Wl.okP c) (by decide) c
theorem validP_trim (l : List UInt8) : Wl.validP l = ((Lib.trimS l Wl.prefixBytes).isEmpty && decide (1 ≤ l.length) && decide (l.length ≤ 16)) := by
  unfold Wl.validP
  rw [Ck.trim_empty]
  congr 2
  exact congrArg (fun p => l.all p) (funext fun c => (okP_prefix c).symm)

set_option maxHeartbeats 1000000 in
theorem ck_named (s : ByteArray) (W : World) (hs : s.size ≤ 9223372036854775807) :
    Calls Tryz.prog 33 #[.string s] W fun e w' => e = .returned (.bool (Wl.validP s.data.toList)) ∧ Below W.heap.size W w' := by
  have hvp := validP_trim s.data.toList
  have hsz : s.data.toList.length = s.size := by rw [Array.length_toList]; rfl
  rw [hsz] at hvp
  by_cases he : s.toList = []
  · have hemp : s.toList.isEmpty = true := by simp [he]
    have hs0 : s.size = 0 := by rw [← hsz, ← Lib.toList_data, he]; rfl
    have HV : Hid (Wl.validP s.data.toList = false) := by show _ = _; rw [hvp, hs0]; simp
    clear he hvp
    go_enter Tryz.func33, Tryz.ntmps33
    go_wp2_with fail
    go_ret
    rw [HV.out]
    exact ⟨rfl, Below.refl _ _⟩
  · have hemp : s.toList.isEmpty = false := by simpa using he
    have hs1 : 1 ≤ s.size := by
      rcases Nat.eq_zero_or_pos s.size with h | h
      · exfalso
        apply he
        rw [Lib.toList_data]
        exact List.eq_nil_of_length_eq_zero (by rw [hsz]; exact h)
      · exact h
    by_cases h16 : s.size ≤ 16
    · have hb16 : decide ((s.size : Int) ≤ 16) = true := by simp; omega
      have ht := ck_trim s W hs
      have HV : Hid (Wl.validP s.data.toList = (Lib.trimS s.data.toList Wl.prefixBytes).isEmpty) := by
        show _ = _
        rw [hvp]
        simp [h16, hs1]
      generalize Lib.trimS s.data.toList Wl.prefixBytes = t at *
      clear he hvp
      go_enter Tryz.func33, Tryz.ntmps33
      go_wp2_with (go_at_call 85; refine ht.mono ?_; rintro e w' ⟨rfl, hb⟩)
      go_ret
      rw [HV.out]
      exact ⟨rfl, hb⟩
    · have hb16 : decide ((s.size : Int) ≤ 16) = false := by simp; omega
      have HV : Hid (Wl.validP s.data.toList = false) := by
        show _ = _
        rw [hvp]
        simp [h16]
      clear he hvp
      go_enter Tryz.func33, Tryz.ntmps33
      go_wp2_with fail
      go_ret
      rw [HV.out]
      exact ⟨rfl, Below.refl _ _⟩

/-- a store -/
structure StIs (c : Nat → Nat) (W : World) (s g : Nat) (nm : Ck.Bs) : Prop where
  row : W.heap[s]? = some (.cells #[.pointer (some ⟨g, 0, none⟩), .string ⟨nm.toArray⟩] 102 (0, 0))
  col : c s = 0
theorem StIs.chg {i s g : Nat} {c c' : Nat → Nat} {W W' : World} {nm : Ck.Bs} (h : StIs c W s g nm) (hc : Chg i c c' W W') (hi : i ≠ 0) : StIs c' W' s g nm := by
  have hl := (Array.getElem?_eq_some_iff.1 h.row).1
  exact ⟨(hc.block s hl (by rw [h.col]; exact Ne.symm hi)).trans h.row, (hc.col s hl).trans h.col⟩
theorem StIs.below {s g : Nat} {c : Nat → Nat} {W W' : World} {nm : Ck.Bs} (h : StIs c W s g nm) (hb : Below W.heap.size W W') : StIs c W' s g nm :=
  ⟨(hb.block s (Array.getElem?_eq_some_iff.1 h.row).1).trans h.row, h.col⟩
theorem StIs.cells {s g : Nat} {c : Nat → Nat} {W : World} {nm : Ck.Bs} (h : StIs c W s g nm) : W.cell? ⟨s, 0, none⟩ = some (.pointer (some ⟨g, 0, none⟩)) ∧ W.cell? ⟨s, 1, none⟩ = some (.string ⟨nm.toArray⟩) := by
  refine ⟨?_, ?_⟩ <;> rw [cell_of_row _ _ _ _ _ _ h.row] <;> rfl

theorem ba_cat (p : ByteArray) (l : List UInt8) : p ++ ⟨l.toArray⟩ = ⟨(p.data.toList ++ l).toArray⟩ := by
  apply ByteArray.ext
  rw [ByteArray.data_append]
  simp
theorem ck_temporary {s g : Nat} {c : Nat → Nat} {W : World} {nm : Ck.Bs} (h : StIs c W s g nm) (hnm : nm.length ≤ 1000) :
    Calls Tryz.prog 55 #[.pointer (some ⟨s, 0, none⟩)] W fun e W' => e = .returned (.string ⟨(Ck.tmpName nm).toArray⟩) ∧ W = W' := by
  obtain ⟨x0, x1⟩ := h.cells
  obtain ⟨p, hp⟩ : ∃ p : ByteArray, p = ⟨nm.toArray⟩ := ⟨_, rfl⟩
  have hps : p.size ≤ 1000 := by rw [hp]; show nm.toArray.size ≤ 1000; simpa using hnm
  rw [← hp] at x1
  have HP := Lib.hid hp
  clear h hp
  go_enter Tryz.func55, Tryz.ntmps55
  go_wp2_with fail
  go_ret
  refine ⟨congrArg (fun s => Ending.returned (.string s)) ?_, rfl⟩
  show p ++ ⟨[46, 116, 109, 112].toArray⟩ = _
  rw [ba_cat, HP.out]
  rfl

set_option maxHeartbeats 1000000 in
theorem ck_index (W : World) (v : Value) (l : List Ck.Bs) (B : Nat) (hown : W.ownsRow B 9 1 v l.length (dkNames l)) (x : Ck.Bs) (hl : l.length ≤ 1000000000) :
    Calls Tryz.prog 109 #[v, .string ⟨x.toArray⟩] W fun e W' => e = .returned (.bool (l.contains x)) ∧ W = W' := by
  have n1 : Calls Tryz.prog 161 #[v, .string ⟨x.toArray⟩] W fun e W' => ∃ r : Int, e = .returned (.int .i64 r) ∧ (x ∈ l ↔ 0 ≤ r) ∧ W = W' := by
    have hcell : 0 < l.length → ∃ sb cap, v = .slice (some ⟨sb, 0, none⟩) l.length cap ∧ sb < W.heap.size ∧ ∀ (k : Nat) (y : Value), (dkNames l)[k]? = some y → W.cell? ⟨sb, k, none⟩ = some y := fun h => own_formT hown h
    obtain ⟨va, vc, rfl⟩ := own_slice hown
    have HC := Lib.hid hcell
    clear hown hcell
    go_enter Tryz.func161, Tryz.ntmps161
    go_wp2_with fail
    go_loopw [8] (fun iv wr => ∃ i : Nat, i ≤ l.length ∧ iv = .int .i64 i ∧ Hid (∀ y ∈ l.take i, y ≠ x) ∧ wr = W) (fun iv _ => l.length - (RowKit.intOf iv).toNat)
    case atStart => exact ⟨0, Nat.zero_le _, rfl, Lib.hid (by simp), rfl⟩
    case round =>
      obtain ⟨i, hi, rfl, HN, rfl⟩ := hrel
      by_cases hlt : i < l.length
      · obtain ⟨y, hy⟩ : ∃ y, l[i]? = some y := ⟨_, List.getElem?_eq_getElem hlt⟩
        obtain ⟨sb, cap, e8, -, hcl⟩ := HC.out (by omega)
        injection e8 with e81 _ e83
        subst e81 e83
        have y0 := hcl i (.string ⟨y.toArray⟩) (by unfold dkNames; rw [List.getElem?_map, hy]; rfl)
        by_cases hq : x = y
        · subst hq
          have HQ : Hid (x ∈ l) := Lib.hid (List.mem_of_getElem? hy)
          clear hcl hy
          go_wp2_with fail
          go_ret
          exact ⟨_, rfl, ⟨fun _ => by omega, fun _ => HQ.out⟩, rfl⟩
        · have hqb : (x == y) = false := by simpa using hq
          have HN2 : Hid (∀ z ∈ l.take (i + 1), z ≠ x) := Lib.hid (fun z hz => by
            rw [List.take_add_one, hy] at hz
            rcases List.mem_append.1 hz with hz | hz
            · exact HN.out z hz
            · obtain rfl : z = y := by simpa using hz
              exact fun e => hq e.symm)
          clear hcl hy hq
          go_wp2_with fail
          refine ⟨⟨i + 1, by omega, by go_num, HN2, by first | rfl | trivial⟩, by simp [RowKit.intOf] <;> omega⟩
      · have hie : i = l.length := by omega
        have hltI : ¬ (i : Int) < (l.length : Int) := by omega
        have HQ : Hid (¬ x ∈ l) := Lib.hid (by
          intro hm
          rw [← List.take_length (l := l), ← hie] at hm
          exact HN.out x hm rfl)
        go_wp2_with fail
        go_ret
        exact ⟨_, rfl, ⟨fun h => absurd h HQ.out, fun h => by omega⟩, rfl⟩
  obtain ⟨va, vc, rfl⟩ := own_slice hown
  clear hown
  go_enter Tryz.func109, Tryz.ntmps109
  go_wp2_with fail
  refine n1.mono ?_
  rintro e W1 ⟨r, rfl, hr, rfl⟩
  have HR : Hid (l.contains x = decide (0 ≤ r)) := Lib.hid (by
    by_cases h : x ∈ l
    · rw [decide_eq_true (hr.1 h)]; exact List.elem_iff.2 h
    · rw [decide_eq_false (fun h2 => h (hr.2 h2)), Bool.eq_false_iff]
      exact fun h2 => h (List.elem_iff.1 h2))
  clear n1 hr
  go_wp2_with fail
  go_ret
  rw [HR.out]
  exact ⟨rfl, rfl⟩

set_option maxRecDepth 100000 in
set_option maxHeartbeats 1000000 in
theorem wl_repeat8 (W : World) : Calls Tryz.prog 35 #[.string ⟨#[48]⟩, .int .i64 8] W fun e W' => e = .returned (.string ⟨(List.replicate 8 48).toArray⟩) ∧ Below W.heap.size W W' := by
  have nM := Tryz.bits_Mul 1 8 (by decide) (by decide)
  have nP := Tryz.strings_HasPrefix
  go_enter Tryz.func35, Tryz.ntmps35
  go_wp2_with (first | (go_at_call 87; refine (nM _).mono ?_; rintro e w1 ⟨rfl, rfl⟩) | (go_at_call 88; refine (nP _ _ _).mono ?_; rintro e w1 ⟨rfl, rfl⟩))
  go_ret
  exact ⟨rfl, Below.refl _ _⟩

set_option maxRecDepth 100000 in
set_option maxHeartbeats 1000000 in
theorem wl_repeat9 (W : World) : Calls Tryz.prog 35 #[.string ⟨#[48]⟩, .int .i64 9] W fun e W' => e = .returned (.string ⟨(List.replicate 9 48).toArray⟩) ∧ Below W.heap.size W W' := by
  have nM := Tryz.bits_Mul 1 9 (by decide) (by decide)
  have nP := Tryz.strings_HasPrefix
  go_enter Tryz.func35, Tryz.ntmps35
  go_wp2_with (first | (go_at_call 87; refine (nM _).mono ?_; rintro e w1 ⟨rfl, rfl⟩) | (go_at_call 88; refine (nP _ _ _).mono ?_; rintro e w1 ⟨rfl, rfl⟩))
  go_ret
  exact ⟨rfl, Below.refl _ _⟩

set_option maxRecDepth 100000 in
set_option maxHeartbeats 1000000 in
/-- FileName, for numbers below 100 -/
theorem ck_FileName (W : World) (p : ByteArray) (n : Nat) (hn : n < 100) (hp : p.size ≤ 1000) (hv : Wl.validP p.data.toList = true) :
    Calls Tryz.prog 11 #[.string p, .int .i64 n] W fun e W' => e = .returned (.tuple #[.string ⟨(Ck.fileName p.data.toList n).toArray⟩, .int .i64 0]) ∧ Below W.heap.size W W' := by
  have n0 := ck_named p W (by omega)
  rw [hv] at n0
  have n1 := fun o => Tryz.strconv_Itoa_small n hn o
  obtain ⟨d, hd⟩ : ∃ d, d = Lib.decDigits n := ⟨_, rfl⟩
  have hnm : Ck.fileName p.data.toList n = p.data.toList ++ [45] ++ List.replicate (10 - d.length) 48 ++ d ++ [46, 99, 107, 112, 116] := by unfold Ck.fileName Wl.name Wl.pad Ck.ckpt; rw [hd]; simp
  have hl : d.length = 1 ∨ d.length = 2 := by
    rw [hd]
    by_cases h : n < 10
    · rw [Lib.decDigits_one h]; exact .inl rfl
    · rw [Lib.decDigits_two h hn]; exact .inr rfl
  rw [hnm]
  simp only [← hd] at n1
  have HN := Lib.hid n1
  have i1 : ¬ (n : Int) < 0 := by omega
  have i2 : ¬ (1000000000 : Int) < (n : Int) := by omega
  clear hnm hd n1 hv
  go_enter Tryz.func11, Tryz.ntmps11
  go_wp2_with fail
  refine n0.mono ?_
  rintro e w0 ⟨rfl, b0⟩
  have HB0 := Lib.hid b0
  clear n0 b0
  go_wp2_with fail
  refine (HN.out w0).mono ?_
  rintro e w1 ⟨rfl, rfl⟩
  rcases hl with hl | hl
  · have n2 := wl_repeat9 w1
    have hl2 : (d.length : Int) = 1 := by omega
    go_wp2_with fail
    refine n2.mono ?_
    rintro e w2 ⟨rfl, b2⟩
    have HB2 := Lib.hid (HB0.out.trans (b2.mono HB0.out.size))
    clear n2 b2
    go_wp2_with fail
    go_ret2
    refine ⟨congrArg (fun s => Ending.returned (.tuple #[.string s, .int .i64 0])) ?_, HB2.out⟩
    show p ++ ⟨[45].toArray⟩ ++ ⟨(List.replicate 9 48).toArray⟩ ++ ⟨d.toArray⟩ ++ ⟨[46, 99, 107, 112, 116].toArray⟩ = _
    rw [ba_cat, ba_cat, ba_cat, ba_cat, hl]
  · have n2 := wl_repeat8 w1
    have hl2 : (d.length : Int) = 2 := by omega
    go_wp2_with fail
    refine n2.mono ?_
    rintro e w2 ⟨rfl, b2⟩
    have HB2 := Lib.hid (HB0.out.trans (b2.mono HB0.out.size))
    clear n2 b2
    go_wp2_with fail
    go_ret2
    refine ⟨congrArg (fun s => Ending.returned (.tuple #[.string s, .int .i64 0])) ?_, HB2.out⟩
    show p ++ ⟨[45].toArray⟩ ++ ⟨(List.replicate 8 48).toArray⟩ ++ ⟨d.toArray⟩ ++ ⟨[46, 99, 107, 112, 116].toArray⟩ = _
    rw [ba_cat, ba_cat, ba_cat, ba_cat, hl]

theorem Chg.of_belowSame {i : Nat} {c : Nat → Nat} {W W' : World} (hb : Below W.heap.size W W') : Chg i c c W W' := ⟨hb.os, hb.tape, hb.output, hb.size, fun b h _ => hb.block b h, fun _ _ => rfl⟩

set_option maxRecDepth 100000 in
set_option maxHeartbeats 1000000 in
theorem ck_discard {i : Nat} {c : Nat → Nat} {W : World} {s g : Nat} {D : Dk.D} {nm x : Ck.Bs} (hd : DiskAt i c W g D) (hs : StIs c W s g nm) (hi : i ≠ 0) (hmany : D.fs.length ≤ 1000000) (hbud : D.bud ≤ 9223372036854775807) (hx : x.length ≤ 1000) :
    Calls Tryz.prog 54 #[.pointer (some ⟨s, 0, none⟩), .string ⟨x.toArray⟩] W (DkPost i c W g (Ck.discard D x)) := by
  obtain ⟨x0, x1⟩ := hs.cells
  have n1 := dk_List hd (by omega)
  have hnl : D.names.length ≤ 1000000 := by
    unfold Dk.D.names
    split
    · simp
    · simpa using hmany
  have HD := Lib.hid hd
  have HS := Lib.hid hs
  have HQ : Hid (Ck.discard D x = if D.names.contains x then D.remove x else (D, 0)) := Lib.hid rfl
  clear hd hs x1
  go_enter Tryz.func54, Tryz.ntmps54
  go_wp2_with fail
  refine n1.mono ?_
  rintro e W1 ⟨v1, rfl, o1, b1⟩
  have n2 := ck_index W1 v1 D.names _ o1 x (by omega)
  obtain ⟨a1, c1, rfl⟩ := own_slice o1
  have HB1 := Lib.hid b1
  clear n1 o1 b1
  go_wp2_with fail
  refine n2.mono ?_
  rintro e W2 ⟨rfl, rfl⟩
  clear n2 x0
  have hC : Chg (i + 1) c c W W1 := Chg.of_belowSame HB1.out
  have HD1 : Hid (DiskAt i c W1 g D) := Lib.hid (HD.out.chg hC (by omega) (by omega))
  have HS1 := Lib.hid (HS.out.below HB1.out)
  clear hC
  obtain ⟨x0, x1⟩ := HS1.out.cells
  cases hcn : D.names.contains x with
  | false =>
    rw [hcn] at HQ
    go_wp2_with fail
    go_ret
    rw [HQ.out]
    exact ⟨c, rfl, HD1.out, Chg.of_belowSame HB1.out⟩
  | true =>
    rw [hcn] at HQ
    have n3 := dk_Remove HD1.out ⟨x.toArray⟩ (by show x.toArray.size ≤ _; simp; omega) hbud
    clear x1
    go_wp2_with fail
    refine n3.mono ?_
    rintro e W3 ⟨c3, rfl, d3, h3⟩
    have HD3 := Lib.hid d3
    have HC3 := Lib.hid ((Chg.of_belowSame (i := i) (c := c) HB1.out).trans h3)
    clear n3 d3 h3
    go_wp2_with fail
    go_ret
    rw [HQ.out]
    exact ⟨c3, rfl, HD3.out, HC3.out⟩

end Go.Proofs.YtamencnachmhoaaGreatDoor

namespace Go.Proofs.YtamencnachmhoaaGreatDoor
open Go.RowKit

theorem ck_Open_nil (W : World) (p : ByteArray) : Calls Tryz.prog 18 #[.pointer none, .string p] W fun e W' => e = .returned (.tuple #[.pointer none, .int .i64 1]) ∧ W = W' := by
  go_enter Tryz.func18, Tryz.ntmps18
  go_wp2_with fail
  go_ret2
  exact ⟨rfl, rfl⟩

set_option maxRecDepth 100000 in
set_option maxHeartbeats 1000000 in
theorem ck_Open {i : Nat} {c : Nat → Nat} {W : World} {g : Nat} {D : Dk.D} (hd : DiskAt i c W g D) (hi : i ≠ 0) (p : ByteArray) (hps : p.size ≤ 1000) (hmany : D.fs.length ≤ 1000000) (hbud : D.bud ≤ 9223372036854775807) :
    Calls Tryz.prog 18 #[.pointer (some ⟨g, 0, none⟩), .string p] W fun e W' => ∃ c', DiskAt i c' W' g (Ck.openC D p.data.toList).1 ∧ Chg i c c' W W' ∧
      ((Ck.openC D p.data.toList).2 = 0 ∧ (∃ s, e = .returned (.tuple #[.pointer (some ⟨s, 0, none⟩), .int .i64 0]) ∧ StIs c' W' s g p.data.toList) ∨
       (Ck.openC D p.data.toList).2 ≠ 0 ∧ e = .returned (.tuple #[.pointer none, .int .i64 (Ck.openC D p.data.toList).2])) := by
  have n1 := ck_named p W (by omega)
  obtain ⟨nm, hnm⟩ : ∃ nm, nm = p.data.toList := ⟨_, rfl⟩
  have hpe : p = ⟨nm.toArray⟩ := by rw [hnm]
  have hnl : nm.length ≤ 1000 := by rw [hnm, Array.length_toList]; exact hps
  rw [← hnm] at n1 ⊢
  have HPE := Lib.hid hpe
  have HQ : Hid (Ck.openC D nm = if Wl.validP nm = false then (D, 6) else if D.down then (D, 32) else Ck.discard D (Ck.tmpName nm)) := Lib.hid rfl
  have HD := Lib.hid hd
  have hsame : ∀ {W' : World}, Below W.heap.size W W' → DiskAt i c W' g D := fun hb => HD.out.chg (Chg.of_belowSame (i := i + 1) hb) (by omega) (by omega)
  have HSM : Hid (∀ W', Below W.heap.size W W' → DiskAt i c W' g D) := Lib.hid (fun W' hb => hsame hb)
  clear hd hnm hpe hsame
  cases hv : Wl.validP nm with
  | false =>
    rw [hv] at n1
    have HR : Hid (Ck.openC D nm = (D, 6)) := Lib.hid (by rw [HQ.out, if_pos hv])
    go_enter Tryz.func18, Tryz.ntmps18
    go_wp2_with fail
    refine n1.mono ?_
    rintro e W1 ⟨rfl, b1⟩
    have HB1 := Lib.hid b1
    clear n1 b1
    go_wp2_with fail
    go_ret2
    rw [HR.out]
    exact ⟨c, HSM.out _ HB1.out, Chg.of_belowSame HB1.out, .inr ⟨by simp, rfl⟩⟩
  | true =>
    rw [hv] at n1
    cases hdn : D.down with
    | true =>
      have HR : Hid (Ck.openC D nm = (D, 32)) := Lib.hid (by rw [HQ.out, if_neg (by rw [hv]; simp), if_pos hdn])
      go_enter Tryz.func18, Tryz.ntmps18
      go_wp2_with fail
      refine n1.mono ?_
      rintro e W1 ⟨rfl, b1⟩
      have HB1 := Lib.hid b1
      have n2 := dk_Down (HSM.out _ b1)
      rw [hdn] at n2
      clear n1 b1
      go_wp2_with fail
      refine n2.mono ?_
      rintro e W2 ⟨rfl, rfl⟩
      clear n2
      go_wp2_with fail
      go_ret2
      rw [HR.out]
      exact ⟨c, HSM.out _ HB1.out, Chg.of_belowSame HB1.out, .inr ⟨by simp, rfl⟩⟩
    | false =>
      have HR : Hid (Ck.openC D nm = Ck.discard D (Ck.tmpName nm)) := Lib.hid (by rw [HQ.out, if_neg (by rw [hv]; simp), if_neg (by rw [hdn]; simp)])
      go_enter Tryz.func18, Tryz.ntmps18
      go_wp2_with fail
      refine n1.mono ?_
      rintro e W1 ⟨rfl, b1⟩
      have HB1 := Lib.hid b1
      have n2 := dk_Down (HSM.out _ b1)
      rw [hdn] at n2
      clear n1 b1
      go_wp2_with fail
      refine n2.mono ?_
      rintro e W2 ⟨rfl, rfl⟩
      clear n2
      obtain ⟨W3, hW3⟩ : ∃ W3, W3 = W1.alloc (.cells #[.pointer (some ⟨g, 0, none⟩), .string p] 102) := ⟨_, rfl⟩
      have b3 : Below W1.heap.size W1 W3 := by rw [hW3]; exact (Below.refl _ _).alloc (Nat.le_refl _) _
      have hrow : W3.heap[W1.heap.size]? = some (.cells #[.pointer (some ⟨g, 0, none⟩), .string ⟨nm.toArray⟩] 102 (0, 0)) := by rw [← HPE.out, hW3]; exact heap_alloc_new _ _
      have hst : StIs (pnt c W1.heap.size 0) W3 W1.heap.size g nm := ⟨hrow, pnt_new (Nat.le_refl _)⟩
      have HC3 : Hid (Chg i c (pnt c W1.heap.size 0) W W3) := Lib.hid ((Chg.of_belowSame (c := c) HB1.out).trans (Chg.of_below' b3 (fun k hk => pnt_old hk)))
      have HD3 : Hid (DiskAt i (pnt c W1.heap.size 0) W3 g D) := Lib.hid ((HSM.out _ HB1.out).chg (Chg.of_below' (i := i + 1) b3 (fun k hk => pnt_old hk)) (by omega) (by omega))
      generalize pnt c W1.heap.size 0 = c3 at *
      have hs3 : W1.heap.size < W3.heap.size := (Array.getElem?_eq_some_iff.1 hrow).1
      have n3 := ck_temporary hst hnl
      have n4 := ck_discard HD3.out hst hi hmany hbud (x := Ck.tmpName nm) (by unfold Ck.tmpName; rw [List.length_append]; show nm.length + 4 ≤ 1000; have := (Ck.vp_parts hv).2.2; omega)
      have HST := Lib.hid hst
      have HW3 := Lib.hid hW3
      clear b3 hrow hst hW3 hs3
      go_wp2_with fail
      rw [← HW3.out]
      refine n3.mono ?_
      rintro e W4 ⟨rfl, rfl⟩
      clear n3
      go_wp2_with fail
      refine n4.mono ?_
      rintro e W5 ⟨c5, rfl, d5, h5⟩
      have HD5 := Lib.hid d5
      have HC5 := Lib.hid (HC3.out.trans h5)
      have HS5 := Lib.hid (HST.out.chg h5 hi)
      clear n4 d5 h5
      obtain ⟨r, hr⟩ : ∃ r, r = Ck.discard D (Ck.tmpName nm) := ⟨_, rfl⟩
      rw [← hr] at HR HD5 ⊢
      clear hr
      by_cases h0 : r.2 = 0
      · rw [h0]
        go_wp2_with fail
        go_ret2
        rw [HR.out]
        exact ⟨c5, HD5.out, HC5.out, .inl ⟨h0, _, rfl, HS5.out⟩⟩
      · go_wp2_with fail
        go_ret2
        rw [HR.out]
        exact ⟨c5, HD5.out, HC5.out, .inr ⟨h0, rfl⟩⟩

end Go.Proofs.YtamencnachmhoaaGreatDoor
