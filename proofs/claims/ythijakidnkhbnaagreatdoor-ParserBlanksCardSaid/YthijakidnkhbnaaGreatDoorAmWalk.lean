/-
  AMOUNTS (layer 1): digits, Valid, bounded, ParseInt at whatever text.
  AMOUNTS: which texts Parse rejects as malformed.
  AMOUNTS: Parse rejects exactly what is no decimal; which kinds identifiers have.
  The parser: kindOf, ParseQuantity, ParseAmount (given amount.Parse).
-/
import Derived.Test.YthijakidnkhbnaaGreatDoorLexWalk
import Derived.Lib.AtoiErrMem
import Derived.Shelf.Strings.SlTrimAscii
import Derived.Lib.SlTrimSet
import Derived.Deep.RegionHeld3
import Derived.Deep.QuietTactic
import Derived.BigQuiet
import Derived.PlainAid
import Derived.Test.YthijakidnkhbnaaGreatDoorIdWalk
import Derived.Test.YthijakidnkhbnaaGreatDoorPsReq

namespace Go.Proofs.YthijakidnkhbnaaGreatDoor
open Go.RowKit Go.Lib

def am09 : List UInt8 := [48, 49, 50, 51, 52, 53, 54, 55, 56, 57]
theorem am_contains (c : UInt8) : am09.contains c = Lx.digit (c.toNat : Int) := by
  have key : ∀ n : Fin 256, am09.contains (UInt8.ofNat n.val) = Lx.digit ((UInt8.ofNat n.val).toNat : Int) := by decide +kernel
  have := key ⟨c.toNat, UInt8.toNat_lt c⟩
  simpa using this
theorem am_dropWhile_nil (p : UInt8 → Bool) : ∀ l : List UInt8, l.dropWhile p = [] ↔ ∀ x ∈ l, p x = true
  | [] => by simp
  | a :: l => by
    rw [List.dropWhile_cons]
    cases h : p a with
    | true => simp [h, am_dropWhile_nil p l]
    | false => simp [h]
theorem am_takeWhile_all (p : UInt8 → Bool) : ∀ (l : List UInt8), ∀ x ∈ l.takeWhile p, p x = true
  | [] => by simp
  | a :: l => by
    rw [List.takeWhile_cons]
    cases h : p a with
    | true =>
      intro x hx
      rcases List.mem_cons.1 hx with rfl | hx
      · exact h
      · exact am_takeWhile_all p l x hx
    | false => simp
theorem am_trim_nil (l : List UInt8) : (Lib.trimS l am09 = []) ↔ (l.all fun c => Lx.digit (c.toNat : Int)) = true := by
  unfold Lib.trimS Lib.trimLeftS
  rw [am_dropWhile_nil]
  constructor
  · intro h
    rw [List.all_eq_true]
    intro x hx
    have hr : ∀ x ∈ Lib.trimRightS l am09, Lx.digit (x.toNat : Int) = true := fun x hx => by rw [← am_contains]; exact h x hx
    rw [Lib.trimRightS] at hr
    rcases List.mem_append.1 (by rw [List.takeWhile_append_dropWhile]; exact List.mem_reverse.2 hx : x ∈ l.reverse.takeWhile (am09.contains ·) ++ l.reverse.dropWhile (am09.contains ·)) with h1 | h1
    · rw [← am_contains]
      exact am_takeWhile_all _ _ x h1
    · exact hr x (List.mem_reverse.2 h1)
  · intro h x hx
    rw [List.all_eq_true] at h
    rw [am_contains]
    apply h
    rw [Lib.trimRightS] at hx
    have := List.mem_reverse.1 hx
    exact List.mem_reverse.1 ((List.dropWhile_suffix _).sublist.subset this)

theorem am_trim (s : ByteArray) (W : World) (hs : s.size ≤ 9223372036854775807) :
    Calls Tryz.prog 86 #[.string s, .string ⟨#[48, 49, 50, 51, 52, 53, 54, 55, 56, 57]⟩] W fun e w' => e = .returned (.string ⟨(Lib.trimS s.data.toList am09).toArray⟩) ∧ Below W.heap.size W w' :=
  Any.strings_Trim_laid Tryz.lays160 (by kernel_rfl) s ⟨#[48, 49, 50, 51, 52, 53, 54, 55, 56, 57]⟩ W hs (by decide) (ascii_of_all (by decide))

theorem am_digits (l : List UInt8) (w : World) (hs : l.length ≤ 1048576) :
    Calls Tryz.prog 178 #[.string ⟨l.toArray⟩] w fun e w' => e = .returned (.bool (l.all fun c => Lx.digit (c.toNat : Int))) ∧ Below w.heap.size w w' := by
  have ht := fun W => am_trim ⟨l.toArray⟩ W (by rw [lx_size_mk]; omega)
  simp only at ht
  have HT : Hid ((Lib.trimS l am09 = []) ↔ (l.all fun c => Lx.digit (c.toNat : Int)) = true) := Lib.hid (am_trim_nil l)
  generalize (l.all fun c => Lx.digit (c.toNat : Int)) = b at *
  generalize Lib.trimS l am09 = t at *
  go_enter Tryz.func178, Tryz.ntmps178
  go_wp2_with fail
  refine (ht _).mono ?_
  rintro e w' ⟨rfl, hb⟩
  go_wp2_with fail
  go_ret
  refine ⟨lx_ret ?_, hb⟩
  rw [Bool.eq_iff_iff, ← HT.out]
  simp

theorem am_bounded (x : Int) (w : World) :
    Calls Tryz.prog 180 #[.int .i64 x] w fun e w' => (∃ n y : Int, e = .returned (.tuple #[.int .i64 n, .int .i64 y]) ∧ y ≠ 3) ∧ w = w' := by
  have hv : ∀ W, Calls Tryz.prog 194 #[.int .i64 x] W fun e w' => (∃ b : Bool, e = .returned (.bool b)) ∧ W = w' := by
    intro W
    go_enter Tryz.func194, Tryz.ntmps194
    go_wp2_with fail
    all_goals go_ret
    all_goals first | exact ⟨⟨_, rfl⟩, rfl⟩ | exact ⟨Or.inl rfl, rfl⟩ | exact ⟨Or.inr rfl, rfl⟩
  go_enter Tryz.func180, Tryz.ntmps180
  go_wp2_with fail
  refine (hv _).mono ?_
  rintro e w' ⟨⟨b, rfl⟩, rfl⟩
  cases b with
  | true =>
    go_wp2_with fail
    go_ret2
    exact ⟨⟨_, _, rfl, by decide⟩, rfl⟩
  | false =>
    go_wp2_with fail
    go_ret2
    exact ⟨⟨_, _, rfl, by decide⟩, rfl⟩

/-- what Parse needs of the world -/
structure AmEnv (m : Int) (W : World) : Prop where
  maxlen : W.cell? ⟨2, 0, none⟩ = some (.int .i64 m)
  range : ∃ te pe, W.cell? ⟨7, 0, none⟩ = some (.iface te pe)
  syn : ∃ te pe, W.cell? ⟨6, 0, none⟩ = some (.iface te pe)
theorem AmEnv.below {m : Int} {W W' : World} (h : AmEnv m W) (hb : Below W.heap.size W W') : AmEnv m W' := by
  have t : ∀ (p : Addr) (v : Value), W.cell? p = some v → p.spot = none → W'.cell? p = some v := fun p v hc hs => by
    obtain ⟨b, o, sp⟩ := p
    cases hs
    exact (hb.cell (p := ⟨b, o, none⟩) (lx_lt hc)).trans hc
  obtain ⟨h1, ⟨a, b, h2⟩, ⟨c, d, h3⟩⟩ := h
  exact ⟨t _ _ h1 rfl, ⟨a, b, t _ _ h2 rfl⟩, ⟨c, d, t _ _ h3 rfl⟩⟩

theorem am_parseInt (s : ByteArray) (w : World) (m : Int) (hs : s.size ≤ 1048576) (h : AmEnv m w) :
    Calls Tryz.prog 179 #[.string s, .int .i64 10, .int .i64 64] w fun e w' => (∃ (n : Int) (v : Value), e = .returned (.tuple #[.int .i64 n, v]) ∧ (v = .nilIface ∨ ∃ t p, v = .iface t p)) ∧ Below w.heap.size w w' := by
  obtain ⟨_, ⟨a, b, h2⟩, ⟨c, d, h3⟩⟩ := h
  rcases hr : Lib.parseIntB 64 s.data.toList with v | _ | _
  · refine (Tryz.strconv_ParseInt_10_at64_ok s (by omega) v hr w).mono ?_
    rintro e w' ⟨rfl, hw⟩
    refine ⟨⟨_, _, rfl, Or.inl rfl⟩, ?_⟩
    rcases hw with rfl | ⟨t, rfl⟩
    · exact Below.refl _ _
    · exact Lib.bytesWorld_below _ _ _
  · refine (Tryz.strconv_ParseInt_10_at64_syntax s (by omega) hr _ w h3 (Or.inr ⟨_, _, rfl⟩)).mono ?_
    rintro e w' ⟨N, rfl, _, _, hb⟩
    exact ⟨⟨_, _, rfl, Or.inr ⟨_, _, rfl⟩⟩, hb⟩
  · refine (Tryz.strconv_ParseInt_10_at64_range s (by omega) hr _ w h2 (Or.inr ⟨_, _, rfl⟩)).mono ?_
    rintro e w' ⟨N, rfl, _, _, hb⟩
    exact ⟨⟨_, _, rfl, Or.inr ⟨_, _, rfl⟩⟩, hb⟩

end Go.Proofs.YthijakidnkhbnaaGreatDoor

namespace Go.Proofs.YthijakidnkhbnaaGreatDoor
open Go.RowKit Go.Lib

/-- malformed: by the parts of the text -/
def amBad (hp : Bool) (r : List UInt8) (u c : ByteArray) (b du dc : Bool) : Bool :=
  !b || u.toList.isEmpty || ((c.size : Int) != 2) || !du || !dc || (decide (1 < (u.size : Int)) && decide (PlainAid.bt u 0 = 48)) || (hp && (r == [48, 46, 48, 48]))

theorem am_digitsB (s : ByteArray) (w : World) (hs : s.size ≤ 1048576) :
    Calls Tryz.prog 178 #[.string s] w fun e w' => e = .returned (.bool (s.data.toList.all fun c => Lx.digit (c.toNat : Int))) ∧ Below w.heap.size w w' :=
  am_digits s.data.toList w (by rw [← Lib.size_eq]; exact hs)

set_option maxRecDepth 100000 in
set_option maxHeartbeats 2000000 in
theorem am_parse0 (s : ByteArray) (w : World) (m : Int) (hs : s.size ≤ 32) (h : AmEnv m w) (r : List UInt8) (hp : Bool) (u c : ByteArray) (b : Bool)
    (hr : r = Lib.trimPrefix s.data.toList [45]) (hhp : hp = Lib.hasPrefix s.data.toList [45]) (hu : u = ⟨(Lib.cut r [46]).1.toArray⟩) (hc : c = ⟨(Lib.cut r [46]).2.1.toArray⟩) (hb : b = (Lib.cut r [46]).2.2) :
    Calls Tryz.prog 164 #[.string s] w fun e w' => (∃ n x : Int, e = .returned (.tuple #[.int .i64 n, .int .i64 x]) ∧ (x = 3 ↔ amBad hp r u c b (u.data.toList.all fun c => Lx.digit (c.toNat : Int)) (c.data.toList.all fun c => Lx.digit (c.toNat : Int)) = true)) ∧ Below w.heap.size w w' := by
  have h1 := fun W => Tryz.strings_CutPrefix s ⟨#[45]⟩ W
  have hl1 : r.length ≤ 32 := by have := lx_trimPrefix_le s.data.toList [45]; rw [Lib.size_eq] at hs; rw [hr]; omega
  have h2 := Tryz.strings_Cut ⟨r.toArray⟩ ⟨#[46]⟩ m w (by rw [lx_size_mk]; omega) h.maxlen
  have hl2 := (lx_cut_le r [46]).1
  have hl3 := (lx_cut_le r [46]).2
  simp only at h1 h2
  rw [← hr, ← hhp] at h1
  rw [← hu, ← hc, ← hb] at h2
  have hu2 : u.size ≤ 32 := by rw [hu, lx_size_mk]; omega
  have hc2 : c.size ≤ 32 := by rw [hc, lx_size_mk]; omega
  clear hr hhp hu hc hb hl2 hl3
  have H3 := Lib.hid (fun W => am_digitsB u W (by omega))
  have H4 := Lib.hid (fun W => am_digitsB c W (by omega))
  have H5 := Lib.hid (fun W hW => am_parseInt (u ++ c) W m (by rw [ByteArray.size_append]; omega) hW)
  have H6 := Lib.hid (fun x W => am_bounded x W)
  have HEn : Hid (∀ n, AmEnv m (w.drewN n)) := Lib.hid fun n => h.below (below_drewN' (Below.refl _ _) n)
  have hub := PlainAid.get_bt u
  clear h
  generalize (u.data.toList.all fun c => Lx.digit (c.toNat : Int)) = du at *
  generalize (c.data.toList.all fun c => Lx.digit (c.toNat : Int)) = dc at *
  go_enter Tryz.func164, Tryz.ntmps164
  go_wp2_with fail
  refine (h1 _).mono ?_
  rintro e w' ⟨rfl, rfl⟩
  go_wp2_with fail
  refine h2.mono ?_
  rintro e w' ⟨rfl, n, rfl⟩
  have HBAD : Hid (amBad hp r u c b du dc = (!b || u.toList.isEmpty || ((c.size : Int) != 2) || !du || !dc || (decide (1 < (u.size : Int)) && decide (PlainAid.bt u 0 = 48)) || (hp && (r == [48, 46, 48, 48])))) := Lib.hid rfl
  cases b <;> cases du <;> cases dc <;> cases hp
  all_goals go_wp2_with (go_at_call 178; first | (refine (H3.out _).mono ?_; rintro e w1 ⟨rfl, hb1⟩) | (refine (H4.out _).mono ?_; rintro e w2 ⟨rfl, hb2⟩))
  all_goals try (go_ret2; refine ⟨⟨_, 3, rfl, by rw [HBAD.out]; first | (simp [*]; done) | (rcases ‹(_ ∨ _) ∨ _› with (hx | hx) | hx <;> first | (simp [eq_of_beq hx]; done) | exact absurd (List.isEmpty_iff.1 hx) (by assumption) | exact absurd (eq_of_beq hx) (by assumption)) | (rcases ‹_ ∨ _› with hx | hx <;> first | (simp [eq_of_beq hx]; done) | exact absurd (List.isEmpty_iff.1 hx) (by assumption) | exact absurd (eq_of_beq hx) (by assumption))⟩, ?_⟩; first | exact below_drewN' (Below.refl _ _) _ | exact (below_drewN' (Below.refl _ _) _).trans (hb1.mono (by simp)) | exact ((below_drewN' (Below.refl _ _) _).trans (hb1.mono (by simp))).trans (hb2.mono (by have := hb1.size; simpa using this)))
  all_goals refine (H5.out _ (((HEn.out _).below hb1).below hb2)).mono ?_
  all_goals rintro e w3 ⟨⟨z, v, rfl, hv⟩, hb3⟩
  all_goals have HN : Hid (amBad _ r u c true true true = false) := Lib.hid (by
    rw [HBAD.out]
    first
      | (simp [*]; done)
      | (have hy : decide (1 < (u.size : Int)) = false := (by simp; omega)
         first
           | (rw [hy]; simp [*]; done)
           | (have hx := (‹_ ∧ (r == [48, 46, 48, 48]) = false›).2
              rw [hy, hx]; simp [*]; done))
      | (have hx := (‹_ ∧ (r == [48, 46, 48, 48]) = false›).2
         rw [hx]; simp [*]; done))
  all_goals clear HBAD
  all_goals have hball : Below w'.heap.size w' w3 := ((((below_drewN' (Below.refl _ _) _).trans (hb1.mono (by simp)))).trans (hb2.mono (by have := hb1.size; simpa using this))).trans (hb3.mono (by have := hb1.size; have := hb2.size; simp at *; omega))
  all_goals clear hb1 hb2 hb3
  all_goals rcases hv with rfl | ⟨t, p, rfl⟩
  all_goals go_wp2_with fail
  all_goals try (go_ret2; refine ⟨⟨_, _, rfl, ?_⟩, hball⟩; rw [HN.out]; decide)
  all_goals refine (H6.out _ _).mono ?_
  all_goals rintro e w4 ⟨⟨n1, y, rfl, hy⟩, rfl⟩
  all_goals have HY := Lib.hid hy
  all_goals clear hy
  all_goals go_wp2_with fail
  all_goals go_ret2
  all_goals refine ⟨⟨_, y, rfl, ?_⟩, hball⟩
  all_goals rw [HN.out]
  all_goals simp [HY.out]

end Go.Proofs.YthijakidnkhbnaaGreatDoor

namespace Go.Proofs.YthijakidnkhbnaaGreatDoor
open Go.RowKit Go.Lib

theorem am_bad_plain (b : Bool) (U C : List UInt8) (neg : Bool) :
    (!b || (ByteArray.mk U.toArray).toList.isEmpty || (((ByteArray.mk C.toArray).size : Int) != 2) || !(U.all fun c => Lx.digit (c.toNat : Int)) || !(C.all fun c => Lx.digit (c.toNat : Int)) ||
      (decide (1 < ((ByteArray.mk U.toArray).size : Int)) && decide (PlainAid.bt ⟨U.toArray⟩ 0 = 48)) || neg) =
    !(b && Lx.whole U && decide (C.length = 2) && Lx.all Lx.digit C && !neg) := by
  rw [Lib.toList_data, lx_size_mk, lx_size_mk]
  cases b with
  | false => simp
  | true =>
    cases neg with
    | true => simp
    | false =>
      by_cases h2 : C.length = 2
      · have hC : Lx.all Lx.digit C = C.all fun c => Lx.digit (c.toNat : Int) := by
          unfold Lx.all
          cases C with
          | nil => simp at h2
          | cons a C => simp
        rw [hC]
        cases U with
        | nil => simp [Lx.whole, Lx.all]
        | cons x U =>
          have hb : PlainAid.bt ⟨(x :: U).toArray⟩ 0 = (x.toNat : Int) := (PlainAid.get_bt ⟨(x :: U).toArray⟩ 0 (by rw [lx_size_mk]; simp)).symm
          rw [hb]
          unfold Lx.whole Lx.all
          have e48 : decide ((x.toNat : Int) = 48) = (x == 48) := by
            rw [Bool.eq_iff_iff]
            simp only [decide_eq_true_eq, beq_iff_eq]
            rw [← UInt8.toNat_inj]
            show ((x.toNat : Int) = 48) ↔ (x.toNat = 48)
            omega
          rw [e48]
          generalize (x :: U).all (fun c => Lx.digit (c.toNat : Int)) = d1
          generalize C.all (fun c => Lx.digit (c.toNat : Int)) = d2
          generalize hq : (x == 48) = q
          have hlen : decide (1 < (((x :: U).length : Nat) : Int)) = !((x :: U).length == 1) := by
            rw [Bool.eq_iff_iff]; simp
            cases U with
            | nil => simp
            | cons a U => simp; omega
          rw [hlen]
          have hh : ((x :: U).head? == some 48) = q := by rw [← hq]; rfl
          rw [hh]
          have h2' : ((C.length : Int) != 2) = false := by rw [bne_eq_false_iff_eq]; omega
          rw [h2']
          generalize ((x :: U).length == 1) = o
          simp only [h2, decide_true]
          cases d1 <;> cases d2 <;> cases q <;> cases o <;> rfl
      · have h2' : ((C.length : Int) != 2) = true := by rw [bne_iff_ne]; omega
        simp [h2, h2']

theorem am_neg (l : List UInt8) : (Lib.hasPrefix l [45] && (Lib.trimPrefix l [45] == [48, 46, 48, 48])) = (l == [45, 48, 46, 48, 48]) := by
  cases l with
  | nil => rfl
  | cons a l =>
    by_cases h : a = 45
    · subst h
      simp [Lib.hasPrefix, Lib.trimPrefix]
    · have h1 : Lib.hasPrefix (a :: l) [45] = false := by
        have h45 : ((45 : UInt8) == a) = false := by rw [beq_eq_false_iff_ne]; exact fun h' => h h'.symm
        simp only [Lib.hasPrefix, List.isPrefixOf, h45, Bool.false_and]
      rw [h1]
      symm
      simp [h]

theorem am_bad_decimal (l : List UInt8) :
    amBad (Lib.hasPrefix l [45]) (Lib.trimPrefix l [45]) ⟨(Lib.cut (Lib.trimPrefix l [45]) [46]).1.toArray⟩ ⟨(Lib.cut (Lib.trimPrefix l [45]) [46]).2.1.toArray⟩ (Lib.cut (Lib.trimPrefix l [45]) [46]).2.2
      ((Lib.cut (Lib.trimPrefix l [45]) [46]).1.all fun c => Lx.digit (c.toNat : Int)) ((Lib.cut (Lib.trimPrefix l [45]) [46]).2.1.all fun c => Lx.digit (c.toNat : Int)) = !Lx.decimal l := by
  unfold amBad
  rw [am_neg, am_bad_plain]
  rfl

theorem am_parse (s : ByteArray) (w : World) (m : Int) (hs : s.size ≤ 32) (h : AmEnv m w) :
    Calls Tryz.prog 164 #[.string s] w fun e w' => (∃ n x : Int, e = .returned (.tuple #[.int .i64 n, .int .i64 x]) ∧ (x = 3 ↔ Lx.decimal s.data.toList = false)) ∧ Below w.heap.size w w' := by
  refine (am_parse0 s w m hs h _ _ _ _ _ rfl rfl rfl rfl rfl).mono ?_
  rintro e w' ⟨⟨n, x, rfl, hx⟩, hb⟩
  refine ⟨⟨n, x, rfl, ?_⟩, hb⟩
  rw [hx]
  simp only
  rw [am_bad_decimal]
  simp

end Go.Proofs.YthijakidnkhbnaaGreatDoor

namespace Go.Proofs.YthijakidnkhbnaaGreatDoor
open Go.RowKit

set_option maxRecDepth 100000 in
set_option maxHeartbeats 400000 in
theorem ps_kindOfL (w : World) (s : ByteArray) (kd k e0 : Int) (b1 b2 : Bool) (h1 : (e0 == 0) = b1) (h2 : (k == kd) = b2)
    (n1 : Calls Tryz.prog 52 #[.string s] w fun e w' => e = .returned (.tuple #[.int .i64 k, .int .i64 e0]) ∧ Below w.heap.size w w') :
    Calls Tryz.prog 163 #[.string s, .int .i64 kd] w fun e w' => e = .returned (.bool (b1 && b2)) ∧ Below w.heap.size w w' := by
  cases b1
  all_goals
    go_enter Tryz.func163, Tryz.ntmps163
    go_wp2_with fail
    refine n1.mono ?_
    rintro e w1 ⟨rfl, hb⟩
    have HB := Lib.hid hb
    clear n1 hb
    go_wp2_with fail
    go_ret
    exact ⟨by simp, HB.out⟩

theorem ps_kindOf (s : ByteArray) (kd : Int) (w : World) (m : Int) (kb ko kc : Nat) (hs : s.size ≤ 9223372036854775807) (h : LxEnv m kb ko kc w) :
    Calls Tryz.prog 163 #[.string s, .int .i64 kd] w fun e w' => e = .returned (.bool (decide (Lx.classify s = (kd, 0)))) ∧ Below w.heap.size w w' := by
  refine (ps_kindOfL w s kd _ _ _ _ rfl rfl (lx_classify s w m kb ko kc hs h)).mono ?_
  rintro e w1 ⟨rfl, hb⟩
  refine ⟨congrArg (fun b => Ending.returned (.bool b)) ?_, hb⟩
  rw [Bool.eq_iff_iff, Bool.and_eq_true, beq_iff_eq, beq_iff_eq, decide_eq_true_eq]
  constructor
  · rintro ⟨a, b⟩; exact Prod.ext b a
  · intro h; rw [h]; exact ⟨rfl, rfl⟩

/-- what ParseAmount and ParseQuantity make of a number and its error -/
def bndS (ok : Bool) (n : Int) : Int × Int := if ok = true ∧ 1 ≤ n ∧ n ≤ 1000000000000000 then (n, 0) else (0, 2)

set_option maxRecDepth 100000 in
set_option maxHeartbeats 400000 in
theorem ps_qtyBad (w : World) (s : ByteArray) (n1 : Calls Tryz.prog 163 #[.string s, .int .i64 2] w fun e w' => e = .returned (.bool false) ∧ Below w.heap.size w w') :
    Calls Tryz.prog 168 #[.string s] w fun e w' => e = .returned (.tuple #[.int .i64 0, .int .i64 30]) ∧ Below w.heap.size w w' := by
  go_enter Tryz.func168, Tryz.ntmps168
  go_wp2_with fail
  refine n1.mono ?_
  rintro e w1 ⟨rfl, hb⟩
  have HB := Lib.hid hb
  clear n1 hb
  go_wp2_with fail
  go_ret2
  exact ⟨rfl, HB.out⟩

set_option maxRecDepth 100000 in
set_option maxHeartbeats 400000 in
theorem ps_amtBad (w : World) (s : ByteArray) (n1 : Calls Tryz.prog 163 #[.string s, .int .i64 3] w fun e w' => e = .returned (.bool false) ∧ Below w.heap.size w w') :
    Calls Tryz.prog 133 #[.string s] w fun e w' => e = .returned (.tuple #[.int .i64 0, .int .i64 30]) ∧ Below w.heap.size w w' := by
  go_enter Tryz.func133, Tryz.ntmps133
  go_wp2_with fail
  refine n1.mono ?_
  rintro e w1 ⟨rfl, hb⟩
  have HB := Lib.hid hb
  clear n1 hb
  go_wp2_with fail
  go_ret2
  exact ⟨rfl, HB.out⟩

set_option maxRecDepth 100000 in
set_option maxHeartbeats 400000 in
theorem ps_qtyNum (w : World) (s : ByteArray) (n : Int) (b1 b2 : Bool) (h1 : decide (n < 1) = b1) (h2 : decide (1000000000000000 < n) = b2) (n1 : Calls Tryz.prog 163 #[.string s, .int .i64 2] w fun e w' => e = .returned (.bool true) ∧ Below w.heap.size w w')
    (n2 : Hid (∀ w1, Below w.heap.size w w1 → Calls Tryz.prog 179 #[.string s, .int .i64 10, .int .i64 64] w1 fun e w' => e = .returned (.tuple #[.int .i64 n, .nilIface]) ∧ Below w1.heap.size w1 w')) :
    Calls Tryz.prog 168 #[.string s] w fun e w' => e = .returned (.tuple #[.int .i64 (if b1 || b2 then 0 else n), .int .i64 (if b1 || b2 then 2 else 0)]) ∧ Below w.heap.size w w' := by
  cases b1
  all_goals cases b2
  all_goals simp only [decide_eq_true_eq, decide_eq_false_iff_not] at h1 h2
  all_goals try (exfalso; omega)
  all_goals
    go_enter Tryz.func168, Tryz.ntmps168
    go_wp2_with fail
    refine n1.mono ?_
    rintro e w1 ⟨rfl, hb⟩
    have HB := Lib.hid hb
    have m2 := n2.out w1 hb
    clear n1 hb n2
    go_wp2_with fail
    refine m2.mono ?_
    rintro e w2 ⟨rfl, hb⟩
    have HB2 := Lib.hid (HB.out.trans (hb.mono HB.out.size))
    clear m2 hb
    go_wp2_with fail
    go_ret2
    exact ⟨rfl, HB2.out⟩

set_option maxRecDepth 100000 in
set_option maxHeartbeats 400000 in
theorem ps_qtyErr (w : World) (s : ByteArray) (n : Int) (n1 : Calls Tryz.prog 163 #[.string s, .int .i64 2] w fun e w' => e = .returned (.bool true) ∧ Below w.heap.size w w')
    (n2 : Hid (∀ w1, Below w.heap.size w w1 → Calls Tryz.prog 179 #[.string s, .int .i64 10, .int .i64 64] w1 fun e w' => (∃ te pe, e = .returned (.tuple #[.int .i64 n, .iface te pe])) ∧ Below w1.heap.size w1 w')) :
    Calls Tryz.prog 168 #[.string s] w fun e w' => e = .returned (.tuple #[.int .i64 0, .int .i64 2]) ∧ Below w.heap.size w w' := by
  go_enter Tryz.func168, Tryz.ntmps168
  go_wp2_with fail
  refine n1.mono ?_
  rintro e w1 ⟨rfl, hb⟩
  have HB := Lib.hid hb
  have m2 := n2.out w1 hb
  clear n1 hb n2
  go_wp2_with fail
  refine m2.mono ?_
  rintro e w2 ⟨⟨te, pe, rfl⟩, hb⟩
  have HB2 := Lib.hid (HB.out.trans (hb.mono HB.out.size))
  clear m2 hb
  go_wp2_with fail
  go_ret2
  exact ⟨rfl, HB2.out⟩

/-- a number from 1 to the greatest amount, or an error -/
def bndI (v : Int) : Int × Int := if v < 1 ∨ 1000000000000000 < v then (0, 2) else (v, 0)
/-- ParseQuantity -/
def qtyOf (s : ByteArray) : Int × Int :=
  if Lx.classify s = (2, 0) then (match Lib.parseIntB 64 s.data.toList with | .ok v => bndI v | _ => (0, 2)) else (0, 30)

theorem bndI_if (v : Int) : ((if (decide (v < 1) || decide (1000000000000000 < v)) = true then (0 : Int) else v), (if (decide (v < 1) || decide (1000000000000000 < v)) = true then (2 : Int) else 0)) = bndI v := by
  unfold bndI
  by_cases h : v < 1 ∨ 1000000000000000 < v
  · rw [if_pos h, if_pos (by simpa using h), if_pos (by simpa using h)]
  · rw [if_neg h, if_neg (by simpa using h), if_neg (by simpa using h)]

theorem ps_qty {W0 : World} (m : Int) (kb ko kc : Nat) (hx : LxEnv m kb ko kc W0) (ha : AmEnv m W0) : PsNum 168 W0 qtyOf := by
  refine ⟨enters_of Tryz.func168 (by kernel_rfl) rfl, fun s hs => ?_, fun w s hw hsz => ?_⟩
  · unfold qtyOf at hs ⊢
    split
    · rw [if_pos (by assumption)] at hs
      split
      · rename_i v hv
        rw [hv] at hs
        simp only [bndI] at hs ⊢
        split
        · rfl
        · rw [if_neg (by assumption)] at hs; exact absurd rfl hs
      · rfl
    · rfl
  · have n1 := ps_kindOf s 2 w m kb ko kc (by omega) (hx.below hw)
    by_cases hc : Lx.classify s = (2, 0)
    · rw [decide_eq_true hc] at n1
      have hq : qtyOf s = (match Lib.parseIntB 64 s.data.toList with | .ok v => bndI v | _ => (0, 2)) := by unfold qtyOf; rw [if_pos hc]
      have env : ∀ w1, Below w.heap.size w w1 → AmEnv m w1 := fun w1 h1 => ha.below (hw.trans (h1.mono hw.size))
      rcases hr : Lib.parseIntB 64 s.data.toList with v | _ | _
      · rw [hr] at hq
        simp only [] at hq
        rw [hq, ← bndI_if v]
        refine ps_qtyNum w s v _ _ rfl rfl n1 (Lib.hid fun w1 h1 => ?_)
        refine (Tryz.strconv_ParseInt_10_at64_ok s (by omega) v hr w1).mono ?_
        rintro e w' ⟨rfl, hw'⟩
        refine ⟨rfl, ?_⟩
        rcases hw' with rfl | ⟨t, rfl⟩
        · exact Below.refl _ _
        · exact Lib.bytesWorld_below _ _ _
      · rw [hr] at hq
        simp only [] at hq
        rw [hq]
        refine ps_qtyErr w s 0 n1 (Lib.hid fun w1 h1 => ?_)
        obtain ⟨_, ⟨a, b, h2⟩, ⟨c, d, h3⟩⟩ := env w1 h1
        refine (Tryz.strconv_ParseInt_10_at64_syntax s (by omega) hr _ w1 h3 (Or.inr ⟨_, _, rfl⟩)).mono ?_
        rintro e w' ⟨N, rfl, _, _, hb⟩
        exact ⟨⟨_, _, rfl⟩, hb⟩
      · rw [hr] at hq
        simp only [] at hq
        rw [hq]
        refine ps_qtyErr w s (Lib.intSat 64 s.data.toList) n1 (Lib.hid fun w1 h1 => ?_)
        obtain ⟨_, ⟨a, b, h2⟩, ⟨c, d, h3⟩⟩ := env w1 h1
        refine (Tryz.strconv_ParseInt_10_at64_range s (by omega) hr _ w1 h2 (Or.inr ⟨_, _, rfl⟩)).mono ?_
        rintro e w' ⟨N, rfl, _, _, hb⟩
        exact ⟨⟨_, _, rfl⟩, hb⟩
    · rw [decide_eq_false hc] at n1
      have hq : qtyOf s = (0, 30) := by unfold qtyOf; rw [if_neg hc]
      rw [hq]
      exact ps_qtyBad w s n1

end Go.Proofs.YthijakidnkhbnaaGreatDoor
