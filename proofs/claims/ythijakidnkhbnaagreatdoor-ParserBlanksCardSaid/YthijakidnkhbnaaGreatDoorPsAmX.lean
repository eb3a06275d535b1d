/-
  amount.Parse, exactly, on texts of the form of amounts.
-/
import Derived.Test.YthijakidnkhbnaaGreatDoorPsPay
import Derived.Test.YthijakidnkhbnaaGreatDoorAmWalk
namespace Go.Proofs.YthijakidnkhbnaaGreatDoor
open Go.RowKit

/-- an amount, or the error of a sum that is too large -/
def bndA (x : Int) : Int × Int := if -1000000000000000 ≤ x ∧ x ≤ 1000000000000000 then (x, 0) else (0, 12)

set_option maxRecDepth 100000 in
set_option maxHeartbeats 400000 in
theorem am_validX (x : Int) (w : World) (b1 b2 : Bool) (h1 : decide (-1000000000000000 ≤ x) = b1) (h2 : decide (x ≤ 1000000000000000) = b2) :
    Calls Tryz.prog 194 #[.int .i64 x] w fun e w' => e = .returned (.bool (b1 && b2)) ∧ w = w' := by
  cases b1
  all_goals cases b2
  all_goals simp only [decide_eq_true_eq, decide_eq_false_iff_not] at h1 h2
  all_goals
    go_enter Tryz.func194, Tryz.ntmps194
    go_wp2_with fail
    go_ret
    exact ⟨rfl, rfl⟩

set_option maxRecDepth 100000 in
set_option maxHeartbeats 400000 in
theorem am_boundedX (x : Int) (w : World) :
    Calls Tryz.prog 180 #[.int .i64 x] w fun e w' => e = .returned (.tuple #[.int .i64 (bndA x).1, .int .i64 (bndA x).2]) ∧ w = w' := by
  have n1 := am_validX x w _ _ rfl rfl
  by_cases h : -1000000000000000 ≤ x ∧ x ≤ 1000000000000000
  · have e1 : bndA x = (x, 0) := if_pos h
    rw [decide_eq_true h.1, decide_eq_true h.2] at n1
    rw [e1]
    clear e1 h
    go_enter Tryz.func180, Tryz.ntmps180
    go_wp2_with fail
    refine n1.mono ?_
    rintro e w1 ⟨rfl, rfl⟩
    clear n1
    go_wp2_with fail
    go_ret2
    exact ⟨rfl, rfl⟩
  · have e1 : bndA x = (0, 12) := if_neg h
    have e2 : (decide (-1000000000000000 ≤ x) && decide (x ≤ 1000000000000000)) = false := by
      rw [Bool.eq_false_iff]
      intro h2
      simp only [Bool.and_eq_true, decide_eq_true_eq] at h2
      exact h h2
    rw [e2] at n1
    rw [e1]
    clear e1 e2 h
    go_enter Tryz.func180, Tryz.ntmps180
    go_wp2_with fail
    refine n1.mono ?_
    rintro e w1 ⟨rfl, rfl⟩
    clear n1
    go_wp2_with fail
    go_ret2
    exact ⟨rfl, rfl⟩

/-- ParseInt at base 10 and 64 bits: the number, or some error -/
def PiC (s : ByteArray) (w : World) : Prop := Calls Tryz.prog 179 #[.string s, .int .i64 10, .int .i64 64] w fun e w' =>
  (match Lib.parseIntB 64 s.data.toList with
   | .ok v => e = .returned (.tuple #[.int .i64 v, .nilIface])
   | _ => ∃ n te pe, e = .returned (.tuple #[.int .i64 n, .iface te pe])) ∧ Below w.heap.size w w'
theorem am_pi (s : ByteArray) (w : World) (m : Int) (hs : s.size ≤ 1048576) (h : AmEnv m w) : PiC s w := by
  unfold PiC
  obtain ⟨_, ⟨a, b, h2⟩, ⟨c, d, h3⟩⟩ := h
  rcases hr : Lib.parseIntB 64 s.data.toList with v | _ | _
  · refine (Tryz.strconv_ParseInt_10_at64_ok s (by omega) v hr w).mono ?_
    rintro e w' ⟨rfl, hw⟩
    refine ⟨rfl, ?_⟩
    rcases hw with rfl | ⟨t, rfl⟩
    · exact Below.refl _ _
    · exact Lib.bytesWorld_below _ _ _
  · refine (Tryz.strconv_ParseInt_10_at64_syntax s (by omega) hr _ w h3 (Or.inr ⟨_, _, rfl⟩)).mono ?_
    rintro e w' ⟨N, rfl, _, _, hb⟩
    exact ⟨⟨_, _, _, rfl⟩, hb⟩
  · refine (Tryz.strconv_ParseInt_10_at64_range s (by omega) hr _ w h2 (Or.inr ⟨_, _, rfl⟩)).mono ?_
    rintro e w' ⟨N, rfl, _, _, hb⟩
    exact ⟨⟨_, _, _, rfl⟩, hb⟩

/-- what amount.Parse returns for a text of the form of amounts -/
def amtP (s : ByteArray) : Int × Int :=
  match Lib.parseIntB 64 ((Lib.cut (Lib.trimPrefix s.data.toList [45]) [46]).1 ++ (Lib.cut (Lib.trimPrefix s.data.toList [45]) [46]).2.1) with
  | .ok v => bndA (if Lib.hasPrefix s.data.toList [45] = true then wrap64 (-v) else v)
  | _ => (0, 12)

set_option maxRecDepth 100000 in
set_option maxHeartbeats 1000000 in
theorem am_parseL (s : ByteArray) (w : World) (_m : Int) (_hs : s.size ≤ 32) (r : List UInt8) (hp : Bool) (u c : ByteArray) (v : Int) (x y : Int)
    (hu1 : (u.toList == ([] : List UInt8)) = false) (_hu0 : (u.toList.isEmpty) = false) (hc2 : (c.size : Int) = 2) (hus : u.size ≤ 32) (hu48 : (1 < (u.size : Int)) → ¬ PlainAid.bt u 0 = 48) (hr0 : (hp = true) → (r == [48, 46, 48, 48]) = false)
    (h1 : Hid (∀ W, Calls Tryz.prog 176 #[.string s, .string ⟨#[45]⟩] W fun e w' => e = .returned (.tuple #[.string ⟨r.toArray⟩, .bool hp]) ∧ w' = W))
    (h2 : Calls Tryz.prog 177 #[.string ⟨r.toArray⟩, .string ⟨#[46]⟩] w fun e w' => e = .returned (.tuple #[.string u, .string c, .bool true]) ∧ ∃ n, w' = w.drewN n)
    (H3 : Hid (∀ W, Calls Tryz.prog 178 #[.string u] W fun e w' => e = .returned (.bool true) ∧ Below W.heap.size W w'))
    (H4 : Hid (∀ W, Calls Tryz.prog 178 #[.string c] W fun e w' => e = .returned (.bool true) ∧ Below W.heap.size W w'))
    (H5 : Hid (∀ W, Below w.heap.size w W → Calls Tryz.prog 179 #[.string (u ++ c), .int .i64 10, .int .i64 64] W fun e w' => e = .returned (.tuple #[.int .i64 v, .nilIface]) ∧ Below W.heap.size W w'))
    (H6 : Hid (∀ W, Calls Tryz.prog 180 #[.int .i64 (if hp = true then wrap64 (-v) else v)] W fun e w' => e = .returned (.tuple #[.int .i64 x, .int .i64 y]) ∧ W = w')) :
    Calls Tryz.prog 164 #[.string s] w fun e w' => e = .returned (.tuple #[.int .i64 x, .int .i64 y]) ∧ Below w.heap.size w w' := by
  have hub := PlainAid.get_bt u
  have hcs : c.size ≤ 32 := by omega
  by_cases hu2 : 1 < (u.size : Int)
  all_goals cases hp
  all_goals try have hu48' := hu48 hu2
  all_goals try have hr0' := hr0 rfl
  all_goals clear hu48 hr0
  all_goals
    have h1' := h1.out w
    simp only [Bool.false_eq_true, if_false, if_true] at H6
    clear h1
    go_enter Tryz.func164, Tryz.ntmps164
    go_wp2_with fail
    refine h1'.mono ?_
    rintro e w' ⟨rfl, rfl⟩
    go_wp2_with fail
    refine h2.mono ?_
    rintro e w' ⟨rfl, n, rfl⟩
    clear h1' h2
    go_wp2_with (go_at_call 178; first | (refine (H3.out _).mono ?_; rintro e w1 ⟨rfl, hb1⟩) | (refine (H4.out _).mono ?_; rintro e w2 ⟨rfl, hb2⟩))
    have hball := Lib.hid (((below_drewN' (Below.refl w'.heap.size w') n).trans (hb1.mono (by simp))).trans (hb2.mono (by have := hb1.size; simpa using this)))
    refine (H5.out _ hball.out).mono ?_
    rintro e w3 ⟨rfl, hb3⟩
    have HB := Lib.hid (hball.out.trans (hb3.mono hball.out.size))
    clear hb1 hb2 hb3 H3 H4 H5
    go_wp2_with fail
    refine (H6.out _).mono ?_
    rintro e w4 ⟨rfl, rfl⟩
    clear H6
    go_wp2_with fail
    go_ret2
    exact ⟨rfl, HB.out⟩

set_option maxRecDepth 100000 in
set_option maxHeartbeats 1000000 in
theorem am_parseE (s : ByteArray) (w : World) (_m : Int) (_hs : s.size ≤ 32) (r : List UInt8) (hp : Bool) (u c : ByteArray) 
    (hu1 : (u.toList == ([] : List UInt8)) = false) (_hu0 : (u.toList.isEmpty) = false) (hc2 : (c.size : Int) = 2) (hus : u.size ≤ 32) (hu48 : (1 < (u.size : Int)) → ¬ PlainAid.bt u 0 = 48) (hr0 : (hp = true) → (r == [48, 46, 48, 48]) = false)
    (h1 : Hid (∀ W, Calls Tryz.prog 176 #[.string s, .string ⟨#[45]⟩] W fun e w' => e = .returned (.tuple #[.string ⟨r.toArray⟩, .bool hp]) ∧ w' = W))
    (h2 : Calls Tryz.prog 177 #[.string ⟨r.toArray⟩, .string ⟨#[46]⟩] w fun e w' => e = .returned (.tuple #[.string u, .string c, .bool true]) ∧ ∃ n, w' = w.drewN n)
    (H3 : Hid (∀ W, Calls Tryz.prog 178 #[.string u] W fun e w' => e = .returned (.bool true) ∧ Below W.heap.size W w'))
    (H4 : Hid (∀ W, Calls Tryz.prog 178 #[.string c] W fun e w' => e = .returned (.bool true) ∧ Below W.heap.size W w'))
    (H5 : Hid (∀ W, Below w.heap.size w W → Calls Tryz.prog 179 #[.string (u ++ c), .int .i64 10, .int .i64 64] W fun e w' => (∃ n te pe, e = .returned (.tuple #[.int .i64 n, .iface te pe])) ∧ Below W.heap.size W w')) :
    Calls Tryz.prog 164 #[.string s] w fun e w' => e = .returned (.tuple #[.int .i64 0, .int .i64 12]) ∧ Below w.heap.size w w' := by
  have hub := PlainAid.get_bt u
  have hcs : c.size ≤ 32 := by omega
  by_cases hu2 : 1 < (u.size : Int)
  all_goals cases hp
  all_goals try have hu48' := hu48 hu2
  all_goals try have hr0' := hr0 rfl
  all_goals clear hu48 hr0
  all_goals
    have h1' := h1.out w
    clear h1
    go_enter Tryz.func164, Tryz.ntmps164
    go_wp2_with fail
    refine h1'.mono ?_
    rintro e w' ⟨rfl, rfl⟩
    go_wp2_with fail
    refine h2.mono ?_
    rintro e w' ⟨rfl, n, rfl⟩
    clear h1' h2
    go_wp2_with (go_at_call 178; first | (refine (H3.out _).mono ?_; rintro e w1 ⟨rfl, hb1⟩) | (refine (H4.out _).mono ?_; rintro e w2 ⟨rfl, hb2⟩))
    have hball := Lib.hid (((below_drewN' (Below.refl w'.heap.size w') n).trans (hb1.mono (by simp))).trans (hb2.mono (by have := hb1.size; simpa using this)))
    refine (H5.out _ hball.out).mono ?_
    rintro e w3 ⟨⟨z, te, pe, rfl⟩, hb3⟩
    have HB := Lib.hid (hball.out.trans (hb3.mono hball.out.size))
    clear hb1 hb2 hb3 H3 H4 H5
    go_wp2_with fail
    go_ret2
    exact ⟨rfl, HB.out⟩

theorem am_parseX (s : ByteArray) (w : World) (m : Int) (hs : s.size ≤ 32) (h : AmEnv m w) (hdec : Lx.decimal s.data.toList = true) :
    Calls Tryz.prog 164 #[.string s] w fun e w' => e = .returned (.tuple #[.int .i64 (amtP s).1, .int .i64 (amtP s).2]) ∧ Below w.heap.size w w' := by
  have hbad := am_bad_decimal s.data.toList
  rw [hdec] at hbad
  obtain ⟨r, hr⟩ : ∃ r, r = Lib.trimPrefix s.data.toList [45] := ⟨_, rfl⟩
  obtain ⟨hp, hhp⟩ : ∃ hp, hp = Lib.hasPrefix s.data.toList [45] := ⟨_, rfl⟩
  obtain ⟨u, hu⟩ : ∃ u : ByteArray, u = ⟨(Lib.cut r [46]).1.toArray⟩ := ⟨_, rfl⟩
  obtain ⟨c, hc⟩ : ∃ c : ByteArray, c = ⟨(Lib.cut r [46]).2.1.toArray⟩ := ⟨_, rfl⟩
  obtain ⟨b, hb⟩ : ∃ b, b = (Lib.cut r [46]).2.2 := ⟨_, rfl⟩
  have h1 := fun W => Tryz.strings_CutPrefix s ⟨#[45]⟩ W
  have hl1 : r.length ≤ 32 := by have := lx_trimPrefix_le s.data.toList [45]; rw [Lib.size_eq] at hs; rw [hr]; omega
  have h2 := Tryz.strings_Cut ⟨r.toArray⟩ ⟨#[46]⟩ m w (by rw [lx_size_mk]; omega) h.maxlen
  have hl2 := (lx_cut_le r [46]).1
  have hl3 := (lx_cut_le r [46]).2
  have hval : amtP s = (match Lib.parseIntB 64 (u ++ c).data.toList with | .ok v => bndA (if hp = true then wrap64 (-v) else v) | _ => (0, 12)) := by
    unfold amtP
    rw [← hr, ← hhp, hu, hc]
    congr 1
  simp only at h1 h2
  rw [← hr, ← hhp] at h1 hbad
  rw [← hu, ← hc, ← hb] at h2 hbad
  have hdu : ((Lib.cut r [46]).1.all fun c => Lx.digit (c.toNat : Int)) = (u.data.toList.all fun c => Lx.digit (c.toNat : Int)) := by rw [hu]
  have hdc : ((Lib.cut r [46]).2.1.all fun c => Lx.digit (c.toNat : Int)) = (c.data.toList.all fun c => Lx.digit (c.toNat : Int)) := by rw [hc]
  rw [hdu, hdc] at hbad
  have hu2 : u.size ≤ 32 := by rw [hu, lx_size_mk]; omega
  have hc2 : c.size ≤ 32 := by rw [hc, lx_size_mk]; omega
  clear hhp hr hu hc hb hl2 hl3 hdu hdc
  have H3 := fun W => am_digitsB u W (by omega)
  have H4 := fun W => am_digitsB c W (by omega)
  have H5 := fun W hW => am_pi (u ++ c) W m (by rw [ByteArray.size_append]; omega) hW
  unfold amBad at hbad
  simp only [Bool.not_true, Bool.or_eq_false_iff, Bool.not_eq_false', Bool.and_eq_false_iff, bne_eq_false_iff_eq] at hbad
  obtain ⟨⟨⟨⟨⟨⟨hb1, hb2⟩, hb3⟩, hb4⟩, hb5⟩, hb6⟩, hb7⟩ := hbad
  subst hb1
  rw [hb4] at H3
  rw [hb5] at H4
  have e1 : (u.toList == ([] : List UInt8)) = false := by
    rw [beq_eq_false_iff_ne]
    intro h; rw [h] at hb2; cases hb2
  have e2 : 1 < (u.size : Int) → ¬ PlainAid.bt u 0 = 48 := by
    intro h1 h2
    rcases hb6 with h3 | h3
    · simp at h3; omega
    · rw [h2] at h3; exact absurd h3 (by decide)
  have e3 : hp = true → (r == [48, 46, 48, 48]) = false := by
    intro h1
    rcases hb7 with h3 | h3
    · rw [h1] at h3; cases h3
    · exact h3
  have hb3' : (c.size : Int) = 2 := by simpa using hb3
  unfold PiC at H5
  rcases hpi : Lib.parseIntB 64 (u ++ c).data.toList with v | _ | _
  ·
    rw [hpi] at H5 hval
    simp only [] at H5 hval
    rw [hval]
    exact am_parseL s w m hs r hp u c v _ _ e1 hb2 hb3' hu2 e2 e3 (Lib.hid h1) h2 (Lib.hid H3) (Lib.hid H4) (Lib.hid fun W hW => H5 W (h.below hW)) (Lib.hid fun W => am_boundedX _ W)
  all_goals
    rw [hpi] at H5 hval
    simp only [] at H5 hval
    rw [hval]
    exact am_parseE s w m hs r hp u c e1 hb2 hb3' hu2 e2 e3 (Lib.hid h1) h2 (Lib.hid H3) (Lib.hid H4) (Lib.hid fun W hW => H5 W (h.below hW))
end Go.Proofs.YthijakidnkhbnaaGreatDoor
