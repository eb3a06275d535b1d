/-
  AMOUNTS: which texts Parse rejects as malformed.
-/
import Derived.Test.YtadhhknhfipihaaDoorAm1
import Derived.PlainAid
namespace Go.Proofs.YtadhhknhfipihaaDoor
open Go.RowKit Go.Lib

/-- malformed: by the parts of the text -/
def amBad (hp : Bool) (r : List UInt8) (u c : ByteArray) (b du dc : Bool) : Bool :=
  !b || u.toList.isEmpty || ((c.size : Int) != 2) || !du || !dc || (decide (1 < (u.size : Int)) && decide (PlainAid.bt u 0 = 48)) || (hp && (r == [48, 46, 48, 48]))

theorem am_digitsB (s : ByteArray) (w : World) (hs : s.size ≤ 1048576) :
    Calls Tryd.prog 20 #[.string s] w fun e w' => e = .returned (.bool (s.data.toList.all fun c => Lx.digit (c.toNat : Int))) ∧ Below w.heap.size w w' :=
  am_digits s.data.toList w (by rw [← Lib.size_eq]; exact hs)

set_option maxRecDepth 100000 in
set_option maxHeartbeats 2000000 in
theorem am_parse0 (s : ByteArray) (w : World) (m : Int) (hs : s.size ≤ 32) (h : AmEnv m w) (r : List UInt8) (hp : Bool) (u c : ByteArray) (b : Bool)
    (hr : r = Lib.trimPrefix s.data.toList [45]) (hhp : hp = Lib.hasPrefix s.data.toList [45]) (hu : u = ⟨(Lib.cut r [46]).1.toArray⟩) (hc : c = ⟨(Lib.cut r [46]).2.1.toArray⟩) (hb : b = (Lib.cut r [46]).2.2) :
    Calls Tryd.prog 10 #[.string s] w fun e w' => (∃ n x : Int, e = .returned (.tuple #[.int .i64 n, .int .i64 x]) ∧ (x = 3 ↔ amBad hp r u c b (u.data.toList.all fun c => Lx.digit (c.toNat : Int)) (c.data.toList.all fun c => Lx.digit (c.toNat : Int)) = true)) ∧ Below w.heap.size w w' := by
  have h1 := fun W => Tryd.strings_CutPrefix s ⟨#[45]⟩ W
  have hl1 : r.length ≤ 32 := by have := lx_trimPrefix_le s.data.toList [45]; rw [Lib.size_eq] at hs; rw [hr]; omega
  have h2 := Tryd.strings_Cut ⟨r.toArray⟩ ⟨#[46]⟩ m w (by rw [lx_size_mk]; omega) h.maxlen
  have hl2 := (lx_cut_le r [46]).1
  have hl3 := (lx_cut_le r [46]).2
  simp only at h1 h2
  rw [← hr, ← hhp] at h1
  rw [← hu, ← hc, ← hb] at h2
  have hu2 : u.size ≤ 32 := by rw [hu, lx_size_mk]; omega
  have hc2 : c.size ≤ 32 := by rw [hc, lx_size_mk]; omega
  clear hr hhp hu hc hb hl2 hl3
  have H3 := Lib.hid (fun W => am_digitsB u W (by omega))
  have H4 := Lib.hid (fun W => am_digitsB c W (by omega))
  have H5 := Lib.hid (fun W hW => am_parseInt (u ++ c) W m (by rw [ByteArray.size_append]; omega) hW)
  have H6 := Lib.hid (fun x W => am_bounded x W)
  have HEn : Hid (∀ n, AmEnv m (w.drewN n)) := Lib.hid fun n => h.below (below_drewN' (Below.refl _ _) n)
  have hub := PlainAid.get_bt u
  clear h
  generalize (u.data.toList.all fun c => Lx.digit (c.toNat : Int)) = du at *
  generalize (c.data.toList.all fun c => Lx.digit (c.toNat : Int)) = dc at *
  go_enter Tryd.func10, Tryd.ntmps10
  go_wp2_with fail
  refine (h1 _).mono ?_
  rintro e w' ⟨rfl, rfl⟩
  go_wp2_with fail
  refine h2.mono ?_
  rintro e w' ⟨rfl, n, rfl⟩
  have HBAD : Hid (amBad hp r u c b du dc = (!b || u.toList.isEmpty || ((c.size : Int) != 2) || !du || !dc || (decide (1 < (u.size : Int)) && decide (PlainAid.bt u 0 = 48)) || (hp && (r == [48, 46, 48, 48])))) := Lib.hid rfl
  cases b <;> cases du <;> cases dc <;> cases hp
  all_goals go_wp2_with (go_at_call 20; first | (refine (H3.out _).mono ?_; rintro e w1 ⟨rfl, hb1⟩) | (refine (H4.out _).mono ?_; rintro e w2 ⟨rfl, hb2⟩))
  all_goals try (go_ret2; refine ⟨⟨_, 3, rfl, by rw [HBAD.out]; first | (simp [*]; done) | (rcases ‹(_ ∨ _) ∨ _› with (hx | hx) | hx <;> first | (simp [eq_of_beq hx]; done) | exact absurd (List.isEmpty_iff.1 hx) (by assumption) | exact absurd (eq_of_beq hx) (by assumption)) | (rcases ‹_ ∨ _› with hx | hx <;> first | (simp [eq_of_beq hx]; done) | exact absurd (List.isEmpty_iff.1 hx) (by assumption) | exact absurd (eq_of_beq hx) (by assumption))⟩, ?_⟩; first | exact below_drewN' (Below.refl _ _) _ | exact (below_drewN' (Below.refl _ _) _).trans (hb1.mono (by simp)) | exact ((below_drewN' (Below.refl _ _) _).trans (hb1.mono (by simp))).trans (hb2.mono (by have := hb1.size; simpa using this)))
  all_goals refine (H5.out _ (((HEn.out _).below hb1).below hb2)).mono ?_
  all_goals rintro e w3 ⟨⟨z, v, rfl, hv⟩, hb3⟩
  all_goals have HN : Hid (amBad _ r u c true true true = false) := Lib.hid (by
    rw [HBAD.out]
    first
      | (simp [*]; done)
      | (have hy : decide (1 < (u.size : Int)) = false := (by simp; omega)
         first
           | (rw [hy]; simp [*]; done)
           | (have hx := (‹_ ∧ (r == [48, 46, 48, 48]) = false›).2
              rw [hy, hx]; simp [*]; done))
      | (have hx := (‹_ ∧ (r == [48, 46, 48, 48]) = false›).2
         rw [hx]; simp [*]; done))
  all_goals clear HBAD
  all_goals have hball : Below w'.heap.size w' w3 := ((((below_drewN' (Below.refl _ _) _).trans (hb1.mono (by simp)))).trans (hb2.mono (by have := hb1.size; simpa using this))).trans (hb3.mono (by have := hb1.size; have := hb2.size; simp at *; omega))
  all_goals clear hb1 hb2 hb3
  all_goals rcases hv with rfl | ⟨t, p, rfl⟩
  all_goals go_wp2_with fail
  all_goals try (go_ret2; refine ⟨⟨_, _, rfl, ?_⟩, hball⟩; rw [HN.out]; decide)
  all_goals refine (H6.out _ _).mono ?_
  all_goals rintro e w4 ⟨⟨n1, y, rfl, hy⟩, rfl⟩
  all_goals have HY := Lib.hid hy
  all_goals clear hy
  all_goals go_wp2_with fail
  all_goals go_ret2
  all_goals refine ⟨⟨_, y, rfl, ?_⟩, hball⟩
  all_goals rw [HN.out]
  all_goals simp [HY.out]

end Go.Proofs.YtadhhknhfipihaaDoor
