/-
  THE LEXER's PREDICATES decimal AND date.
-/
import Derived.Test.YtadhhknhfipihaaDoorLex2
import Derived.Deep.Draws
import Derived.Lib.CutLaws
namespace Go.Proofs.YtadhhknhfipihaaDoor
open Go.RowKit Go.Lib

theorem lx_cut_le (l sep : List UInt8) : (Lib.cut l sep).1.length ≤ l.length ∧ (Lib.cut l sep).2.1.length ≤ l.length := by
  unfold Lib.cut
  split
  · simp [List.length_take, List.length_drop]; omega
  · simp
theorem lx_trimPrefix_le (l p : List UInt8) : (Lib.trimPrefix l p).length ≤ l.length := by
  unfold Lib.trimPrefix
  split <;> simp

theorem lx_size_mk (l : List UInt8) : (ByteArray.mk l.toArray).size = l.length := by simp [ByteArray.size]

set_option maxHeartbeats 400000 in
theorem lx_decimal (s : ByteArray) (w : World) (m : Int) (hs : s.size ≤ 32) (hm : w.cell? ⟨2, 0, none⟩ = some (.int .i64 m)) :
    Calls Tryd.prog 111 #[.string s] w fun e w' => e = .returned (.bool (Lx.decimal s.data.toList)) ∧ ∃ n, w' = w.drewN n := by
  have h1 := fun W => Tryd.strings_TrimPrefix s ⟨#[45]⟩ W
  have hl1 : (Lib.trimPrefix s.data.toList [45]).length ≤ 32 := by have := lx_trimPrefix_le s.data.toList [45]; rw [Lib.size_eq] at hs; omega
  have h2 := Tryd.strings_Cut ⟨(Lib.trimPrefix s.data.toList [45]).toArray⟩ ⟨#[46]⟩ m w (by rw [lx_size_mk]; omega) hm
  have hl2 := (lx_cut_le (Lib.trimPrefix s.data.toList [45]) [46]).1
  have hl3 := (lx_cut_le (Lib.trimPrefix s.data.toList [45]) [46]).2
  simp only at h1 h2
  have HD : Hid (Lx.decimal s.data.toList = ((Lib.cut (Lib.trimPrefix s.data.toList [45]) [46]).2.2 && Lx.whole (Lib.cut (Lib.trimPrefix s.data.toList [45]) [46]).1 &&
    decide ((Lib.cut (Lib.trimPrefix s.data.toList [45]) [46]).2.1.length = 2) && Lx.all Lx.digit (Lib.cut (Lib.trimPrefix s.data.toList [45]) [46]).2.1 && !(s.data.toList == [45, 48, 46, 48, 48]))) := rfl
  generalize (Lib.cut (Lib.trimPrefix s.data.toList [45]) [46]).1 = u at *
  generalize (Lib.cut (Lib.trimPrefix s.data.toList [45]) [46]).2.1 = c at *
  generalize (Lib.cut (Lib.trimPrefix s.data.toList [45]) [46]).2.2 = b at *
  generalize Lib.trimPrefix s.data.toList [45] = r at *
  have h3 := fun W => lx_whole ⟨u.toArray⟩ W (by rw [lx_size_mk]; omega)
  have h4 := fun W => lx_all _ _ lx_class_digit ⟨c.toArray⟩ W (by rw [lx_size_mk]; omega)
  simp only at h3 h4
  clear hm
  go_enter Tryd.func111, Tryd.ntmps111
  go_wp2_with (first | (go_at_call 120; refine (h1 _).mono ?_; rintro e w' ⟨rfl, rfl⟩) | (go_at_call 19; refine h2.mono ?_; rintro e w' ⟨rfl, n, rfl⟩) | (go_at_call 110; refine (h3 _).mono ?_; rintro e w' ⟨rfl, rfl⟩) | (go_at_call 113; refine (h4 _).mono ?_; rintro e w' ⟨rfl, rfl⟩))
  all_goals go_ret
  all_goals refine ⟨lx_ret ?_, _, rfl⟩
  all_goals rw [HD.out]
  all_goals clear HD h1 h2 h3 h4
  all_goals first | (simp [*]; done) | (simp [*, Lib.toList_data]; done) | ((have e2 : ¬ c.length = 2 := by omega); simp [e2]; done) | ((have e2 : c.length = 2 := by omega); simp [*, Lib.toList_data]; done)

/-- A text within the bound, for the predicate that ContainsFunc is given. -/
abbrev LxShort := { x : ByteArray // x.size ≤ 9223372036854775807 }
instance lx_short : Inhabited LxShort := ⟨⟨ByteArray.empty, by decide⟩⟩

theorem lx_notdigits_at (w : World) : PredAt Tryd.prog 118 #[] (fun x : LxShort => .string x.1) (fun x => !Lx.all Lx.digit x.1.data.toList) w := fun W x _ => by
  refine Calls.mono (lx_notdigits x.1 W x.2) ?_
  rintro e w' ⟨rfl, rfl⟩
  exact ⟨rfl, 0, rfl⟩

theorem lx_pieces_le (k : Nat) : ∀ (s : ByteArray), ∀ p ∈ Lib.splitB ⟨#[45]⟩ 0 k s, p.size ≤ s.size := by
  induction k with
  | zero => intro s p hp; simp [Lib.splitB] at hp; subst hp; exact Nat.le_refl _
  | succ k ih =>
    intro s p hp
    unfold Lib.splitB at hp
    split at hp
    · simp at hp; subst hp; exact Nat.le_refl _
    · rcases List.mem_cons.1 hp with rfl | hp
      · simp [ByteArray.size_extract]; omega
      · have := ih _ p hp
        simp [ByteArray.size_extract] at this; omega

set_option maxHeartbeats 1000000 in
theorem lx_date (s : ByteArray) (w : World) (m : Int) (hs : s.size ≤ 32) (hm : w.cell? ⟨2, 0, none⟩ = some (.int .i64 m)) :
    Calls Tryd.prog 108 #[.string s] w fun e w' => e = .returned (.bool (Lx.date s)) ∧ Below w.heap.size w w' := by
  have h1 := Tryd.strings_Split s ⟨#[45]⟩ m w (by omega) hm (by decide)
  have hlen : (Lx.pieces s).length = Lib.countB s ⟨#[45]⟩ + 1 := Lib.splitB_all ⟨#[45]⟩ (by decide) 0 _ s rfl
  have hle := lx_pieces_le (Lib.countB s ⟨#[45]⟩) s
  have HD : Hid (Lx.date s = (decide (s.size = 10) && decide ((Lx.pieces s).length = 3) && decide (((Lx.pieces s)[0]?.map (·.size)).getD 0 = 4) && decide (((Lx.pieces s)[1]?.map (·.size)).getD 0 = 2) &&
    (Lx.pieces s).all fun p => Lx.all Lx.digit p.data.toList)) := rfl
  change ∀ p ∈ Lx.pieces s, _ at hle
  simp only [show Lib.splitB ⟨#[45]⟩ 0 (Lib.countB s ⟨#[45]⟩) s = Lx.pieces s from rfl] at h1
  rw [← hlen] at h1
  clear hlen hm
  generalize Lx.pieces s = ps at *
  by_cases h10 : s.size = 10
  · by_cases h3 : ps.length = 3
    · match ps, h3 with
      | [a, b, c], _ =>
        have ha := hle a (by simp)
        have hb := hle b (by simp)
        have hc := hle c (by simp)
        have hC := fun W => Tryd.slices_ContainsFunc (fun x : LxShort => .string x.1) (fun x => !Lx.all Lx.digit x.1.data.toList) 118 #[] (enters_of Tryd.func118 (by kernel_rfl) rfl) w.heap.size 0 3 3
          [⟨a, by omega⟩, ⟨b, by omega⟩, ⟨c, by omega⟩] W (lx_notdigits_at W) (by simp) (by omega)
        clear hle
        go_enter Tryd.func108, Tryd.ntmps108
        go_wp2_with (first | (go_at_call 11; refine h1.mono ?_; rintro e w' ⟨rfl, rfl⟩) | (go_at_call 117; refine (hC _ (by intro j hj; match j, hj with | 0, _ => simp | 1, _ => simp | 2, _ => simp)).mono ?_; rintro e w' ⟨rfl, q, rfl⟩))
        all_goals go_ret
        all_goals refine ⟨lx_ret ?_, (by first | exact below_drewN' ((Below.refl _ w).alloc (Nat.le_refl _) _) _ | exact (Below.refl _ w).alloc (Nat.le_refl _) _)⟩
        all_goals rw [HD.out]
        all_goals clear HD h1 hC
        · have ea : a.size = 4 := by omega
          have eb : b.size = 2 := by omega
          simp [h10, ea, eb]
        · have eb : ¬ b.size = 2 := by omega
          simp [eb]
        · have ea : ¬ a.size = 4 := by omega
          simp [ea]
    · go_enter Tryd.func108, Tryd.ntmps108
      go_wp2_with (first | (go_at_call 11; refine h1.mono ?_; rintro e w' ⟨rfl, rfl⟩))
      all_goals go_ret
      all_goals refine ⟨lx_ret ?_, (Below.refl _ w).alloc (Nat.le_refl _) _⟩
      all_goals rw [HD.out]
      all_goals simp [h3]
  · go_enter Tryd.func108, Tryd.ntmps108
    go_wp2_with (first | (go_at_call 11; refine h1.mono ?_; rintro e w' ⟨rfl, rfl⟩))
    all_goals go_ret
    all_goals refine ⟨lx_ret ?_, (Below.refl _ w).alloc (Nat.le_refl _) _⟩
    all_goals rw [HD.out]
    all_goals simp [h10]

end Go.Proofs.YtadhhknhfipihaaDoor
