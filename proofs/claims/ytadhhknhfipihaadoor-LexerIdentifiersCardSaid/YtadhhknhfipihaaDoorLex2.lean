/-
  THE LEXER's PREDICATES OF TOKEN TEXTS: all, whole, date, decimal, and the literals of the table of kinds.
-/
import Derived.Test.YtadhhknhfipihaaDoorLex1
namespace Go.Proofs.YtadhhknhfipihaaDoor
open Go.RowKit Go.Lib

theorem lx_empty_iff (s : ByteArray) : s.data.toList.isEmpty = s.toList.isEmpty := by rw [Lib.toList_data]

set_option maxHeartbeats 400000 in
theorem lx_all (g : Nat) (p : Int → Bool) (hg : LxClass g p) (s : ByteArray) (w : World) (hs : s.size ≤ 9223372036854775807) :
    Calls Tryd.prog 113 #[.string s, .func (.func g) #[] #[]] w fun e w' => e = .returned (.bool (Lx.all p s.data.toList)) ∧ w = w' := by
  have hrun := fun W => lx_run g p hg s W hs
  have hle := Lx.run_le p s.data.toList
  go_enter Tryd.func113, Tryd.ntmps113
  go_wp2_with (go_at_call 34; refine (hrun _).mono ?_; rintro e w' ⟨rfl, rfl⟩)
  all_goals go_ret
  all_goals refine ⟨lx_ret ?_, rfl⟩
  · rename_i h
    rw [Lx.all_eq, lx_empty_iff, h]; simp
  · rw [Lx.all_eq, lx_empty_iff, ← Lib.size_eq]; simp; omega

set_option maxHeartbeats 400000 in
theorem lx_whole (s : ByteArray) (w : World) (hs : s.size ≤ 9223372036854775807) :
    Calls Tryd.prog 110 #[.string s] w fun e w' => e = .returned (.bool (Lx.whole s.data.toList)) ∧ w = w' := by
  have hall := fun W => lx_all 119 Lx.digit lx_class_digit s W hs
  have hne : Hid (Lx.all Lx.digit s.data.toList = true → 0 < s.size) := fun h => by
    rw [Lx.all_eq] at h
    simp only [Bool.and_eq_true] at h
    have := h.1
    rw [Lib.size_eq]
    cases hl : s.data.toList with
    | nil => rw [hl] at this; simp at this
    | cons a l => simp
  by_cases ha : Lx.all Lx.digit s.data.toList = true
  · have hpos := hne.out ha
    clear hne
    rw [ha] at hall
    have HA := Lib.hid ha
    clear ha
    go_enter Tryd.func110, Tryd.ntmps110
    go_wp2_with (go_at_call 113; refine (hall _).mono ?_; rintro e w' ⟨rfl, rfl⟩)
    all_goals go_ret
    all_goals refine ⟨lx_ret ?_, rfl⟩
    · rename_i h
      rw [Lx.whole, HA.out, ← Lib.size_eq]
      have : s.size = 1 := by omega
      simp [this]
    · have h0 : s.data.toList.head? = some s[0] := by
        rw [List.head?_eq_getElem?, Array.getElem?_toList]
        exact Array.getElem?_eq_getElem hpos
      rw [Lx.whole, HA.out, ← Lib.size_eq, h0]
      have e48 : ((s[0].toNat : Int) != 48) = !(s[0] == 48) := by
        rw [Bool.eq_iff_iff]
        simp only [bne_iff_ne, Bool.not_eq_true', beq_eq_false_iff_ne, ne_eq]
        rw [← UInt8.toNat_inj]
        show ¬ ((s[0].toNat : Int) = 48) ↔ ¬ (s[0].toNat = 48)
        omega
      rw [e48]
      have e1 : ((s.size : Int) == 1) = (s.size == 1) := by rw [Bool.eq_iff_iff]; simp; omega
      rw [e1]
      simp
  · rw [Bool.not_eq_true] at ha
    rw [ha] at hall
    have HA := Lib.hid ha
    clear ha hne
    go_enter Tryd.func110, Tryd.ntmps110
    go_wp2_with (go_at_call 113; refine (hall _).mono ?_; rintro e w' ⟨rfl, rfl⟩)
    go_ret
    exact ⟨by rw [Lx.whole, HA.out]; rfl, rfl⟩

/-- What is asked of a predicate of texts in the table of kinds: at every text that Classify tries. -/
def LxKind (E : World → Prop) (g : Nat) (p : ByteArray → Bool) : Prop :=
  ∀ (s : ByteArray) (w : World), s.size ≤ 32 → E w → Calls Tryd.prog g #[.string s] w fun e w' => e = .returned (.bool (p s)) ∧ Below w.heap.size w w'

set_option maxHeartbeats 400000 in
theorem lx_number (s : ByteArray) (w : World) (hs : s.size ≤ 9223372036854775807) :
    Calls Tryd.prog 109 #[.string s] w fun e w' => e = .returned (.bool (Lx.whole s.data.toList && decide (s.size ≤ 16))) ∧ w = w' := by
  have hall := fun W => lx_whole s W hs
  go_enter Tryd.func109, Tryd.ntmps109
  go_wp2_with (go_at_call 110; refine (hall _).mono ?_; rintro e w' ⟨rfl, rfl⟩)
  all_goals go_ret
  all_goals refine ⟨lx_ret ?_, rfl⟩
  all_goals first | (simp [*]; done) | (simp [*]; omega)

set_option maxHeartbeats 400000 in
theorem lx_name (s : ByteArray) (w : World) (hs : s.size ≤ 9223372036854775807) :
    Calls Tryd.prog 112 #[.string s] w fun e w' => e = .returned (.bool (Lx.all Lx.named s.data.toList)) ∧ w = w' := by
  have hall := fun W => lx_all _ _ lx_class_named s W hs
  go_enter Tryd.func112, Tryd.ntmps112
  go_wp2_with (go_at_call 113; refine (hall _).mono ?_; rintro e w' ⟨rfl, rfl⟩)
  go_ret
  exact ⟨rfl, rfl⟩

set_option maxHeartbeats 400000 in
theorem lx_word (s : ByteArray) (w : World) (hs : s.size ≤ 9223372036854775807) :
    Calls Tryd.prog 115 #[.string s] w fun e w' => e = .returned (.bool (Lx.all Lx.lower s.data.toList)) ∧ w = w' := by
  have hall := fun W => lx_all _ _ lx_class_lower s W hs
  go_enter Tryd.func115, Tryd.ntmps115
  go_wp2_with (go_at_call 113; refine (hall _).mono ?_; rintro e w' ⟨rfl, rfl⟩)
  go_ret
  exact ⟨rfl, rfl⟩

set_option maxHeartbeats 400000 in
theorem lx_notdigits (s : ByteArray) (w : World) (hs : s.size ≤ 9223372036854775807) :
    Calls Tryd.prog 118 #[.string s] w fun e w' => e = .returned (.bool (!Lx.all Lx.digit s.data.toList)) ∧ w = w' := by
  have hall := fun W => lx_all _ _ lx_class_digit s W hs
  go_enter Tryd.func118, Tryd.ntmps118
  go_wp2_with (go_at_call 113; refine (hall _).mono ?_; rintro e w' ⟨rfl, rfl⟩)
  go_ret
  exact ⟨rfl, rfl⟩

end Go.Proofs.YtadhhknhfipihaaDoor
