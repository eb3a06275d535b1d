/-
  THE LEXER's SMALL FUNCTIONS: classes of bytes, run, all, whole, and the kinds that only look at bytes.
  THE LEXER's PREDICATES OF TOKEN TEXTS: all, whole, date, decimal, and the literals of the table of kinds.
  THE LEXER's PREDICATES decimal AND date.
  WHAT THE WORLD HOLDS OF PACKAGE-LEVEL VARIABLES FOR THE LEXER, AND Classify.
  uncomment AND Tokenize.
  Tokens in memory.
-/
import Derived.Test.YthijakidnkhbnaaGreatDoorLexPlain
import Derived.Test.YthijakidnkhbnaaGreatDoorProg
import Derived.Test.YthijakidnkhbnaaGreatDoorShelf
import Derived.WalkKit
import Derived.WalkSpells
import Derived.WalkLawsBesides
import Derived.Shelf.GgClosure.Gives
import Derived.Deep.Draws
import Derived.Lib.CutLaws
import Derived.Laws.EntriesVeiled
import Derived.Deep.RegionWith

namespace Go.Proofs.YthijakidnkhbnaaGreatDoor
open Go.RowKit Go.Lib

/-- What is asked of a class of bytes that is handed on as a function value. -/
def LxClass (g : Nat) (p : Int → Bool) : Prop :=
  (∀ args w, (callFunc g args).run Tryz.prog w = .ok (.enter g args) w) ∧
  ∀ (c : Int) (w : World), 0 ≤ c → c < 256 → Calls Tryz.prog g #[.int .u8 c] w fun e w' => e = .returned (.bool (p c)) ∧ w = w'

theorem lx_ret {a b : Bool} (h : a = true ↔ b = true) : Ending.returned (.bool a) = .returned (.bool b) := by
  rw [Bool.eq_iff_iff.2 h]
theorem lx_retInt {a b : Int} (h : a = b) : Ending.returned (.int .i64 a) = .returned (.int .i64 b) := by
  rw [h]

set_option maxHeartbeats 400000 in
theorem lx_digit (c : Int) (w : World) :
    Calls Tryz.prog 252 #[.int .u8 c] w fun e w' => e = .returned (.bool (Lx.digit c)) ∧ w = w' := by
  go_enter Tryz.func252, Tryz.ntmps252
  go_wp2
  all_goals go_ret
  all_goals exact ⟨lx_ret (by simp [Lx.digit]; omega), rfl⟩

set_option maxHeartbeats 400000 in
theorem lx_lower (c : Int) (w : World) :
    Calls Tryz.prog 249 #[.int .u8 c] w fun e w' => e = .returned (.bool (Lx.lower c)) ∧ w = w' := by
  go_enter Tryz.func249, Tryz.ntmps249
  go_wp2
  all_goals go_ret
  all_goals exact ⟨lx_ret (by simp [Lx.lower]; omega), rfl⟩

set_option maxHeartbeats 400000 in
theorem lx_named (c : Int) (w : World) :
    Calls Tryz.prog 247 #[.int .u8 c] w fun e w' => e = .returned (.bool (Lx.named c)) ∧ w = w' := by
  go_enter Tryz.func247, Tryz.ntmps247
  go_wp2
  all_goals go_ret
  all_goals exact ⟨lx_ret (by simp [Lx.named, Lx.upper, Lx.digit]; omega), rfl⟩

theorem lx_indexByte (c : Int) (h0 : 0 ≤ c) (h1 : c < 256) : (0 ≤ Lib.indexByte [32, 9] c.toNat.toUInt8) ↔ Lx.blank c = true := by
  obtain ⟨n, rfl⟩ := Int.eq_ofNat_of_zero_le h0
  have hn : n < 256 := by omega
  simp only [Int.toNat_natCast]
  have key : ∀ n : Fin 256, (0 ≤ Lib.indexByte [32, 9] n.val.toUInt8) ↔ Lx.blank (n.val : Int) = true := by decide +kernel
  exact key ⟨n, hn⟩

set_option maxHeartbeats 400000 in
theorem lx_blank (c : Int) (w : World) (h0 : 0 ≤ c) (h1 : c < 256) :
    Calls Tryz.prog 50 #[.int .u8 c] w fun e w' => e = .returned (.bool (Lx.blank c)) ∧ w = w' := by
  go_enter Tryz.func50, Tryz.ntmps50
  go_wp2_with (go_at_call 87; refine (Tryz.strings_IndexByte _ _ _).mono ?_; rintro e w' ⟨rfl, rfl⟩)
  all_goals go_ret
  all_goals exact ⟨lx_ret (by simpa using lx_indexByte c h0 h1), rfl⟩

set_option maxHeartbeats 400000 in
theorem lx_notblank (c : Int) (w : World) (h0 : 0 ≤ c) (h1 : c < 256) :
    Calls Tryz.prog 51 #[.int .u8 c] w fun e w' => e = .returned (.bool (!Lx.blank c)) ∧ w = w' := by
  go_enter Tryz.func51, Tryz.ntmps51
  go_wp2_with (go_at_call 50; refine (lx_blank _ _ h0 h1).mono ?_; rintro e w' ⟨rfl, rfl⟩)
  all_goals go_ret
  all_goals exact ⟨rfl, rfl⟩

theorem lx_class_digit : LxClass 252 Lx.digit := ⟨enters_of Tryz.func252 (by kernel_rfl) rfl, fun c w _ _ => lx_digit c w⟩
theorem lx_class_lower : LxClass 249 Lx.lower := ⟨enters_of Tryz.func249 (by kernel_rfl) rfl, fun c w _ _ => lx_lower c w⟩
theorem lx_class_named : LxClass 247 Lx.named := ⟨enters_of Tryz.func247 (by kernel_rfl) rfl, fun c w _ _ => lx_named c w⟩
theorem lx_class_blank : LxClass 50 Lx.blank := ⟨enters_of Tryz.func50 (by kernel_rfl) rfl, fun c w h0 h1 => lx_blank c w h0 h1⟩
theorem lx_class_notblank : LxClass 51 (fun c => !Lx.blank c) := ⟨enters_of Tryz.func51 (by kernel_rfl) rfl, fun c w h0 h1 => lx_notblank c w h0 h1⟩

/-- run: the length of the longest prefix of a class -/
theorem lx_run (g : Nat) (p : Int → Bool) (hg : LxClass g p) (s : ByteArray) (w : World) (hs : s.size ≤ 9223372036854775807) :
    Calls Tryz.prog 49 #[.string s, .func (.func g) #[] #[]] w fun e w' => e = .returned (.int .i64 (Lx.run p s.data.toList)) ∧ w = w' := by
  obtain ⟨eg, hp⟩ := hg
  have hle := Lx.run_le p s.data.toList
  have hlen : s.data.toList.length = s.size := by simp
  have HB : Hid (∀ k, k < Lx.run p s.data.toList → (h : k < s.size) → p (s[k].toNat : Int) = true) := fun k hk h => by
    have := Lx.run_before p s.data.toList k hk (by rw [hlen]; exact h)
    simp only [Array.getElem_toList] at this; exact this
  have HA : Hid ((h : Lx.run p s.data.toList < s.size) → p (s[Lx.run p s.data.toList].toNat : Int) = false) := fun h => by
    have := Lx.run_at p s.data.toList (by rw [hlen]; exact h)
    simp only [Array.getElem_toList] at this; exact this
  rw [hlen] at hle
  clear hlen
  generalize hm : Lx.run p s.data.toList = m at *
  clear hm
  go_enter Tryz.func49, Tryz.ntmps49
  go_wp2
  go_loop [5] (fun i => ∃ k : Nat, k ≤ m ∧ i = .int .i64 k) (fun i => s.size - (RowKit.intOf i).toNat)
  case atStart => exact ⟨0, Nat.zero_le _, rfl⟩
  case round =>
    obtain ⟨k, hk, rfl⟩ := hrel
    by_cases hlt : k < s.size
    · have hc0 : (0 : Int) ≤ (s[k].toNat : Int) := by omega
      have hc1 : (s[k].toNat : Int) < 256 := by have := s[k].toNat_lt; omega
      have hcall := fun W => hp (s[k].toNat : Int) W hc0 hc1
      by_cases hkm : k < m
      · rw [HB.out k hkm hlt] at hcall
        go_wp2_with (go_at_fn g; refine (hcall _).mono ?_; rintro e w' ⟨rfl, rfl⟩)
        go_round
        case rel => exact ⟨k + 1, by omega, by go_num⟩
        case measure => simp [RowKit.intOf]; omega
      · obtain rfl : k = m := by omega
        rw [HA.out hlt] at hcall
        go_wp2_with (go_at_fn g; refine (hcall _).mono ?_; rintro e w' ⟨rfl, rfl⟩)
        go_ret
        exact ⟨rfl, rfl⟩
    · obtain rfl : k = m := by omega
      go_wp2
      go_ret
      exact ⟨rfl, rfl⟩

end Go.Proofs.YthijakidnkhbnaaGreatDoor

namespace Go.Proofs.YthijakidnkhbnaaGreatDoor
open Go.RowKit Go.Lib

theorem lx_empty_iff (s : ByteArray) : s.data.toList.isEmpty = s.toList.isEmpty := by rw [Lib.toList_data]

set_option maxHeartbeats 400000 in
theorem lx_all (g : Nat) (p : Int → Bool) (hg : LxClass g p) (s : ByteArray) (w : World) (hs : s.size ≤ 9223372036854775807) :
    Calls Tryz.prog 246 #[.string s, .func (.func g) #[] #[]] w fun e w' => e = .returned (.bool (Lx.all p s.data.toList)) ∧ w = w' := by
  have hrun := fun W => lx_run g p hg s W hs
  have hle := Lx.run_le p s.data.toList
  go_enter Tryz.func246, Tryz.ntmps246
  go_wp2_with (go_at_call 49; refine (hrun _).mono ?_; rintro e w' ⟨rfl, rfl⟩)
  all_goals go_ret
  all_goals refine ⟨lx_ret ?_, rfl⟩
  · rename_i h
    rw [Lx.all_eq, lx_empty_iff, h]; simp
  · rw [Lx.all_eq, lx_empty_iff, ← Lib.size_eq]; simp; omega

set_option maxHeartbeats 400000 in
theorem lx_whole (s : ByteArray) (w : World) (hs : s.size ≤ 9223372036854775807) :
    Calls Tryz.prog 243 #[.string s] w fun e w' => e = .returned (.bool (Lx.whole s.data.toList)) ∧ w = w' := by
  have hall := fun W => lx_all 252 Lx.digit lx_class_digit s W hs
  have hne : Hid (Lx.all Lx.digit s.data.toList = true → 0 < s.size) := fun h => by
    rw [Lx.all_eq] at h
    simp only [Bool.and_eq_true] at h
    have := h.1
    rw [Lib.size_eq]
    cases hl : s.data.toList with
    | nil => rw [hl] at this; simp at this
    | cons a l => simp
  by_cases ha : Lx.all Lx.digit s.data.toList = true
  · have hpos := hne.out ha
    clear hne
    rw [ha] at hall
    have HA := Lib.hid ha
    clear ha
    go_enter Tryz.func243, Tryz.ntmps243
    go_wp2_with (go_at_call 246; refine (hall _).mono ?_; rintro e w' ⟨rfl, rfl⟩)
    all_goals go_ret
    all_goals refine ⟨lx_ret ?_, rfl⟩
    · rename_i h
      rw [Lx.whole, HA.out, ← Lib.size_eq]
      have : s.size = 1 := by omega
      simp [this]
    · have h0 : s.data.toList.head? = some s[0] := by
        rw [List.head?_eq_getElem?, Array.getElem?_toList]
        exact Array.getElem?_eq_getElem hpos
      rw [Lx.whole, HA.out, ← Lib.size_eq, h0]
      have e48 : ((s[0].toNat : Int) != 48) = !(s[0] == 48) := by
        rw [Bool.eq_iff_iff]
        simp only [bne_iff_ne, Bool.not_eq_true', beq_eq_false_iff_ne, ne_eq]
        rw [← UInt8.toNat_inj]
        show ¬ ((s[0].toNat : Int) = 48) ↔ ¬ (s[0].toNat = 48)
        omega
      rw [e48]
      have e1 : ((s.size : Int) == 1) = (s.size == 1) := by rw [Bool.eq_iff_iff]; simp; omega
      rw [e1]
      simp
  · rw [Bool.not_eq_true] at ha
    rw [ha] at hall
    have HA := Lib.hid ha
    clear ha hne
    go_enter Tryz.func243, Tryz.ntmps243
    go_wp2_with (go_at_call 246; refine (hall _).mono ?_; rintro e w' ⟨rfl, rfl⟩)
    go_ret
    exact ⟨by rw [Lx.whole, HA.out]; rfl, rfl⟩

/-- What is asked of a predicate of texts in the table of kinds: at every text that Classify tries. -/
def LxKind (E : World → Prop) (g : Nat) (p : ByteArray → Bool) : Prop :=
  ∀ (s : ByteArray) (w : World), s.size ≤ 32 → E w → Calls Tryz.prog g #[.string s] w fun e w' => e = .returned (.bool (p s)) ∧ Below w.heap.size w w'

set_option maxHeartbeats 400000 in
theorem lx_number (s : ByteArray) (w : World) (hs : s.size ≤ 9223372036854775807) :
    Calls Tryz.prog 242 #[.string s] w fun e w' => e = .returned (.bool (Lx.whole s.data.toList && decide (s.size ≤ 16))) ∧ w = w' := by
  have hall := fun W => lx_whole s W hs
  go_enter Tryz.func242, Tryz.ntmps242
  go_wp2_with (go_at_call 243; refine (hall _).mono ?_; rintro e w' ⟨rfl, rfl⟩)
  all_goals go_ret
  all_goals refine ⟨lx_ret ?_, rfl⟩
  all_goals first | (simp [*]; done) | (simp [*]; omega)

set_option maxHeartbeats 400000 in
theorem lx_name (s : ByteArray) (w : World) (hs : s.size ≤ 9223372036854775807) :
    Calls Tryz.prog 245 #[.string s] w fun e w' => e = .returned (.bool (Lx.all Lx.named s.data.toList)) ∧ w = w' := by
  have hall := fun W => lx_all _ _ lx_class_named s W hs
  go_enter Tryz.func245, Tryz.ntmps245
  go_wp2_with (go_at_call 246; refine (hall _).mono ?_; rintro e w' ⟨rfl, rfl⟩)
  go_ret
  exact ⟨rfl, rfl⟩

set_option maxHeartbeats 400000 in
theorem lx_word (s : ByteArray) (w : World) (hs : s.size ≤ 9223372036854775807) :
    Calls Tryz.prog 248 #[.string s] w fun e w' => e = .returned (.bool (Lx.all Lx.lower s.data.toList)) ∧ w = w' := by
  have hall := fun W => lx_all _ _ lx_class_lower s W hs
  go_enter Tryz.func248, Tryz.ntmps248
  go_wp2_with (go_at_call 246; refine (hall _).mono ?_; rintro e w' ⟨rfl, rfl⟩)
  go_ret
  exact ⟨rfl, rfl⟩

set_option maxHeartbeats 400000 in
theorem lx_notdigits (s : ByteArray) (w : World) (hs : s.size ≤ 9223372036854775807) :
    Calls Tryz.prog 251 #[.string s] w fun e w' => e = .returned (.bool (!Lx.all Lx.digit s.data.toList)) ∧ w = w' := by
  have hall := fun W => lx_all _ _ lx_class_digit s W hs
  go_enter Tryz.func251, Tryz.ntmps251
  go_wp2_with (go_at_call 246; refine (hall _).mono ?_; rintro e w' ⟨rfl, rfl⟩)
  go_ret
  exact ⟨rfl, rfl⟩

end Go.Proofs.YthijakidnkhbnaaGreatDoor

namespace Go.Proofs.YthijakidnkhbnaaGreatDoor
open Go.RowKit Go.Lib

theorem lx_cut_le (l sep : List UInt8) : (Lib.cut l sep).1.length ≤ l.length ∧ (Lib.cut l sep).2.1.length ≤ l.length := by
  unfold Lib.cut
  split
  · simp [List.length_take, List.length_drop]; omega
  · simp
theorem lx_trimPrefix_le (l p : List UInt8) : (Lib.trimPrefix l p).length ≤ l.length := by
  unfold Lib.trimPrefix
  split <;> simp

theorem lx_size_mk (l : List UInt8) : (ByteArray.mk l.toArray).size = l.length := by simp [ByteArray.size]

set_option maxHeartbeats 400000 in
theorem lx_decimal (s : ByteArray) (w : World) (m : Int) (hs : s.size ≤ 32) (hm : w.cell? ⟨2, 0, none⟩ = some (.int .i64 m)) :
    Calls Tryz.prog 244 #[.string s] w fun e w' => e = .returned (.bool (Lx.decimal s.data.toList)) ∧ ∃ n, w' = w.drewN n := by
  have h1 := fun W => Tryz.strings_TrimPrefix s ⟨#[45]⟩ W
  have hl1 : (Lib.trimPrefix s.data.toList [45]).length ≤ 32 := by have := lx_trimPrefix_le s.data.toList [45]; rw [Lib.size_eq] at hs; omega
  have h2 := Tryz.strings_Cut ⟨(Lib.trimPrefix s.data.toList [45]).toArray⟩ ⟨#[46]⟩ m w (by rw [lx_size_mk]; omega) hm
  have hl2 := (lx_cut_le (Lib.trimPrefix s.data.toList [45]) [46]).1
  have hl3 := (lx_cut_le (Lib.trimPrefix s.data.toList [45]) [46]).2
  simp only at h1 h2
  have HD : Hid (Lx.decimal s.data.toList = ((Lib.cut (Lib.trimPrefix s.data.toList [45]) [46]).2.2 && Lx.whole (Lib.cut (Lib.trimPrefix s.data.toList [45]) [46]).1 &&
    decide ((Lib.cut (Lib.trimPrefix s.data.toList [45]) [46]).2.1.length = 2) && Lx.all Lx.digit (Lib.cut (Lib.trimPrefix s.data.toList [45]) [46]).2.1 && !(s.data.toList == [45, 48, 46, 48, 48]))) := rfl
  generalize (Lib.cut (Lib.trimPrefix s.data.toList [45]) [46]).1 = u at *
  generalize (Lib.cut (Lib.trimPrefix s.data.toList [45]) [46]).2.1 = c at *
  generalize (Lib.cut (Lib.trimPrefix s.data.toList [45]) [46]).2.2 = b at *
  generalize Lib.trimPrefix s.data.toList [45] = r at *
  have h3 := fun W => lx_whole ⟨u.toArray⟩ W (by rw [lx_size_mk]; omega)
  have h4 := fun W => lx_all _ _ lx_class_digit ⟨c.toArray⟩ W (by rw [lx_size_mk]; omega)
  simp only at h3 h4
  clear hm
  go_enter Tryz.func244, Tryz.ntmps244
  go_wp2_with (first | (go_at_call 253; refine (h1 _).mono ?_; rintro e w' ⟨rfl, rfl⟩) | (go_at_call 177; refine h2.mono ?_; rintro e w' ⟨rfl, n, rfl⟩) | (go_at_call 243; refine (h3 _).mono ?_; rintro e w' ⟨rfl, rfl⟩) | (go_at_call 246; refine (h4 _).mono ?_; rintro e w' ⟨rfl, rfl⟩))
  all_goals go_ret
  all_goals refine ⟨lx_ret ?_, _, rfl⟩
  all_goals rw [HD.out]
  all_goals clear HD h1 h2 h3 h4
  all_goals first | (simp [*]; done) | (simp [*, Lib.toList_data]; done) | ((have e2 : ¬ c.length = 2 := by omega); simp [e2]; done) | ((have e2 : c.length = 2 := by omega); simp [*, Lib.toList_data]; done)

/-- A text within the bound, for the predicate that ContainsFunc is given. -/
abbrev LxShort := { x : ByteArray // x.size ≤ 9223372036854775807 }
instance lx_short : Inhabited LxShort := ⟨⟨ByteArray.empty, by decide⟩⟩

theorem lx_notdigits_at (w : World) : PredAt Tryz.prog 251 #[] (fun x : LxShort => .string x.1) (fun x => !Lx.all Lx.digit x.1.data.toList) w := fun W x _ => by
  refine Calls.mono (lx_notdigits x.1 W x.2) ?_
  rintro e w' ⟨rfl, rfl⟩
  exact ⟨rfl, 0, rfl⟩

theorem lx_pieces_le (k : Nat) : ∀ (s : ByteArray), ∀ p ∈ Lib.splitB ⟨#[45]⟩ 0 k s, p.size ≤ s.size := by
  induction k with
  | zero => intro s p hp; simp [Lib.splitB] at hp; subst hp; exact Nat.le_refl _
  | succ k ih =>
    intro s p hp
    unfold Lib.splitB at hp
    split at hp
    · simp at hp; subst hp; exact Nat.le_refl _
    · rcases List.mem_cons.1 hp with rfl | hp
      · simp [ByteArray.size_extract]; omega
      · have := ih _ p hp
        simp [ByteArray.size_extract] at this; omega

set_option maxHeartbeats 1000000 in
theorem lx_date (s : ByteArray) (w : World) (m : Int) (hs : s.size ≤ 32) (hm : w.cell? ⟨2, 0, none⟩ = some (.int .i64 m)) :
    Calls Tryz.prog 241 #[.string s] w fun e w' => e = .returned (.bool (Lx.date s)) ∧ Below w.heap.size w w' := by
  have h1 := Tryz.strings_Split s ⟨#[45]⟩ m w (by omega) hm (by decide)
  have hlen : (Lx.pieces s).length = Lib.countB s ⟨#[45]⟩ + 1 := Lib.splitB_all ⟨#[45]⟩ (by decide) 0 _ s rfl
  have hle := lx_pieces_le (Lib.countB s ⟨#[45]⟩) s
  have HD : Hid (Lx.date s = (decide (s.size = 10) && decide ((Lx.pieces s).length = 3) && decide (((Lx.pieces s)[0]?.map (·.size)).getD 0 = 4) && decide (((Lx.pieces s)[1]?.map (·.size)).getD 0 = 2) &&
    (Lx.pieces s).all fun p => Lx.all Lx.digit p.data.toList)) := rfl
  change ∀ p ∈ Lx.pieces s, _ at hle
  simp only [show Lib.splitB ⟨#[45]⟩ 0 (Lib.countB s ⟨#[45]⟩) s = Lx.pieces s from rfl] at h1
  rw [← hlen] at h1
  clear hlen hm
  generalize Lx.pieces s = ps at *
  by_cases h10 : s.size = 10
  · by_cases h3 : ps.length = 3
    · match ps, h3 with
      | [a, b, c], _ =>
        have ha := hle a (by simp)
        have hb := hle b (by simp)
        have hc := hle c (by simp)
        have hC := fun W => Tryz.slices_ContainsFunc (fun x : LxShort => .string x.1) (fun x => !Lx.all Lx.digit x.1.data.toList) 251 #[] (enters_of Tryz.func251 (by kernel_rfl) rfl) w.heap.size 0 3 3
          [⟨a, by omega⟩, ⟨b, by omega⟩, ⟨c, by omega⟩] W (lx_notdigits_at W) (by simp) (by omega)
        clear hle
        go_enter Tryz.func241, Tryz.ntmps241
        go_wp2_with (first | (go_at_call 84; refine h1.mono ?_; rintro e w' ⟨rfl, rfl⟩) | (go_at_call 250; refine (hC _ (by intro j hj; match j, hj with | 0, _ => simp | 1, _ => simp | 2, _ => simp)).mono ?_; rintro e w' ⟨rfl, q, rfl⟩))
        all_goals go_ret
        all_goals refine ⟨lx_ret ?_, (by first | exact below_drewN' ((Below.refl _ w).alloc (Nat.le_refl _) _) _ | exact (Below.refl _ w).alloc (Nat.le_refl _) _)⟩
        all_goals rw [HD.out]
        all_goals clear HD h1 hC
        · have ea : a.size = 4 := by omega
          have eb : b.size = 2 := by omega
          simp [h10, ea, eb]
        · have eb : ¬ b.size = 2 := by omega
          simp [eb]
        · have ea : ¬ a.size = 4 := by omega
          simp [ea]
    · go_enter Tryz.func241, Tryz.ntmps241
      go_wp2_with (first | (go_at_call 84; refine h1.mono ?_; rintro e w' ⟨rfl, rfl⟩))
      all_goals go_ret
      all_goals refine ⟨lx_ret ?_, (Below.refl _ w).alloc (Nat.le_refl _) _⟩
      all_goals rw [HD.out]
      all_goals simp [h3]
  · go_enter Tryz.func241, Tryz.ntmps241
    go_wp2_with (first | (go_at_call 84; refine h1.mono ?_; rintro e w' ⟨rfl, rfl⟩))
    all_goals go_ret
    all_goals refine ⟨lx_ret ?_, (Below.refl _ w).alloc (Nat.le_refl _) _⟩
    all_goals rw [HD.out]
    all_goals simp [h10]

end Go.Proofs.YthijakidnkhbnaaGreatDoor

namespace Go.Proofs.YthijakidnkhbnaaGreatDoor
open Go.RowKit Go.Lib

/-- MaxLen of bytealg, and the table of kinds. -/
structure LxEnv (m : Int) (kb ko kc : Nat) (W : World) : Prop where
  maxlen : W.cell? ⟨2, 0, none⟩ = some (.int .i64 m)
  kinds : W.cell? ⟨0, 0, none⟩ = some (.slice (some ⟨kb, ko, none⟩) 5 kc)
  n0 : W.cell? ⟨kb, ko + 0, none⟩ = some (.int .i64 4)
  f0 : W.cell? ⟨kb, ko + 1, none⟩ = some (.func (.func 241) #[] #[])
  n1 : W.cell? ⟨kb, ko + 2, none⟩ = some (.int .i64 2)
  f1 : W.cell? ⟨kb, ko + 3, none⟩ = some (.func (.func 242) #[] #[])
  n2 : W.cell? ⟨kb, ko + 4, none⟩ = some (.int .i64 3)
  f2 : W.cell? ⟨kb, ko + 5, none⟩ = some (.func (.func 244) #[] #[])
  n3 : W.cell? ⟨kb, ko + 6, none⟩ = some (.int .i64 1)
  f3 : W.cell? ⟨kb, ko + 7, none⟩ = some (.func (.func 245) #[] #[])
  n4 : W.cell? ⟨kb, ko + 8, none⟩ = some (.int .i64 0)
  f4 : W.cell? ⟨kb, ko + 9, none⟩ = some (.func (.func 248) #[] #[])

theorem lx_lt {W : World} {b o : Nat} {v : Value} (h : W.cell? ⟨b, o, none⟩ = some v) : b < W.heap.size := by
  rcases Nat.lt_or_ge b W.heap.size with h1 | h1
  · exact h1
  · exfalso
    simp only [World.cell?] at h
    rw [Array.getElem?_eq_none h1] at h
    cases h

theorem LxEnv.below {m : Int} {kb ko kc : Nat} {W W' : World} (h : LxEnv m kb ko kc W) (hb : Below W.heap.size W W') : LxEnv m kb ko kc W' := by
  have t : ∀ (p : Addr) (v : Value), W.cell? p = some v → p.spot = none → W'.cell? p = some v := fun p v hc hs => by
    obtain ⟨b, o, sp⟩ := p
    cases hs
    exact (hb.cell (p := ⟨b, o, none⟩) (lx_lt hc)).trans hc
  exact ⟨t _ _ h.maxlen rfl, t _ _ h.kinds rfl, t _ _ h.n0 rfl, t _ _ h.f0 rfl, t _ _ h.n1 rfl, t _ _ h.f1 rfl, t _ _ h.n2 rfl, t _ _ h.f2 rfl, t _ _ h.n3 rfl, t _ _ h.f3 rfl, t _ _ h.n4 rfl, t _ _ h.f4 rfl⟩

/-- The table of kinds at a text. -/
def lxTab (s : ByteArray) : List (Int × Bool) :=
  [(4, Lx.date s), (2, Lx.whole s.data.toList && decide (s.size ≤ 16)), (3, Lx.decimal s.data.toList), (1, Lx.all Lx.named s.data.toList), (0, Lx.all Lx.lower s.data.toList)]

theorem lx_classify_hit (s : ByteArray) (hs : s.size ≤ 32) (k : Nat) (n : Int) (hk : (lxTab s)[k]? = some (n, true)) (hb : ∀ j, j < k → ∃ x, (lxTab s)[j]? = some (x, false)) : Lx.classify s = (n, 0) := by
  have h32 : ¬ 32 < s.size := by omega
  unfold Lx.classify
  rw [if_neg h32]
  match k, hk with
  | 0, hk => simp [lxTab] at hk; simp [hk]
  | 1, hk =>
    obtain ⟨x0, h0⟩ := hb 0 (by omega)
    simp [lxTab] at hk h0; simp [hk, h0]
  | 2, hk =>
    obtain ⟨x0, h0⟩ := hb 0 (by omega)
    obtain ⟨x1, h1⟩ := hb 1 (by omega)
    simp [lxTab] at hk h0 h1
    have h1' : (Lx.whole s.data.toList && decide (s.size ≤ 16)) = false := by
      rw [Bool.and_eq_false_iff]
      by_cases e : Lx.whole s.data.toList = true
      · right; have := h1.2 e; simp; omega
      · left; simpa using e
    simp [hk, h0, h1']
  | 3, hk =>
    obtain ⟨x0, h0⟩ := hb 0 (by omega)
    obtain ⟨x1, h1⟩ := hb 1 (by omega)
    obtain ⟨x2, h2⟩ := hb 2 (by omega)
    simp [lxTab] at hk h0 h1 h2
    have h1' : (Lx.whole s.data.toList && decide (s.size ≤ 16)) = false := by
      rw [Bool.and_eq_false_iff]
      by_cases e : Lx.whole s.data.toList = true
      · right; have := h1.2 e; simp; omega
      · left; simpa using e
    rw [if_neg (by simp [h0]), if_neg (by rw [h1']; simp), if_neg (by simp [h2]), if_pos hk.2, hk.1]
  | 4, hk =>
    obtain ⟨x0, h0⟩ := hb 0 (by omega)
    obtain ⟨x1, h1⟩ := hb 1 (by omega)
    obtain ⟨x2, h2⟩ := hb 2 (by omega)
    obtain ⟨x3, h3⟩ := hb 3 (by omega)
    simp [lxTab] at hk h0 h1 h2 h3
    have h1' : (Lx.whole s.data.toList && decide (s.size ≤ 16)) = false := by
      rw [Bool.and_eq_false_iff]
      by_cases e : Lx.whole s.data.toList = true
      · right; have := h1.2 e; simp; omega
      · left; simpa using e
    rw [if_neg (by simp [h0]), if_neg (by rw [h1']; simp), if_neg (by simp [h2]), if_neg (by simp [h3]), if_pos hk.2, hk.1]
  | k + 5, hk => simp [lxTab] at hk

theorem lx_classify_miss (s : ByteArray) (hs : s.size ≤ 32) (hb : ∀ j, j < 5 → ∃ x, (lxTab s)[j]? = some (x, false)) : Lx.classify s = (0, 30) := by
  have h32 : ¬ 32 < s.size := by omega
  obtain ⟨x0, h0⟩ := hb 0 (by omega)
  obtain ⟨x1, h1⟩ := hb 1 (by omega)
  obtain ⟨x2, h2⟩ := hb 2 (by omega)
  obtain ⟨x3, h3⟩ := hb 3 (by omega)
  obtain ⟨x4, h4⟩ := hb 4 (by omega)
  simp only [lxTab, List.getElem?_cons_zero, List.getElem?_cons_succ, Option.some.injEq, Prod.mk.injEq] at h0 h1 h2 h3 h4
  unfold Lx.classify
  rw [if_neg h32, if_neg (by simp [h0]), if_neg (by rw [h1.2]; simp), if_neg (by simp [h2]), if_neg (by simp [h3]), if_neg (by simp [h4])]

/-- What the table holds at a place, and what the function there does. -/
theorem lx_row (m : Int) (kb ko kc : Nat) (s : ByteArray) (hs : s.size ≤ 32) (k : Nat) (hk : k < 5) : ∃ (num : Int) (g : Nat) (b : Bool), (lxTab s)[k]? = some (num, b) ∧
    (∀ W, LxEnv m kb ko kc W → W.cell? ⟨kb, ko + k * 2, none⟩ = some (.int .i64 num) ∧ W.cell? ⟨kb, ko + k * 2 + 1, none⟩ = some (.func (.func g) #[] #[])) ∧
    (∀ args w, (callFunc g args).run Tryz.prog w = .ok (.enter g args) w) ∧
    ∀ W, LxEnv m kb ko kc W → Calls Tryz.prog g #[.string s] W fun e w' => e = .returned (.bool b) ∧ Below W.heap.size W w' := by
  have hb : s.size ≤ 9223372036854775807 := by omega
  match k, hk with
  | 0, _ => exact ⟨4, _, _, rfl, fun W h => ⟨h.n0, h.f0⟩, enters_of Tryz.func241 (by kernel_rfl) rfl, fun W h => lx_date s W m hs h.maxlen⟩
  | 1, _ => exact ⟨2, _, _, rfl, fun W h => ⟨h.n1, h.f1⟩, enters_of Tryz.func242 (by kernel_rfl) rfl, fun W _ => (lx_number s W hb).mono fun e w' ⟨he, hw⟩ => ⟨he, hw ▸ Below.refl _ _⟩⟩
  | 2, _ => exact ⟨3, _, _, rfl, fun W h => ⟨h.n2, h.f2⟩, enters_of Tryz.func244 (by kernel_rfl) rfl, fun W h => (lx_decimal s W m hs h.maxlen).mono fun e w' ⟨he, n, hw⟩ => ⟨he, hw ▸ below_drewN' (Below.refl _ _) n⟩⟩
  | 3, _ => exact ⟨1, _, _, rfl, fun W h => ⟨h.n3, h.f3⟩, enters_of Tryz.func245 (by kernel_rfl) rfl, fun W _ => (lx_name s W hb).mono fun e w' ⟨he, hw⟩ => ⟨he, hw ▸ Below.refl _ _⟩⟩
  | 4, _ => exact ⟨0, _, _, rfl, fun W h => ⟨h.n4, h.f4⟩, enters_of Tryz.func248 (by kernel_rfl) rfl, fun W _ => (lx_word s W hb).mono fun e w' ⟨he, hw⟩ => ⟨he, hw ▸ Below.refl _ _⟩⟩

theorem lx_ret2 {a b c d : Int} (h : (a, b) = (c, d)) : Ending.returned (.tuple #[.int .i64 a, .int .i64 b]) = .returned (.tuple #[.int .i64 c, .int .i64 d]) := by
  cases h; rfl

set_option maxHeartbeats 1000000 in
theorem lx_classify (s : ByteArray) (w : World) (m : Int) (kb ko kc : Nat) (hs : s.size ≤ 9223372036854775807) (h : LxEnv m kb ko kc w) :
    Calls Tryz.prog 52 #[.string s] w fun e w' => e = .returned (.tuple #[.int .i64 (Lx.classify s).1, .int .i64 (Lx.classify s).2]) ∧ Below w.heap.size w w' := by
  by_cases h32 : 32 < s.size
  · have HC : Hid (Lx.classify s = (0, 5)) := by unfold Lx.classify; rw [if_pos h32]; rfl
    clear h
    go_enter Tryz.func52, Tryz.ntmps52
    go_wp2
    go_ret2
    exact ⟨lx_ret2 HC.out.symm, Below.refl _ _⟩
  · have hk := h.kinds
    have H := Lib.hid h
    clear h
    go_enter Tryz.func52, Tryz.ntmps52
    go_wp2
    go_loopw [11] (fun i wr => ∃ k : Nat, k ≤ 5 ∧ i = .int .i64 k ∧ Below w.heap.size w wr ∧ ∀ j, j < k → ∃ x, (lxTab s)[j]? = some (x, false)) (fun i _ => 5 - (RowKit.intOf i).toNat)
    case atStart => exact ⟨0, by omega, rfl, Below.refl _ _, fun j hj => by omega⟩
    case round =>
      obtain ⟨k, hk5, rfl, hbel, hprev⟩ := hrel
      have HP := Lib.hid hprev
      clear hprev
      have henv := H.out.below hbel
      by_cases hlt : k < 5
      · obtain ⟨num, g, b, htab, hcell, eg, hcall⟩ := lx_row m kb ko kc s (by omega) k hlt
        obtain ⟨c0, c1⟩ := hcell _ henv
        have hkb := lx_lt c0
        have HT := Lib.hid htab
        have HE := Lib.hid henv
        clear htab hcell henv
        have hc := hcall _ (HE.out.below ((Below.refl _ _).alloc (Nat.le_refl _) (.cells #[.int .i64 num, .func (.func g) #[] #[]] 125)))
        clear hcall
        cases b with
        | true =>
          go_wp2_with (go_at_fn g; refine hc.mono ?_; rintro e w2 ⟨rfl, hb2⟩; have c5 := (hb2.cell (p := ⟨wr.heap.size, 0, none⟩) (by simp)))
          go_ret2
          exact ⟨lx_ret2 (lx_classify_hit s (by omega) k num HT.out HP.out).symm, (hbel.alloc hbel.size _).trans (hb2.mono (by have := hbel.size; simp; omega))⟩
        | false =>
          go_wp2_with (go_at_fn g; refine hc.mono ?_; rintro e w2 ⟨rfl, hb2⟩)
          go_roundw
          case rel =>
            refine ⟨k + 1, by omega, by go_num, (hbel.alloc hbel.size _).trans (hb2.mono (by have := hbel.size; simp; omega)), fun j hj => ?_⟩
            by_cases e : j = k
            · subst e; exact ⟨_, HT.out⟩
            · exact HP.out j (by omega)
          case measure => simp [RowKit.intOf]; omega
      · obtain rfl : k = 5 := by omega
        go_wp2
        go_ret2
        exact ⟨lx_ret2 (lx_classify_miss s (by omega) HP.out).symm, hbel⟩

end Go.Proofs.YthijakidnkhbnaaGreatDoor

namespace Go.Proofs.YthijakidnkhbnaaGreatDoor
open Go.RowKit Go.Lib

set_option maxHeartbeats 1000000 in
theorem lx_uncomment (s : ByteArray) (w : World) (hs : s.size ≤ 9223372036854775807) :
    Calls Tryz.prog 48 #[.string s] w fun e w' => e = .returned (.string (Lx.uncomment s)) ∧ w = w' := by
  go_enter Tryz.func48, Tryz.ntmps48
  go_wp2
  go_loop [6] (fun i => ∃ k : Nat, k ≤ s.size ∧ i = .int .i64 k ∧ ∀ j, j < k → Lx.isC s.data.toList j = false) (fun i => s.size - (RowKit.intOf i).toNat)
  case atStart => exact ⟨0, Nat.zero_le _, rfl, fun j hj => by omega⟩
  case round =>
    obtain ⟨k, hk, rfl, hprev⟩ := hrel
    have HP := Lib.hid hprev
    clear hprev
    by_cases hlt : k < s.size
    · have hget : s.data.toList[k]? = some s[k] := by
        rw [Array.getElem?_toList]
        exact Array.getElem?_eq_getElem hlt
      have e35 : ((s[k].toNat : Int) = 35) ↔ s[k] = 35 := by
        rw [← UInt8.toNat_inj]
        show ((s[k].toNat : Int) = 35) ↔ (s[k].toNat = 35)
        omega
      by_cases h35 : (s[k].toNat : Int) = 35
      · by_cases h0 : k = 0
        · subst h0
          have HC : Hid (Lx.isC s.data.toList 0 = true) := by unfold Lx.isC; rw [hget, e35.1 h35]; rfl
          have HH := Lib.hid h35
          have hb35 : ((s[0].toNat : Int) == 35) = true := by simpa using h35
          clear hget e35 h35
          go_wp2_with fail
          go_ret
          refine ⟨?_, rfl⟩
          rw [Lx.uncomment, Lx.cutAt_hit s.data.toList 0 (by rw [← Lib.size_eq]; omega) HC.out (fun j hj => by omega)]
          simp [ByteArray.extract_same]
        · have hk1 : k - 1 < s.size := by omega
          have hget1 : s.data.toList[k - 1]? = some s[k - 1] := by
            rw [Array.getElem?_toList]
            exact Array.getElem?_eq_getElem hk1
          have HC : Hid (Lx.isC s.data.toList k = Lx.blank (s[k - 1].toNat : Int)) := by
            show _ = _
            unfold Lx.isC; rw [hget, hget1, e35.1 h35]
            have : (k == 0) = false := by simpa using h0
            simp [this]
          have HH := Lib.hid h35
          have hb35 : ((s[k].toNat : Int) == 35) = true := by simpa using h35
          have hb0 : ((k : Int) == 0) = false := by simpa using h0
          have hc0 : (0 : Int) ≤ (s[k - 1].toNat : Int) := by omega
          have hc1 : (s[k - 1].toNat : Int) < 256 := by have := s[k - 1].toNat_lt; omega
          have hcall := fun W => lx_blank (s[k - 1].toNat : Int) W hc0 hc1
          have hkpos : 1 ≤ k := by omega
          clear hget hget1 e35 h35 h0 hc0 hc1
          cases hq : Lx.blank (s[k - 1].toNat : Int) with
          | true =>
            rw [hq] at hcall
            rw [hq] at HC
            clear hq
            go_wp2_with (go_at_call 50; refine (hcall _).mono ?_; rintro e w' ⟨rfl, rfl⟩)
            go_ret
            refine ⟨?_, rfl⟩
            rw [Lx.uncomment, Lx.cutAt_hit s.data.toList k (by rw [← Lib.size_eq]; omega) HC.out HP.out]
            simp
          | false =>
            rw [hq] at hcall
            rw [hq] at HC
            clear hq
            go_wp2_with (go_at_call 50; refine (hcall _).mono ?_; rintro e w' ⟨rfl, rfl⟩)
            go_round
            case rel =>
              refine ⟨k + 1, by omega, by go_num, fun j hj => ?_⟩
              by_cases e : j = k
              · subst e; exact HC.out
              · exact HP.out j (by omega)
            case measure => simp [RowKit.intOf]; omega
      · have HC : Hid (Lx.isC s.data.toList k = false) := by
          show _ = _
          unfold Lx.isC; rw [hget]
          have : ¬ s[k] = 35 := fun e => h35 (e35.2 e)
          simp [this]
        have hb35 : ((s[k].toNat : Int) == 35) = false := by simpa using h35
        clear hget e35 h35
        go_wp2_with fail
        go_round
        case rel =>
          refine ⟨k + 1, by omega, by go_num, fun j hj => ?_⟩
          by_cases e : j = k
          · subst e; exact HC.out
          · exact HP.out j (by omega)
        case measure => simp [RowKit.intOf]; omega
    · obtain rfl : k = s.size := by omega
      go_wp2_with fail
      go_ret
      refine ⟨?_, rfl⟩
      rw [Lx.uncomment, Lx.cutAt_miss s.data.toList (fun j hj => HP.out j (by rw [Lib.size_eq]; exact hj)), ← Lib.size_eq, Lx.extract_all]
      rfl

theorem lx_grown_of_below {W W' : World} (hb : Below W.heap.size W W') : W.grownBy W' none :=
  ⟨hb.os, hb.tape, hb.output, hb.size, fun k hk _ => hb.block k hk⟩
theorem lx_owns_below {W W' : World} {B : Nat} {e : TypeId} {size : Nat} {v : Value} {n : Nat} {xs : List Value} (h : W.ownsRow B e size v n xs) (hb : Below W.heap.size W W') : W'.ownsRow B e size v n xs :=
  h.kept (lx_grown_of_below hb) (by cases hv : v.ownBlock <;> simp)

theorem lx_infoTok : (Tryz.prog.info? 78).map (fun i => (i.zero, i.size, i.bytes)) = some (some (.agg #[.int .i64 0, .string ByteArray.empty, .int .i64 0]), 3, 32) := by kernel_rfl

theorem lx_ret3 {v : Value} {a b c d : Int} (h1 : a = c) (h2 : b = d) : Ending.returned (.tuple #[v, .int .i64 a, .int .i64 b]) = .returned (.tuple #[v, .int .i64 c, .int .i64 d]) := by
  cases h1; cases h2; rfl

set_option maxRecDepth 100000 in
set_option maxHeartbeats 2000000 in
theorem lx_tokenize (s : ByteArray) (w : World) (m : Int) (kb ko kc : Nat) (hs : s.size ≤ 9223372036854775807) (h : LxEnv m kb ko kc w) :
    Calls Tryz.prog 19 #[.string s] w fun e w' => ∃ v, e = .returned (.tuple #[v, .int .i64 (Lx.tokenize s).2.1, .int .i64 (Lx.tokenize s).2.2]) ∧
      w'.ownsRow w.heap.size 78 3 v (Lx.tokenize s).1.length (Lx.tokCells (Lx.tokenize s).1) ∧ Below w.heap.size w w' := by
  by_cases h1024 : 1024 < s.size
  · have HC : Hid (Lx.tokenize s = ([], 1024, 5)) := by unfold Lx.tokenize; rw [if_pos h1024]; rfl
    clear h
    go_enter Tryz.func19, Tryz.ntmps19
    go_wp2
    go_step3
    go_wp2
    rw [Exit.noGoto_ret]
    go_ret3
    rw [HC.out]
    exact ⟨_, rfl, World.ownsRow_nil _ _ _ _, Below.refl _ _⟩
  · have hu := fun W => lx_uncomment s W hs
    have HT : Hid (Lx.tokenize s = Lx.tokAcc ((Lx.uncomment s).size + 1) (Lx.uncomment s) 0 []) := by unfold Lx.tokenize; rw [if_neg h1024]; rfl
    have hL : (Lx.uncomment s).size ≤ 1024 := by
      unfold Lx.uncomment
      rw [ByteArray.size_extract]; omega
    generalize Lx.uncomment s = L at *
    have H := Lib.hid h
    clear h
    obtain ⟨i0, hi, hz0, hz1, hz2⟩ := info_parts lx_infoTok
    go_enter Tryz.func19, Tryz.ntmps19
    go_wp2
    go_step3
    go_wp2_with (go_at_call 48; refine (hu _).mono ?_; rintro e w' ⟨rfl, rfl⟩)
    clear hu
    go_step3
    go_wp2
    go_loopw [5, 6] (fun v i wr => ∃ (acc : List Lx.Tok) (a f : Nat), a ≤ L.size ∧ i = .int .i64 a ∧ acc.length ≤ a ∧ L.size - a < f ∧ Below w.heap.size w wr ∧
      wr.ownsRow w.heap.size 78 3 v acc.length (Lx.tokCells acc) ∧ Hid (Lx.tokAcc f L a acc = Lx.tokAcc (L.size + 1) L 0 [])) (fun _ i _ => L.size - (RowKit.intOf i).toNat)
    case atStart => exact ⟨[], 0, L.size + 1, by omega, rfl, by simp, by omega, Below.refl _ _, World.ownsRow_nil _ _ _ _, rfl⟩
    case round =>
      obtain ⟨acc, a, f, ha, rfl, hacc, hf, hbel, hown, hacc2⟩ := hrel
      obtain ⟨f, rfl⟩ : ∃ g, f = g + 1 := ⟨f - 1, by omega⟩
      have h1 := fun W => lx_run _ _ lx_class_blank (L.extract a L.size) W (by rw [ByteArray.size_extract]; omega)
      have hskip := Lx.skip_le L a ha
      simp only [show Lx.run Lx.blank (L.extract a L.size).data.toList = Lx.skip L a from rfl] at h1
      have HA : Hid (Lx.tokAcc (L.size + 1) L 0 [] = if Lx.size L (a + Lx.skip L a) = 0 then (acc, 0, 0)
        else if (Lx.classify (L.extract (a + Lx.skip L a) (a + Lx.skip L a + Lx.size L (a + Lx.skip L a)))).2 = 0 then
          Lx.tokAcc f L (a + Lx.skip L a + Lx.size L (a + Lx.skip L a)) (acc ++ [((Lx.classify (L.extract (a + Lx.skip L a) (a + Lx.skip L a + Lx.size L (a + Lx.skip L a)))).1, L.extract (a + Lx.skip L a) (a + Lx.skip L a + Lx.size L (a + Lx.skip L a)), a + Lx.skip L a)])
        else ([], ((a + Lx.skip L a : Nat) : Int), (Lx.classify (L.extract (a + Lx.skip L a) (a + Lx.skip L a + Lx.size L (a + Lx.skip L a)))).2)) := hacc2.out.symm
      clear hacc2
      generalize Lx.skip L a = r1 at *
      have h2 := fun W => lx_run _ _ lx_class_notblank (L.extract (a + r1) L.size) W (by rw [ByteArray.size_extract]; omega)
      have hsize := Lx.size_le L (a + r1) hskip
      simp only [show Lx.run (fun c => !Lx.blank c) (L.extract (a + r1) L.size).data.toList = Lx.size L (a + r1) from rfl] at h2
      generalize Lx.size L (a + r1) = r2 at *
      by_cases hr2 : r2 = 0
      · have hb2 : ((r2 : Int) == 0) = true := by simpa using hr2
        have HR := Lib.hid hr2
        clear hr2
        go_wp2_with fail
        refine (h1 _).mono ?_
        rintro e w' ⟨rfl, rfl⟩
        go_wp2_with fail
        refine (h2 _).mono ?_
        rintro e w' ⟨rfl, rfl⟩
        go_wp2_with fail
        rw [Exit.noGoto_ret]
        go_ret3
        rw [HT.out, HA.out, if_pos HR.out]
        exact ⟨_, rfl, hown, hbel⟩
      · have hb2 : ((r2 : Int) == 0) = false := by simpa using hr2
        have hcl := fun W hW => lx_classify (L.extract (a + r1) (a + r1 + r2)) W m kb ko kc (by rw [ByteArray.size_extract]; omega) hW
        have HE := Lib.hid (H.out.below hbel)
        generalize hq : Lx.classify (L.extract (a + r1) (a + r1 + r2)) = q at *
        clear hq
        obtain ⟨kk, ee⟩ := q
        simp only at hcl HA
        by_cases hee : ee = 0
        · subst hee
          go_wp2_with fail
          refine (h1 _).mono ?_
          rintro e w' ⟨rfl, rfl⟩
          go_wp2_with fail
          refine (h2 _).mono ?_
          rintro e w' ⟨rfl, rfl⟩
          go_wp2_with fail
          refine (hcl _ HE.out).mono ?_
          rintro e w2 ⟨rfl, hb2'⟩
          have hown2 := lx_owns_below hown hb2'
          have hbel2 := hbel.trans (hb2'.mono hbel.size)
          go_wp2_with (at_builtin; refine wpList_append_own _ rfl _ _ 63 rfl w.heap.size 78 i0 _ 3 32 Tryz.underlying63 hi hz0 hz1 hz2 rfl (by decide) _ _ _ rfl (hown2.alloc _) ⟨w2.heap.size, 0, none⟩ 1 1 [.int .i64 kk, .string (L.extract (a + r1) (a + r1 + r2)), .int .i64 ((a : Int) + (r1 : Int))] rfl rfl ?c1 ?c2 ?c3 ?c4 ?c5 ?_)
          case c1 =>
            intro j u hj
            match j, hj with
            | 0, hj => simp at hj; subst hj; simp [Addr.add]
            | 1, hj => simp at hj; subst hj; simp [Addr.add]
            | 2, hj => simp at hj; subst hj; simp [Addr.add]
            | j + 3, hj => simp at hj
          case c2 => intro u hu; simp at hu; rcases hu with rfl | rfl | rfl <;> rfl
          case c3 => unfold maxLen; omega
          case c4 => omega
          case c5 => have := hbel2.size; simp; omega
          intro v' w3 hown3 hgrow3 _
          have hbel3 := (hbel2.alloc hbel2.size _).grown hgrow3 (by have := hbel2.size; simp; omega) (fun k hk => (hown2.lt k hk).1)
          clear hgrow3 hown2 hown hbel2 hb2'
          go_wp2_with fail
          go_roundw
          case rel =>
            refine ⟨acc ++ [(kk, L.extract (a + r1) (a + r1 + r2), a + r1)], a + r1 + r2, f, by omega, by go_num, by simp; omega, by omega, hbel3, ?_, ?_⟩
            · rw [Lx.tokCells_append, List.length_append]
              simpa [Lx.tokCells] using hown3
            · show _ = _
              rw [HA.out, if_neg (fun e => by subst e; simp at hb2), if_pos trivial]
          case measure => simp [RowKit.intOf]; omega
        · have hbe : (ee != 0) = true := by simpa using hee
          have HEE := Lib.hid hee
          clear hee
          go_wp2_with fail
          refine (h1 _).mono ?_
          rintro e w' ⟨rfl, rfl⟩
          go_wp2_with fail
          refine (h2 _).mono ?_
          rintro e w' ⟨rfl, rfl⟩
          go_wp2_with fail
          refine (hcl _ HE.out).mono ?_
          rintro e w2 ⟨rfl, hb2'⟩
          go_wp2_with fail
          rw [Exit.noGoto_ret]
          go_ret3
          rw [HT.out, HA.out, if_neg (fun e => by subst e; simp at hb2), if_neg HEE.out]
          exact ⟨_, lx_ret3 (by simp) rfl, World.ownsRow_nil _ _ _ _, hbel.trans (hb2'.mono hbel.size)⟩

end Go.Proofs.YthijakidnkhbnaaGreatDoor

namespace Go.Proofs.YthijakidnkhbnaaGreatDoor
open Go.RowKit

theorem lx_tokCells_at (l : List Lx.Tok) : ∀ (k : Nat) (x : Lx.Tok), l[k]? = some x → (Lx.tokCells l)[k * 3]? = some (.int .i64 x.1) ∧ (Lx.tokCells l)[k * 3 + 1]? = some (.string x.2.1) ∧ (Lx.tokCells l)[k * 3 + 2]? = some (.int .i64 x.2.2) := by
  induction l with
  | nil => intro k x h; simp at h
  | cons y l ih =>
    intro k x h
    obtain ⟨a, b, c⟩ := y
    cases k with
    | zero => simp at h; subst h; simp [Lx.tokCells]
    | succ k =>
      have := ih k x (by simpa using h)
      have e : (k + 1) * 3 = k * 3 + 1 + 1 + 1 := by omega
      rw [e]
      simpa [Lx.tokCells] using this

/-- a block holds these tokens from its beginning on -/
def LxHolds (W : World) (b : Nat) (l : List Lx.Tok) : Prop := ∀ (k : Nat) (x : Lx.Tok), l[k]? = some x →
  W.cell? ⟨b, k * 3, none⟩ = some (.int .i64 x.1) ∧ W.cell? ⟨b, k * 3 + 1, none⟩ = some (.string x.2.1) ∧ W.cell? ⟨b, k * 3 + 2, none⟩ = some (.int .i64 x.2.2)
theorem LxHolds.below {W W' : World} {b B : Nat} {l : List Lx.Tok} (h : LxHolds W b l) (hb : Below B W W') (hB : b < B) : LxHolds W' b l := fun k x hx => by
  obtain ⟨h1, h2, h3⟩ := h k x hx
  exact ⟨(hb.cell (p := ⟨b, k * 3, none⟩) hB).trans h1, (hb.cell (p := ⟨b, k * 3 + 1, none⟩) hB).trans h2, (hb.cell (p := ⟨b, k * 3 + 2, none⟩) hB).trans h3⟩

/-- what is known of a slice of tokens that a call has made -/
theorem lx_toks_form {W : World} {B e : Nat} {v : Value} {l : List Lx.Tok} (h : W.ownsRow B e 3 v l.length (Lx.tokCells l)) :
    (v = .slice none 0 0 ∧ l = []) ∨ ∃ g cap, v = .slice (some ⟨g, 0, none⟩) l.length cap ∧ B ≤ g ∧ g < W.heap.size ∧ LxHolds W g l := by
  rcases h.2 with ⟨rfl, h0⟩ | ⟨g, cap, cur, rfl, hB, hh, hn, hcap, hcur, htake⟩
  · exact .inl ⟨rfl, List.eq_nil_of_length_eq_zero h0⟩
  · refine .inr ⟨g, cap, rfl, hB, (Array.getElem?_eq_some_iff.1 hh).1, fun k x hx => ?_⟩
    have hc := h.cells (g := g) rfl
    obtain ⟨h1, h2, h3⟩ := lx_tokCells_at l k x hx
    have add : ∀ j, (⟨g, 0, none⟩ : Addr).add j = ⟨g, j, none⟩ := fun j => by unfold Addr.add; split <;> simp_all
    have := hc _ _ h1
    have e2 := hc _ _ h2
    have e3 := hc _ _ h3
    rw [add] at this e2 e3
    exact ⟨this, e2, e3⟩

end Go.Proofs.YthijakidnkhbnaaGreatDoor
