/-
  THE LEXER's SMALL FUNCTIONS: classes of bytes, run, all, whole, and the kinds that only look at bytes.
-/
import Derived.Test.YtadhhknhfipihaaDoorLexPlain
import Derived.Test.YtadhhknhfipihaaDoorProg
import Derived.Test.YtadhhknhfipihaaDoorShelf
import Derived.WalkKit
import Derived.WalkSpells
import Derived.WalkLawsBesides
import Derived.Shelf.GgClosure.Gives
namespace Go.Proofs.YtadhhknhfipihaaDoor
open Go.RowKit Go.Lib

/-- What is asked of a class of bytes that is handed on as a function value. -/
def LxClass (g : Nat) (p : Int → Bool) : Prop :=
  (∀ args w, (callFunc g args).run Tryd.prog w = .ok (.enter g args) w) ∧
  ∀ (c : Int) (w : World), 0 ≤ c → c < 256 → Calls Tryd.prog g #[.int .u8 c] w fun e w' => e = .returned (.bool (p c)) ∧ w = w'

theorem lx_ret {a b : Bool} (h : a = true ↔ b = true) : Ending.returned (.bool a) = .returned (.bool b) := by
  rw [Bool.eq_iff_iff.2 h]
theorem lx_retInt {a b : Int} (h : a = b) : Ending.returned (.int .i64 a) = .returned (.int .i64 b) := by
  rw [h]

set_option maxHeartbeats 400000 in
theorem lx_digit (c : Int) (w : World) :
    Calls Tryd.prog 119 #[.int .u8 c] w fun e w' => e = .returned (.bool (Lx.digit c)) ∧ w = w' := by
  go_enter Tryd.func119, Tryd.ntmps119
  go_wp2
  all_goals go_ret
  all_goals exact ⟨lx_ret (by simp [Lx.digit]; omega), rfl⟩

set_option maxHeartbeats 400000 in
theorem lx_lower (c : Int) (w : World) :
    Calls Tryd.prog 116 #[.int .u8 c] w fun e w' => e = .returned (.bool (Lx.lower c)) ∧ w = w' := by
  go_enter Tryd.func116, Tryd.ntmps116
  go_wp2
  all_goals go_ret
  all_goals exact ⟨lx_ret (by simp [Lx.lower]; omega), rfl⟩

set_option maxHeartbeats 400000 in
theorem lx_named (c : Int) (w : World) :
    Calls Tryd.prog 114 #[.int .u8 c] w fun e w' => e = .returned (.bool (Lx.named c)) ∧ w = w' := by
  go_enter Tryd.func114, Tryd.ntmps114
  go_wp2
  all_goals go_ret
  all_goals exact ⟨lx_ret (by simp [Lx.named, Lx.upper, Lx.digit]; omega), rfl⟩

theorem lx_indexByte (c : Int) (h0 : 0 ≤ c) (h1 : c < 256) : (0 ≤ Lib.indexByte [32, 9] c.toNat.toUInt8) ↔ Lx.blank c = true := by
  obtain ⟨n, rfl⟩ := Int.eq_ofNat_of_zero_le h0
  have hn : n < 256 := by omega
  simp only [Int.toNat_natCast]
  have key : ∀ n : Fin 256, (0 ≤ Lib.indexByte [32, 9] n.val.toUInt8) ↔ Lx.blank (n.val : Int) = true := by decide +kernel
  exact key ⟨n, hn⟩

set_option maxHeartbeats 400000 in
theorem lx_blank (c : Int) (w : World) (h0 : 0 ≤ c) (h1 : c < 256) :
    Calls Tryd.prog 32 #[.int .u8 c] w fun e w' => e = .returned (.bool (Lx.blank c)) ∧ w = w' := by
  go_enter Tryd.func32, Tryd.ntmps32
  go_wp2_with (go_at_call 51; refine (Tryd.strings_IndexByte _ _ _).mono ?_; rintro e w' ⟨rfl, rfl⟩)
  all_goals go_ret
  all_goals exact ⟨lx_ret (by simpa using lx_indexByte c h0 h1), rfl⟩

set_option maxHeartbeats 400000 in
theorem lx_notblank (c : Int) (w : World) (h0 : 0 ≤ c) (h1 : c < 256) :
    Calls Tryd.prog 35 #[.int .u8 c] w fun e w' => e = .returned (.bool (!Lx.blank c)) ∧ w = w' := by
  go_enter Tryd.func35, Tryd.ntmps35
  go_wp2_with (go_at_call 32; refine (lx_blank _ _ h0 h1).mono ?_; rintro e w' ⟨rfl, rfl⟩)
  all_goals go_ret
  all_goals exact ⟨rfl, rfl⟩

theorem lx_class_digit : LxClass 119 Lx.digit := ⟨enters_of Tryd.func119 (by kernel_rfl) rfl, fun c w _ _ => lx_digit c w⟩
theorem lx_class_lower : LxClass 116 Lx.lower := ⟨enters_of Tryd.func116 (by kernel_rfl) rfl, fun c w _ _ => lx_lower c w⟩
theorem lx_class_named : LxClass 114 Lx.named := ⟨enters_of Tryd.func114 (by kernel_rfl) rfl, fun c w _ _ => lx_named c w⟩
theorem lx_class_blank : LxClass 32 Lx.blank := ⟨enters_of Tryd.func32 (by kernel_rfl) rfl, fun c w h0 h1 => lx_blank c w h0 h1⟩
theorem lx_class_notblank : LxClass 35 (fun c => !Lx.blank c) := ⟨enters_of Tryd.func35 (by kernel_rfl) rfl, fun c w h0 h1 => lx_notblank c w h0 h1⟩

/-- run: the length of the longest prefix of a class -/
theorem lx_run (g : Nat) (p : Int → Bool) (hg : LxClass g p) (s : ByteArray) (w : World) (hs : s.size ≤ 9223372036854775807) :
    Calls Tryd.prog 34 #[.string s, .func (.func g) #[] #[]] w fun e w' => e = .returned (.int .i64 (Lx.run p s.data.toList)) ∧ w = w' := by
  obtain ⟨eg, hp⟩ := hg
  have hle := Lx.run_le p s.data.toList
  have hlen : s.data.toList.length = s.size := by simp
  have HB : Hid (∀ k, k < Lx.run p s.data.toList → (h : k < s.size) → p (s[k].toNat : Int) = true) := fun k hk h => by
    have := Lx.run_before p s.data.toList k hk (by rw [hlen]; exact h)
    simp only [Array.getElem_toList] at this; exact this
  have HA : Hid ((h : Lx.run p s.data.toList < s.size) → p (s[Lx.run p s.data.toList].toNat : Int) = false) := fun h => by
    have := Lx.run_at p s.data.toList (by rw [hlen]; exact h)
    simp only [Array.getElem_toList] at this; exact this
  rw [hlen] at hle
  clear hlen
  generalize hm : Lx.run p s.data.toList = m at *
  clear hm
  go_enter Tryd.func34, Tryd.ntmps34
  go_wp2
  go_loop [5] (fun i => ∃ k : Nat, k ≤ m ∧ i = .int .i64 k) (fun i => s.size - (RowKit.intOf i).toNat)
  case atStart => exact ⟨0, Nat.zero_le _, rfl⟩
  case round =>
    obtain ⟨k, hk, rfl⟩ := hrel
    by_cases hlt : k < s.size
    · have hc0 : (0 : Int) ≤ (s[k].toNat : Int) := by omega
      have hc1 : (s[k].toNat : Int) < 256 := by have := s[k].toNat_lt; omega
      have hcall := fun W => hp (s[k].toNat : Int) W hc0 hc1
      by_cases hkm : k < m
      · rw [HB.out k hkm hlt] at hcall
        go_wp2_with (go_at_fn g; refine (hcall _).mono ?_; rintro e w' ⟨rfl, rfl⟩)
        go_round
        case rel => exact ⟨k + 1, by omega, by go_num⟩
        case measure => simp [RowKit.intOf]; omega
      · obtain rfl : k = m := by omega
        rw [HA.out hlt] at hcall
        go_wp2_with (go_at_fn g; refine (hcall _).mono ?_; rintro e w' ⟨rfl, rfl⟩)
        go_ret
        exact ⟨rfl, rfl⟩
    · obtain rfl : k = m := by omega
      go_wp2
      go_ret
      exact ⟨rfl, rfl⟩

end Go.Proofs.YtadhhknhfipihaaDoor
