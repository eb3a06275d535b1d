/-
  giroref11.Valid: a prefix of a log, in the reference.
-/
import Derived.Test.YtcbnbhlgikjbeaaGreatDoorWlSmall
namespace Go.Proofs.YtcbnbhlgikjbeaaGreatDoor
open Go.RowKit

set_option maxRecDepth 100000 in
set_option maxHeartbeats 2000000 in
theorem rl_Valid (s : ByteArray) (W : World) (hs : s.size ≤ 9223372036854775807) : Calls Tryz.prog 24 #[.string s] W fun e W' => e = .returned (.bool (Wl.validP s.data.toList)) ∧ W = W' := by
  have hsz : s.data.toList.length = s.size := by rw [Array.length_toList]; rfl
  have HV : Hid (Wl.validP s.data.toList = (s.data.toList.all Wl.okP && decide (1 ≤ s.size) && decide (s.size ≤ 16))) := Lib.hid (by unfold Wl.validP; rw [hsz])
  have hb := PlainAid.get_bt s
  have HL := Lib.hid hsz
  clear hsz
  go_enter Tryz.func24, Tryz.ntmps24
  go_wp2_with fail
  go_loopw [3] (fun iv wr => ∃ i : Nat, iv = .int .i64 i ∧ i ≤ s.size ∧ Hid ((s.data.toList.take i).all Wl.okP = true) ∧ wr = W) (fun iv _ => s.size - (RowKit.intOf iv).toNat)
  case atStart => exact ⟨0, rfl, Nat.zero_le _, Lib.hid rfl, rfl⟩
  case round =>
    obtain ⟨i, rfl, hi, HA, rfl⟩ := hrel
    by_cases hlt : i < s.size
    · have b0 := PlainAid.bt_nonneg s i
      have b1 := PlainAid.bt_le s i
      have hg : s.data.toList[i]? = some s[i] := by
        rw [List.getElem?_eq_getElem (by rw [HL.out]; exact hlt)]
        rfl
      have HK := Lib.hid (okP_bt s i hlt)
      have HN : Hid (Wl.okP s[i] = true → (s.data.toList.take (i + 1)).all Wl.okP = true) := by
        show _ → _
        intro h
        rw [List.take_add_one, hg, List.all_append, HA.out]
        simpa using h
      have HF : Hid (Wl.okP s[i] = false → Wl.validP s.data.toList = false) := by
        show _ → _
        intro h
        have : s.data.toList.all Wl.okP = false := by
          rw [List.all_eq_false]
          exact ⟨s[i], List.mem_of_getElem? hg, by simpa using h⟩
        rw [HV.out, this, Bool.false_and, Bool.false_and]
      clear hg
      by_cases q1 : 97 ≤ PlainAid.bt s i
      all_goals by_cases q2 : PlainAid.bt s i ≤ 122
      all_goals by_cases q3 : 48 ≤ PlainAid.bt s i
      all_goals by_cases q4 : PlainAid.bt s i ≤ 57
      all_goals try (exfalso; omega)
      all_goals go_wp2_with fail
      all_goals first
        | (go_ret; rw [HF.out (by rw [HK.out]; exact decide_eq_false (by omega))]; exact ⟨rfl, rfl⟩)
        | (refine ⟨⟨i + 1, by go_num, by omega, Lib.hid (HN.out (by rw [HK.out]; exact decide_eq_true (by omega))), trivial⟩, by simp [RowKit.intOf]; omega⟩)
        | (exfalso; omega)
    · obtain rfl : i = s.size := by omega
      have hall : s.data.toList.all Wl.okP = true := by
        have := HA.out
        rwa [List.take_of_length_le (by rw [HL.out]; exact Nat.le_refl _)] at this
      have HR : Hid (Wl.validP s.data.toList = (decide (1 ≤ s.size) && decide (s.size ≤ 16))) := Lib.hid (by rw [HV.out, hall, Bool.true_and])
      clear hall HA
      by_cases h1 : 1 ≤ s.size
      all_goals by_cases h2 : s.size ≤ 16
      all_goals
        go_wp2_with fail
      all_goals
        go_ret
        rw [HR.out]
        refine ⟨congrArg (fun b => Ending.returned (.bool b)) ?_, rfl⟩
        first | (simp [h1, h2]; done) | (simp [h1, h2]; omega)

end Go.Proofs.YtcbnbhlgikjbeaaGreatDoor
