/-
  The reference's Valid.
  DiskNil, plain: two files created.
-/
import Derived.Test.YtegahpgnmeobhaaGreatDoorDkNil
import Derived.PlainAid
namespace Go.Proofs.YtegahpgnmeobhaaGreatDoor
open Go.RowKit

namespace Dk
def okc (z : Int) : Bool := decide ((97 ≤ z ∧ z ≤ 122) ∨ (48 ≤ z ∧ z ≤ 57) ∨ z = 46 ∨ z = 45 ∨ z = 95)
set_option maxRecDepth 20000 in
theorem okc_fin : ∀ n : Fin 256, okc ((n.val : Nat) : Int) = nameBytes.contains (UInt8.ofNat n.val) := by decide
theorem okc_byte (c : UInt8) : okc (c.toNat : Int) = nameBytes.contains c := by
  have e : UInt8.ofNat c.toNat = c := UInt8.ofNat_toNat
  exact (okc_fin ⟨c.toNat, c.toNat_lt⟩).trans (by show nameBytes.contains (UInt8.ofNat c.toNat) = _; rw [e])

theorem all_drop (p : UInt8 → Bool) : ∀ l : List UInt8, (l.dropWhile p).all p = l.all p
  | [] => rfl
  | x :: l => by
    rw [List.dropWhile_cons, List.all_cons]
    cases h : p x with
    | true => simpa using all_drop p l
    | false => simp [h]
theorem empty_drop (p : UInt8 → Bool) : ∀ l : List UInt8, (l.dropWhile p).isEmpty = l.all p
  | [] => rfl
  | x :: l => by
    rw [List.dropWhile_cons, List.all_cons]
    cases h : p x with
    | true => simpa using empty_drop p l
    | false => simp
theorem trimS_empty (l cs : List UInt8) : (Lib.trimS l cs).isEmpty = l.all (cs.contains ·) := by
  unfold Lib.trimS Lib.trimLeftS
  rw [empty_drop]
  unfold Lib.trimRightS
  rw [List.all_reverse, all_drop, List.all_reverse]
theorem valid_eq (l : List UInt8) : valid l = (decide (1 ≤ l.length) && decide (l.length ≤ 64) && l.all (nameBytes.contains ·)) := by
  unfold valid
  rw [trimS_empty]
  congr 2
  cases l <;> simp
end Dk

set_option maxRecDepth 100000 in
set_option maxHeartbeats 4000000 in
theorem rf_valid (s : ByteArray) (W : World) (hs : s.size ≤ 9223372036854775807) : Calls Tryz.prog 37 #[.string s] W fun e W' => e = .returned (.bool (Dk.valid s.data.toList)) ∧ W = W' := by
  have HV := Lib.hid (Dk.valid_eq s.data.toList)
  have hsz : s.data.toList.length = s.size := by rw [Array.length_toList]; rfl
  rw [hsz] at HV
  have hb := PlainAid.get_bt s
  have HL := Lib.hid hsz
  clear hsz
  go_enter Tryz.func37, Tryz.ntmps37
  go_wp2_with fail
  go_loopw [3] (fun iv wr => ∃ i : Nat, iv = .int .i64 i ∧ i ≤ s.size ∧ Hid ((s.data.toList.take i).all (Dk.nameBytes.contains ·) = true) ∧ wr = W) (fun iv _ => s.size - (RowKit.intOf iv).toNat)
  case atStart => exact ⟨0, rfl, Nat.zero_le _, Lib.hid rfl, rfl⟩
  case round =>
    obtain ⟨i, rfl, hi, HA, rfl⟩ := hrel
    by_cases hlt : i < s.size
    · have b0 := PlainAid.bt_nonneg s i
      have b1 := PlainAid.bt_le s i
      have hg : s.data.toList[i]? = some s[i] := by
        rw [List.getElem?_eq_getElem (by rw [HL.out]; exact hlt)]
        rfl
      have HO : Hid (Dk.okc (PlainAid.bt s i) = Dk.nameBytes.contains s[i]) := by show _ = _; rw [← hb i hlt]; exact Dk.okc_byte _
      have HN : Hid (Dk.okc (PlainAid.bt s i) = true → (s.data.toList.take (i + 1)).all (Dk.nameBytes.contains ·) = true) := by
        show _ → _
        intro h
        rw [List.take_add_one, hg, List.all_append, HA.out]
        rw [HO.out] at h
        simpa using h
      have HF : Hid (Dk.okc (PlainAid.bt s i) = false → Dk.valid s.data.toList = false) := by
        show _ → _
        intro h
        rw [HO.out] at h
        have : s.data.toList.all (Dk.nameBytes.contains ·) = false := by
          rw [List.all_eq_false]
          exact ⟨s[i], List.mem_of_getElem? hg, by simpa using h⟩
        rw [HV.out, this, Bool.and_false]
      have HK : Hid (Dk.okc (PlainAid.bt s i) = decide ((97 ≤ PlainAid.bt s i ∧ PlainAid.bt s i ≤ 122) ∨ (48 ≤ PlainAid.bt s i ∧ PlainAid.bt s i ≤ 57) ∨ PlainAid.bt s i = 46 ∨ PlainAid.bt s i = 45 ∨ PlainAid.bt s i = 95)) := Lib.hid rfl
      clear hg HO
      by_cases hA : PlainAid.bt s i < 97
      · by_cases hB : PlainAid.bt s i < 48
        · by_cases h46 : PlainAid.bt s i = 46
          · go_wp2_with fail
            all_goals first | (exfalso; omega) | (refine ⟨⟨i + 1, by go_num, by omega, Lib.hid (HN.out (by rw [HK.out]; exact decide_eq_true (by omega))), trivial⟩, by simp [RowKit.intOf]; omega⟩)
          · by_cases h45 : PlainAid.bt s i = 45
            · go_wp2_with fail
              all_goals first | (exfalso; omega) | (refine ⟨⟨i + 1, by go_num, by omega, Lib.hid (HN.out (by rw [HK.out]; exact decide_eq_true (by omega))), trivial⟩, by simp [RowKit.intOf]; omega⟩)
            · have e46 : (PlainAid.bt s i == 46) = false := by simp; omega
              have e45 : (PlainAid.bt s i == 45) = false := by simp; omega
              have e95 : (PlainAid.bt s i == 95) = false := by simp; omega
              go_wp2_with fail
              all_goals first | (exfalso; omega) | (go_ret; rw [HF.out (by rw [HK.out]; exact decide_eq_false (by omega))]; exact ⟨rfl, rfl⟩)
        · by_cases h57 : PlainAid.bt s i ≤ 57
          · go_wp2_with fail
            all_goals first | (exfalso; omega) | (refine ⟨⟨i + 1, by go_num, by omega, Lib.hid (HN.out (by rw [HK.out]; exact decide_eq_true (by omega))), trivial⟩, by simp [RowKit.intOf]; omega⟩)
          · by_cases h95 : PlainAid.bt s i = 95
            · go_wp2_with fail
              all_goals first | (exfalso; omega) | (refine ⟨⟨i + 1, by go_num, by omega, Lib.hid (HN.out (by rw [HK.out]; exact decide_eq_true (by omega))), trivial⟩, by simp [RowKit.intOf]; omega⟩)
            · have e46 : (PlainAid.bt s i == 46) = false := by simp; omega
              have e45 : (PlainAid.bt s i == 45) = false := by simp; omega
              have e95 : (PlainAid.bt s i == 95) = false := by simp; omega
              go_wp2_with fail
              all_goals first | (exfalso; omega) | (go_ret; rw [HF.out (by rw [HK.out]; exact decide_eq_false (by omega))]; exact ⟨rfl, rfl⟩)
      · by_cases h122 : PlainAid.bt s i ≤ 122
        · go_wp2_with fail
          all_goals first | (exfalso; omega) | (refine ⟨⟨i + 1, by go_num, by omega, Lib.hid (HN.out (by rw [HK.out]; exact decide_eq_true (by omega))), trivial⟩, by simp [RowKit.intOf]; omega⟩)
        · have e46 : (PlainAid.bt s i == 46) = false := by simp; omega
          have e45 : (PlainAid.bt s i == 45) = false := by simp; omega
          have e95 : (PlainAid.bt s i == 95) = false := by simp; omega
          have e57 : decide (PlainAid.bt s i ≤ 57) = false := by simp; omega
          go_wp2_with fail
          all_goals first | (exfalso; omega) | (go_ret; rw [HF.out (by rw [HK.out]; exact decide_eq_false (by omega))]; exact ⟨rfl, rfl⟩)
    · obtain rfl : i = s.size := by omega
      rw [← HL.out, List.take_length] at HA
      rw [HA.out, Bool.and_true] at HV
      by_cases h1 : 1 ≤ s.size
      · go_wp2_with fail
        all_goals first | (exfalso; omega) | (go_ret; rw [HV.out]; simp [h1]; done) | (go_ret; rw [HV.out]; simp [h1]; omega)
      · go_wp2_with fail
        all_goals first | (exfalso; omega) | (go_ret; rw [HV.out]; simp [h1]; done) | (go_ret; rw [HV.out]; simp [h1]; omega)

end Go.Proofs.YtegahpgnmeobhaaGreatDoor

namespace Go.Proofs.YtegahpgnmeobhaaGreatDoor.Dk
open Go

theorem create_new (n : Bs) : D.create ⟨[], -1, false⟩ n = if valid n then (⟨[(n, ⟨[], []⟩)], -1, false⟩, 0) else (⟨[], -1, false⟩, 6) := by
  unfold D.create createCheck
  cases hv : valid n <;> simp [find, D.modify, ins, insBy]

theorem valid_x : valid [120] = true := by kernel_rfl
theorem create_x (fs : List (Bs × Fl)) (hfs : fs = [] ∨ ∃ n, fs = [(n, ⟨[], []⟩)]) : ∃ fs' r, D.create ⟨fs, -1, false⟩ [120] = (⟨fs', -1, false⟩, r) ∧ find [120] fs' = some ⟨[], []⟩ ∧ fs'.length ≤ 2 := by
  rcases hfs with rfl | ⟨n, rfl⟩
  · refine ⟨[([120], ⟨[], []⟩)], 0, ?_, rfl, by simp⟩
    rw [create_new, valid_x]
    rfl
  · by_cases hn : n = [120]
    · subst hn
      refine ⟨[([120], ⟨[], []⟩)], 7, ?_, rfl, by simp⟩
      unfold D.create createCheck
      rw [valid_x]
      rfl
    · have hf : find [120] [(n, (⟨[], []⟩ : Fl))] = none := by simp [find, hn]
      refine ⟨ins [120] ⟨[], []⟩ [(n, ⟨[], []⟩)], 0, ?_, ?_, ?_⟩
      · unfold D.create createCheck
        rw [valid_x, hf]
        rfl
      · show find [120] (if bytesBefore [120] n then [([120], (⟨[], []⟩ : Fl)), (n, ⟨[], []⟩)] else [(n, ⟨[], []⟩), ([120], ⟨[], []⟩)]) = _
        split <;> simp [find, hn]
      · rw [ins, (insBy_perm _ _ _).length_eq]
        simp

end Go.Proofs.YtegahpgnmeobhaaGreatDoor.Dk
